
/-
  A region that draws its order, each of whose operations tells the same whenever it comes up: one walk, in the text's order, whatever order is drawn.
-/
import Derived.WalkKit
import Derived.OrdersHeld
import Derived.Deep.MidRow
import Derived.Below
import Derived.StillTail
import Derived.Laws.StructEq
namespace Go.Proofs.YteehdjkmjncehaaDoor
open Go.RowKit
section
variable {P : Program} {ops : Array Oper} {Q : Exit → Act → World → Prop} {md : Region.Mode} {S : World → Prop}

/-- From every world of S the operation tells v, in a world of S. -/
def Tells (P : Program) (S : World → Prop) (x : Sem Next) (v : Value) : Prop :=
  ∀ w, S w → match x.run P w with
    | .ok (.value u) w' => u = v ∧ S w'
    | .ok (.enter f args) w' => Calls P f args w' fun e w'' => e = .returned v ∧ S w''
    | _ => False

/-- The same, where the operation's guard lets it. -/
def Steady (P : Program) (ops : Array Oper) (S : World → Prop) (o : Oper) (v : Value) (a : Act) : Prop :=
  (Region.wanted o (yielded ops a.tmps) = true ∧ Tells P S (execOp a.eval o) v) ∨
  (Region.wanted o (yielded ops a.tmps) = false ∧ v = undef)

theorem Steady.wpOp {i : Nat} {o : Oper} {v : Value} {a : Act} (hi : ops[i]? = some o) (hy : Steady P ops S o v a)
    {K : Act → World → Prop} {w : World} (hS : S w) (h : ∀ w', S w' → K (a.put o.dst v) w') : wpOp P ops Q i K a w := by
  unfold Go.wpOp
  simp only [hi]
  rcases hy with ⟨hw, hv0⟩ | ⟨hw, rfl⟩
  · simp only [hw, if_true]
    refine .inl ?_
    have hv := hv0 w hS
    clear hv0
    unfold Oper.wp
    generalize (execOp a.eval o).run P w = r at *
    cases r with
    | ok n w' =>
      cases n <;> simp only [Oper.upon] at hv ⊢
      case value u => exact hv.1 ▸ h _ hv.2
      case enter f args =>
        refine hv.mono fun e w'' he => ?_
        obtain ⟨rfl, he⟩ := he
        exact h _ he
    | halt x w' => exact hv.elim
  · simp only [hw, Bool.false_eq_true, if_false]; exact h _ hS

theorem Steady.of_same {o : Oper} {v : Value} {a a' : Act} (hy : Steady P ops S o v a) (he : execOp a'.eval o = execOp a.eval o)
    (hw : Region.wanted o (yielded ops a'.tmps) = Region.wanted o (yielded ops a.tmps)) : Steady P ops S o v a' := by
  unfold Steady at *
  rw [he, hw]
  exact hy

/-- Whatever order is picked, each operation tells the same. -/
def wpS (P : Program) (md : Region.Mode) (ops : Array Oper) (Q : Exit → Act → World → Prop) (S : World → Prop) : Nat → Array Bool → Act → Prop
  | 0, listed, a => Region.ready md ops listed = [] ∧ ∀ w, S w → Q .normal a w
  | fuel + 1, listed, a =>
    (Region.ready md ops listed = [] → ∀ w, S w → Q .normal a w) ∧
    ∀ i ∈ Region.ready md ops listed, ∃ (o : Oper) (v : Value), ops[i]? = some o ∧ Steady P ops S o v a ∧ wpS P md ops Q S fuel (listed.setIfInBounds i true) (a.put o.dst v)

theorem wpAny_of_steady : ∀ (fuel : Nat) (listed : Array Bool) (a : Act) (w : World), S w → wpS P md ops Q S fuel listed a → wpAny P md ops Q fuel listed a w
  | 0, _, _, _, hS, h => ⟨h.1, h.2 _ hS⟩
  | fuel + 1, _, _, _, hS, h => ⟨fun h0 => h.1 h0 _ hS, fun i hi => by
    obtain ⟨o, v, ho, hy, hr⟩ := h.2 i hi
    exact hy.wpOp ho hS fun w' hS' => wpAny_of_steady fuel _ _ w' hS' hr⟩

theorem wpS_first {i : Nat} {oi : Oper} {v : Value} (hi : ops[i]? = some oi) (hsel : ∀ (j : Nat) (o : Oper) cs b, ops[j]? = some o → o.op ≠ .select cs b) :
    ∀ (fuel : Nat) (listed : Array Bool) (a : Act),
      (∀ j oj, ops[j]? = some oj → j ≠ i → listed.getD j true = false → (∀ e ∈ oj.after, Region.binds md e = true → e.on ≠ i) → oi.apart ops oj = true) →
      i ∈ Region.ready md ops listed → Steady P ops S oi v a →
      wpS P md ops Q S fuel (listed.setIfInBounds i true) (a.put oi.dst v) → wpS P md ops Q S (fuel + 1) listed a := by
  intro fuel
  induction fuel with
  | zero =>
    intro listed a _ hr hy H
    refine ⟨fun h => (by rw [h] at hr; cases hr), fun j hj => ?_⟩
    by_cases hji : j = i
    · subst hji; exact ⟨oi, v, hi, hy, H⟩
    · have := ready_mono hj hji
      rw [H.1] at this
      cases this
  | succ fuel ih =>
    intro listed a hfree hr hy H
    refine ⟨fun h => (by rw [h] at hr; cases hr), fun j hj => ?_⟩
    by_cases hji : j = i
    · subst hji; exact ⟨oi, v, hi, hy, H⟩
    · obtain ⟨oj, u, hoj, hyj, hrest⟩ := H.2 j (ready_mono hj hji)
      obtain ⟨hjun, oj', hoj', hall⟩ := mem_ready.1 hj
      obtain rfl : oj' = oj := by rw [hoj] at hoj'; exact (Option.some.inj hoj').symm
      have hnot : ∀ e ∈ oj'.after, Region.binds md e = true → e.on ≠ i := fun e he hb heq => by
        have h1 := hall e he hb
        have h0 := (mem_ready.1 hr).1
        rw [heq] at h1
        rcases Nat.lt_or_ge i listed.size with h' | h'
        · simp [h'] at h0 h1; rw [h0] at h1; cases h1
        · simp [Array.getElem?_eq_none h'] at h1
      obtain ⟨h1, h2, h3⟩ := Oper.apart_spec (hfree j oj' hoj hji hjun hnot)
      have hsi := fun cs b => hsel i oi cs b hi
      have hsj := fun cs b => hsel j oj' cs b hoj
      have hyj' : Steady P ops S oj' u a := hyj.of_same (execOp_put oj' hsj a oi.dst v h1).symm (wanted_put oj' a oi.dst v h1).symm
      have hyi' : Steady P ops S oi v (a.put oj'.dst u) := hy.of_same (execOp_put oi hsi a oj'.dst u h3) (wanted_put oi a oj'.dst u h3)
      refine ⟨oj', u, hoj, hyj', ih _ _ (fun k ok hk hki hun hno => ?_) (ready_mono hr (Ne.symm hji)) hyi' ?_⟩
      · refine hfree k ok hk hki ?_ hno
        by_cases hjk : j = k
        · subst hjk; exact hjun
        · rw [getD_set_ne true hjk] at hun; exact hun
      · rw [Array.setIfInBounds_comm _ _ hji, ← Act.put_comm a v u h2]
        exact hrest

/-- The first i are listed. -/
def upTo (n i : Nat) : Array Bool := ((List.range n).map fun j => decide (j < i)).toArray
theorem upTo_zero (n : Nat) : upTo n 0 = Array.replicate n false := by
  apply Array.ext_getElem?
  intro j
  simp only [upTo, List.getElem?_toArray, List.getElem?_map, Array.getElem?_replicate]
  by_cases h : j < n
  · simp [h]
  · simp [h]
theorem upTo_succ (n i : Nat) : (upTo n i).setIfInBounds i true = upTo n (i + 1) := by
  apply Array.ext_getElem?
  intro j
  simp only [upTo, Array.getElem?_setIfInBounds, List.getElem?_toArray, List.getElem?_map, List.size_toArray, List.length_map, List.length_range]
  by_cases h : j < n
  · by_cases hij : i = j
    · subst hij; simp [h]
    · simp [hij, h]; omega
  · by_cases hij : i = j
    · subst hij; simp [h]
    · simp [hij, h]

/-- The text's order may be drawn, and nobody else's values are touched by it. -/
def inOrder (md : Region.Mode) (ops : Array Oper) : Bool :=
  Region.noSelect ops && (Region.ready md ops (upTo ops.size ops.size)).isEmpty && (List.range ops.size).all fun i => Region.free md ops (upTo ops.size i) i && (Region.ready md ops (upTo ops.size i)).contains i

/-- The walk in the text's order. -/
def wpSL (P : Program) (ops : Array Oper) (S : World → Prop) (K : Act → Prop) : List Oper → Act → Prop
  | [], a => K a
  | o :: rest, a => ∃ v, Steady P ops S o v a ∧ wpSL P ops S K rest (a.put o.dst v)

theorem wpS_of_list (l : List Oper) (hc : inOrder md l.toArray = true) : ∀ (i : Nat) (rest : List Oper) (a : Act), l.drop i = rest → i + rest.length = l.length →
    wpSL P l.toArray S (fun a => ∀ w, S w → Q .normal a w) rest a → wpS P md l.toArray Q S rest.length (upTo l.length i) a := by
  simp only [inOrder, Bool.and_eq_true, List.all_eq_true, List.mem_range, List.size_toArray, List.isEmpty_iff] at hc
  obtain ⟨⟨hs, he⟩, hc⟩ := hc
  intro i rest
  induction rest generalizing i with
  | nil =>
    intro a hd hl h
    simp only [List.length_nil, Nat.add_zero] at hl
    subst hl
    exact ⟨he, h⟩
  | cons o rest ih =>
    intro a hd hl h
    simp only [List.length_cons] at hl
    obtain ⟨v, hy, h⟩ := h
    have hio : l[i]? = some o := by
      have := congrArg (·[0]?) hd
      simpa using this
    have hc' := hc i (by omega)
    refine wpS_first (i := i) (oi := o) (v := v) (by simpa using hio) (Region.noSelect_spec hs) _ _ _ (Region.free_spec (by simpa using hio) hc'.1) (by simpa using hc'.2) hy ?_
    rw [upTo_succ]
    refine ih (i + 1) _ ?_ (by omega) h
    rw [← List.drop_drop, hd]; rfl

/-- **THE BEGINNING.** -/
theorem wp_region_steady {l : List Oper} {id : Nat} {a : Act} {w : World} (S : World → Prop) (hm : P.follows .mixedOrders = true) (hc : inOrder .any l.toArray = true) (hS : S w.drew)
    (h : wpSL P l.toArray S (fun a => ∀ w, S w → Q .normal a w) l a) : (Code.region id l.toArray true).wp P Q a w := by
  refine wp_region_any hm (wpAny_of_steady _ _ _ w.drew hS ?_)
  rw [List.size_toArray, ← upTo_zero]
  exact wpS_of_list l hc 0 l a rfl (by simp) h

/-! ### A region whose last operations stand in one order -/
/-- The first n operations tell the same in whatever order; behind them stands L. -/
def wpST (P : Program) (md : Region.Mode) (ops : Array Oper) (S : World → Prop) (n : Nat) (L : Array Bool → Act → Prop) : Nat → Array Bool → Act → Prop
  | 0, listed, a => L listed a
  | f + 1, listed, a =>
    Region.ready md ops listed ≠ [] ∧ ∀ i ∈ Region.ready md ops listed, i < n ∧ ∃ (o : Oper) (v : Value), ops[i]? = some o ∧ Steady P ops S o v a ∧ wpST P md ops S n L f (listed.setIfInBounds i true) (a.put o.dst v)

theorem wpAny_of_wpST {n g : Nat} {L : Array Bool → Act → Prop} (hL : ∀ listed a, L listed a → ∀ w, S w → wpAny P md ops Q g listed a w) :
    ∀ (f : Nat) (listed : Array Bool) (a : Act) (w : World), S w → wpST P md ops S n L f listed a → wpAny P md ops Q (f + g) listed a w
  | 0, listed, a, w, hS, h => by rw [Nat.zero_add]; exact hL _ _ h _ hS
  | f + 1, listed, a, w, hS, h => by
    rw [show f + 1 + g = (f + g) + 1 by omega]
    refine ⟨fun h0 => absurd h0 h.1, fun i hi => ?_⟩
    obtain ⟨_, o, v, ho, hy, hr⟩ := h.2 i hi
    exact hy.wpOp ho hS fun w' hS' => wpAny_of_wpST hL f _ _ w' hS' hr

theorem wpST_first {n i : Nat} {oi : Oper} {v : Value} {L : Array Bool → Act → Prop} (hi : ops[i]? = some oi) (hsel : ∀ (j : Nat) (o : Oper) cs b, ops[j]? = some o → o.op ≠ .select cs b)
    (hs : Region.sinkB md ops n = true) (hc : Region.chainB md ops n = true) (hn : n < ops.size) (hin : i < n)
    (hdone : ∀ listed a, L listed a → ∀ j ∈ Region.ready md ops listed, n ≤ j) :
    ∀ (f : Nat) (listed : Array Bool) (a : Act), HeadInv md ops n listed →
      (∀ j oj, ops[j]? = some oj → j ≠ i → listed.getD j true = false → (∀ e ∈ oj.after, Region.binds md e = true → e.on ≠ i) → oi.apart ops oj = true) →
      i ∈ Region.ready md ops listed → Steady P ops S oi v a →
      wpST P md ops S n L f (listed.setIfInBounds i true) (a.put oi.dst v) → wpST P md ops S n L (f + 1) listed a := by
  intro f
  induction f with
  | zero =>
    intro listed a inv _ hr hy H
    have hun := (mem_ready.1 hr).1
    refine ⟨fun h => (by rw [h] at hr; cases hr), fun j hj => ?_⟩
    have hjn : j < n := by
      rcases Nat.lt_or_ge j n with h | h
      · exact h
      · exact absurd hj (tail_waits hs hc hn inv _ i rfl hin hun j h)
    refine ⟨hjn, ?_⟩
    by_cases hji : j = i
    · subst hji; exact ⟨oi, v, hi, hy, H⟩
    · have := hdone _ _ H j (ready_mono hj hji)
      omega
  | succ f ih =>
    intro listed a inv hfree hr hy H
    have hun := (mem_ready.1 hr).1
    refine ⟨fun h => (by rw [h] at hr; cases hr), fun j hj => ?_⟩
    have hjn : j < n := by
      rcases Nat.lt_or_ge j n with h | h
      · exact h
      · exact absurd hj (tail_waits hs hc hn inv _ i rfl hin hun j h)
    refine ⟨hjn, ?_⟩
    by_cases hji : j = i
    · subst hji; exact ⟨oi, v, hi, hy, H⟩
    · obtain ⟨_, oj, u, hoj, hyj, hrest⟩ := H.2 j (ready_mono hj hji)
      obtain ⟨hjun, oj', hoj', hall⟩ := mem_ready.1 hj
      obtain rfl : oj' = oj := by rw [hoj] at hoj'; exact (Option.some.inj hoj').symm
      have hnot : ∀ e ∈ oj'.after, Region.binds md e = true → e.on ≠ i := fun e he hb heq => by
        have h1 := hall e he hb
        rw [heq, getD_both hun] at h1
        cases h1
      obtain ⟨h1, h2, h3⟩ := Oper.apart_spec (hfree j oj' hoj hji hjun hnot)
      have hsi := fun cs b => hsel i oi cs b hi
      have hsj := fun cs b => hsel j oj' cs b hoj
      have hyj' : Steady P ops S oj' u a := hyj.of_same (execOp_put oj' hsj a oi.dst v h1).symm (wanted_put oj' a oi.dst v h1).symm
      have hyi' : Steady P ops S oi v (a.put oj'.dst u) := hy.of_same (execOp_put oi hsi a oj'.dst u h3) (wanted_put oi a oj'.dst u h3)
      refine ⟨oj', u, hoj, hyj', ih _ _ (inv.set hj hjn) (fun k ok hk hki hun hno => ?_) (ready_mono hr (Ne.symm hji)) hyi' ?_⟩
      · refine hfree k ok hk hki ?_ hno
        by_cases hjk : j = k
        · subst hjk; exact hjun
        · rw [getD_set_ne true hjk] at hun; exact hun
      · rw [Array.setIfInBounds_comm _ _ hji, ← Act.put_comm a v u h2]
        exact hrest

theorem wpST_lex {n g : Nat} {K : Act → Prop} (hsel : Region.noSelect ops = true) (hs : Region.sinkB md ops n = true) (hc : Region.chainB md ops n = true) (hn : n < ops.size) :
    ∀ (l : List Oper) (k : Nat) (listed : Array Bool) (a : Act), (∀ j, j < l.length → l[j]? = ops[k + j]?) → k + l.length = n → HeadInv md ops n listed →
    Region.lexHead md ops g l.length k listed = true → wpSL P ops S K l a →
    wpST P md ops S n (fun listed' a' => Region.seqB md ops g n listed' = true ∧ K a') l.length listed a
  | [], k, listed, a, _, hk, _, hB, h => by
    have : k = n := by simpa using hk
    subst this
    exact ⟨by simpa [Region.lexHead] using hB, h⟩
  | o :: l, k, listed, a, hl, hk, inv, hB, h => by
    have h0 : ops[k]? = some o := by simpa using (hl 0 (by simp)).symm
    simp only [List.length_cons, Region.lexHead, Bool.and_eq_true] at hB
    obtain ⟨⟨hr, hf⟩, hB'⟩ := hB
    have hkn : k < n := by simp only [List.length_cons] at hk; omega
    have hr' : k ∈ Region.ready md ops listed := by simpa using hr
    obtain ⟨v, hy, h⟩ := h
    refine wpST_first h0 (Region.noSelect_spec hsel) hs hc hn hkn (fun listed' a' hL => seqB_ready hL.1) l.length listed a inv (Region.free_spec h0 hf) hr' hy ?_
    exact wpST_lex hsel hs hc hn l (k + 1) _ _ (fun j hj => by have := hl (j + 1) (by simpa using hj); simpa [Nat.add_assoc, Nat.add_comm 1 j] using this) (by simp only [List.length_cons] at hk; omega) (inv.set hr' hkn) hB' h

/-- **THE BEGINNING**, where the operations from number n on stand in one order behind all others: they are walked as a plain list. -/
theorem wp_region_steady_tail {l : List Oper} {id : Nat} {a : Act} {w : World} (n : Nat) (S : World → Prop) (hm : P.follows .mixedOrders = true) (hc : Region.lexTailB .any l.toArray n = true) (hS : S w.drew)
    (h : wpSL P l.toArray S (fun a => ∀ w, S w → wpList P l.toArray Q (l.drop n) a w) (l.take n) a) : (Code.region id l.toArray true).wp P Q a w := by
  simp only [Region.lexTailB, Bool.and_eq_true, decide_eq_true_eq] at hc
  obtain ⟨⟨⟨⟨h1, h2⟩, h3⟩, h4⟩, h5⟩ := hc
  have hsz : l.toArray.size = l.length := List.size_toArray
  rw [hsz] at h2
  have hlt : (l.take n).length = n := by rw [List.length_take]; omega
  have inv : HeadInv .any l.toArray n (Array.replicate l.toArray.size false) :=
    ⟨by simp, fun j oj _ hl => (by rw [getD_replicate_false] at hl; cases hl), fun t _ ht => getD_in (by simpa using ht) (getD_replicate_false _ _)⟩
  have hst := wpST_lex (P := P) (S := S) (K := fun a => ∀ w, S w → wpList P l.toArray Q (l.drop n) a w) (md := .any) (ops := l.toArray) (n := n) (g := l.toArray.size - n) h1 h3 h4 (by rw [hsz]; exact h2) (l.take n) 0 (Array.replicate l.toArray.size false) a
    (fun j hj => by rw [hlt] at hj; simp [hj]) (by rw [hlt]; omega) inv (by rw [hlt]; exact h5) h
  rw [hlt] at hst
  refine wp_region_any hm ?_
  have := wpAny_of_wpST (Q := Q) (g := l.toArray.size - n) (fun listed a hL w hS => ?_) n _ a w.drew hS hst
  · rw [show l.toArray.size = n + (l.toArray.size - n) by rw [hsz]; omega]
    have e : n + (l.toArray.size - n) = l.toArray.size := by rw [hsz]; omega
    rw [e]
    rw [e] at this
    exact this
  · have hd : (l.drop n).length = l.toArray.size - n := by rw [List.length_drop, hsz]
    have := wpAny_of_seq (P := P) (md := .any) (ops := l.toArray) (Q' := Q) (l.drop n) n listed a w (fun j => by simp) (by rw [hd]; exact hL.1) (hL.2 w hS)
    rw [hd] at this
    exact this

/-- An operation that tells without a step. -/
theorem wpSL_value {K : Act → Prop} {o : Oper} {rest : List Oper} {a : Act} {v : Value} (hw : Region.wanted o (yielded ops a.tmps) = true)
    (hx : ∀ w, S w → (execOp a.eval o).run P w = .ok (.value v) w) (h : wpSL P ops S K rest (a.put o.dst v)) : wpSL P ops S K (o :: rest) a :=
  ⟨v, .inl ⟨hw, fun w hS => by rw [hx w hS]; exact ⟨rfl, hS⟩⟩, h⟩
/-- A call. -/
theorem wpSL_call {K : Act → Prop} {o : Oper} {rest : List Oper} {a : Act} {v : Value} {f : FuncId} {args : Array Value} (hw : Region.wanted o (yielded ops a.tmps) = true)
    (hx : ∀ w, (execOp a.eval o).run P w = .ok (.enter f args) w) (hf : ∀ w, S w → Calls P f args w fun e w' => e = .returned v ∧ S w') (h : wpSL P ops S K rest (a.put o.dst v)) : wpSL P ops S K (o :: rest) a :=
  ⟨v, .inl ⟨hw, fun w hS => by rw [hx w]; exact hf w hS⟩, h⟩
/-- An operation that its guard keeps back. -/
theorem wpSL_not {K : Act → Prop} {o : Oper} {rest : List Oper} {a : Act} (hw : Region.wanted o (yielded ops a.tmps) = false)
    (h : wpSL P ops S K rest (a.put o.dst undef)) : wpSL P ops S K (o :: rest) a :=
  ⟨undef, .inr ⟨hw, rfl⟩, h⟩
theorem wpSL_nil {K : Act → Prop} {a : Act} (h : K a) : wpSL P ops S K [] a := h
/-- A load of a long array. -/
theorem wpSL_load {K : Act → Prop} {o : Oper} {rest : List Oper} {a : Act} (hw : Region.wanted o (yielded ops a.tmps) = true) (ty : TypeId) (x : Operand) (ho : o.op = .load ty x)
    (b q : Nat) (hx : a.eval x = .pointer (some ⟨b, q, none⟩)) (cs : List Value) (d : TypeDesc) (hS : ∀ w, S w → w.rangeAt b q cs)
    (hu : P.underlying ty = some d) (hd : d.isRow = true) (hi : (P.info? ty).map (·.size) = some cs.length)
    (h : wpSL P ops S K rest (a.put o.dst (.agg cs.toArray))) : wpSL P ops S K (o :: rest) a :=
  wpSL_value hw (fun w hw' => by
    unfold execOp
    simp only [ho, hx, Instr.loadAt, Instr.sureAddr, Sem.run_bind, Sem.run_pure, Result.andThen_ok, run_loadVar_mid w b q ty cs d (hS w hw') hu hd hi]) h
end

theorem wpSL_eql {P : Program} {ops : Array Oper} {S : World → Prop} {K : Act → Prop} {o : Oper} {rest : List Oper} {a : Act} {b : Bool} (hw : Region.wanted o (yielded ops a.tmps) = true) (t : TypeId) (x y : Operand) (t' : TypeId)
    (ho : o.op = .binOp .eql t x y t') (xs ys : Array Value) (hx : a.eval x = .agg xs) (hy : a.eval y = .agg ys) (hg : P.eqGuardType P.depth t = false)
    (hb : ∀ w, (binOp .eql t (.agg xs) (.agg ys)).run P w = .ok (.bool b) w)
    (h : wpSL P ops S K rest (a.put o.dst (.bool b))) : wpSL P ops S K (o :: rest) a :=
  wpSL_value hw (fun w _ => by
    unfold execOp
    simp only [ho, hx, hy, Sem.run_bind, Sem.run_pure, run_eqGuard_agg w .eql t x y xs ys hg, Result.andThen_ok, hb]) h
theorem rangeAt_new (w : World) (cs : List Value) (T : Nat) : (w.alloc (.cells cs.toArray T)).rangeAt w.heap.size 0 cs := by
  intro j v hj
  have h := heap_alloc_new w (.cells cs.toArray T)
  simp only [World.cell?, h]
  simpa using hj

/-- A function that tells v, whatever the world, and leaves what was there. -/
def Pure (P : Program) (f : FuncId) (args : Array Value) (v : Value) : Prop := ∀ w, Calls P f args w fun e w' => e = .returned v ∧ Below w.heap.size w w'
/-- What was there in w0 is as it was. -/
def Since (w0 w : World) : Prop := Below w0.heap.size w0 w
theorem Since.refl (w : World) : Since w w := Below.refl _ _
theorem Since.drew (w : World) : Since w w.drew := (Below.refl _ _).drew
theorem Pure.since {P : Program} {f : FuncId} {args : Array Value} {v : Value} (h : Pure P f args v) {w0 : World} : ∀ w, Since w0 w → Calls P f args w fun e w' => e = .returned v ∧ Since w0 w' :=
  fun w hw => (h w).mono fun _ _ he => ⟨he.1, Below.trans hw (he.2.mono hw.size)⟩
theorem Since.range {w0 w : World} (h : Since w0 w) {b o : Nat} {cs : List Value} (hr : w0.rangeAt b o cs) (hb : b < w0.heap.size) : w.rangeAt b o cs := by
  intro j v hj
  rw [Below.cell (p := ⟨b, o + j, none⟩) h hb]; exact hr j v hj
theorem Since.cell {w0 w : World} (h : Since w0 w) {p : Addr} {v : Value} (hr : w0.cell? p = some v) : w.cell? p = some v := by
  rw [Below.cell h (World.block_lt_of_cell? w0 p hr)]; exact hr
end Go.Proofs.YteehdjkmjncehaaDoor
