
/-
  A symbolic walk: what the slots and the blocks hold is said by two lists; each operation is one step on these lists, whatever the activation and the world are.
-/
import Derived.Test.YteehdjkmjncehaaDoorSteady
import Derived.Great.BuildSlice
namespace Go.Proofs.YteehdjkmjncehaaDoor
open Go.RowKit
/-- What the slots hold. -/
structure Tm (n : Nat) (σ : List (Nat × Value)) (a : Act) : Prop where
  defers : a.defers = []
  size : a.tmps.size = n
  held : ∀ d v, σ.lookup d = some v → a.tmps[d]? = some v
/-- An operand's value. -/
def evS (σ : List (Nat × Value)) : Operand → Option Value
  | .tmp d => σ.lookup d
  | .const v => some v
  | .global g => some (.pointer (some ⟨g, 0, none⟩))
  | .func f => some (.func (.func f) #[] #[])
/-- What was there in w0 is as it was, but for the blocks of D. -/
structure Sn (D : Nat → Bool) (w0 w : World) : Prop where
  os : w.os = w0.os
  tape : w.tape = w0.tape
  output : w.output = w0.output
  size : w0.heap.size ≤ w.heap.size
  block : ∀ k, k < w0.heap.size → D k = false → w.heap[k]? = w0.heap[k]?
/-- What the blocks hold. -/
structure Hold (D : Nat → Bool) (w0 : World) (η : List (Nat × Obj)) (w : World) : Prop where
  sn : Sn D w0 w
  held : ∀ p ∈ η, w.heap[p.1]? = some p.2
  nd : (η.map Prod.fst).Nodup
theorem Tm.put {n d : Nat} {σ : List (Nat × Value)} {a : Act} (h : Tm n σ a) (hd : d < n) (v : Value) : Tm n ((d, v) :: σ) (a.put (some d) v) := by
  refine ⟨h.defers, by simp [Act.put, h.size], fun k u hk => ?_⟩
  simp only [Act.put]
  rw [Array.getElem?_setIfInBounds]
  by_cases e : d = k
  · subst e
    simp only [List.lookup_cons, beq_self_eq_true] at hk
    simp [h.size, hd, Option.some.inj hk]
  · have e2 : (k == d) = false := by simpa using fun h => e h.symm
    simp only [List.lookup_cons, e2] at hk
    rw [if_neg e]; exact h.held k u hk
theorem Tm.eval {n : Nat} {σ : List (Nat × Value)} {a : Act} (h : Tm n σ a) {x : Operand} {v : Value} (hx : evS σ x = some v) : a.eval x = v := by
  cases x with
  | tmp d => have := h.held d v hx; simp [Act.eval, this]
  | const u => exact Option.some.inj hx
  | global g => exact Option.some.inj hx
  | func f => exact Option.some.inj hx
/-- Slots are forgotten. -/
def keepS (ks : List Nat) (σ : List (Nat × Value)) : List (Nat × Value) := ks.filterMap fun k => (σ.lookup k).map fun v => (k, v)
theorem lookup_keepS (σ : List (Nat × Value)) (d : Nat) (v : Value) : ∀ ks : List Nat, (keepS ks σ).lookup d = some v → σ.lookup d = some v
  | [], h => by cases h
  | k :: ks, h => by
    unfold keepS at h
    rw [List.filterMap_cons] at h
    cases hk : σ.lookup k with
    | none => rw [hk] at h; exact lookup_keepS σ d v ks h
    | some u =>
      rw [hk] at h
      simp only [Option.map_some, List.lookup_cons] at h
      by_cases e : (d == k) = true
      · rw [e] at h
        have e' : d = k := by simpa using e
        subst e'; rw [hk]; exact h
      · have e' : (d == k) = false := by simpa using e
        rw [e'] at h
        exact lookup_keepS σ d v ks h
theorem Tm.keep {n : Nat} {σ : List (Nat × Value)} {a : Act} (h : Tm n σ a) (ks : List Nat) : Tm n (keepS ks σ) a := ⟨h.defers, h.size, fun d v hd => h.held d v (lookup_keepS σ d v ks hd)⟩
theorem Tm.sub {n : Nat} {σ σ' : List (Nat × Value)} {a : Act} (h : Tm n σ a) (hs : ∀ p ∈ σ', σ.lookup p.1 = some p.2) : Tm n σ' a := by
  refine ⟨h.defers, h.size, fun d v hd => h.held d v ?_⟩
  induction σ' with
  | nil => cases hd
  | cons p σ' ih =>
    obtain ⟨k, u⟩ := p
    simp only [List.lookup_cons] at hd
    by_cases e : (d == k) = true
    · rw [e] at hd
      have e' : d = k := by simpa using e
      subst e'
      have := hs (d, u) (by simp)
      rw [← Option.some.inj hd]; exact this
    · have e' : (d == k) = false := by simpa using e
      rw [e'] at hd
      exact ih (fun p hp => hs p (by simp [hp])) hd
theorem Sn.refl (D : Nat → Bool) (w : World) : Sn D w w := ⟨rfl, rfl, rfl, Nat.le_refl _, fun _ _ _ => rfl⟩
theorem Sn.on {D : Nat → Bool} {w0 w w' : World} (h : Sn D w0 w) (hb : Below w.heap.size w w') : Sn D w0 w' :=
  ⟨hb.os.trans h.os, hb.tape.trans h.tape, hb.output.trans h.output, Nat.le_trans h.size hb.size, fun k hk hd => (hb.block k (Nat.lt_of_lt_of_le hk h.size)).trans (h.block k hk hd)⟩
theorem Sn.below {D : Nat → Bool} {w0 w : World} (h : Sn D w0 w) (hd : ∀ k, k < w0.heap.size → D k = false) : Below w0.heap.size w0 w :=
  ⟨h.os, h.tape, h.output, h.size, fun k hk => h.block k hk (hd k hk)⟩
/-- Nothing may turn. -/
def noD : Nat → Bool := fun _ => false
theorem Sn.pure {w0 w : World} (h : Sn noD w0 w) : Below w0.heap.size w0 w := h.below fun _ _ => rfl
theorem Hold.lt {D : Nat → Bool} {w0 w : World} {η : List (Nat × Obj)} (h : Hold D w0 η w) {b : Nat} {o : Obj} (hp : (b, o) ∈ η) : b < w.heap.size := (Array.getElem?_eq_some_iff.1 (h.held _ hp)).1
theorem Hold.at {D : Nat → Bool} {w0 w : World} {η : List (Nat × Obj)} (h : Hold D w0 η w) {i b : Nat} {o : Obj} (hp : η[i]? = some (b, o)) : w.heap[b]? = some o := h.held (b, o) (List.mem_of_getElem? hp)
theorem Hold.on {D : Nat → Bool} {w0 w w' : World} {η : List (Nat × Obj)} (h : Hold D w0 η w) (hb : Below w.heap.size w w') : Hold D w0 η w' :=
  ⟨h.sn.on hb, fun p hp => (hb.block _ (h.lt hp)).trans (h.held p hp), h.nd⟩
theorem Hold.drew {D : Nat → Bool} {w0 w : World} {η : List (Nat × Obj)} (h : Hold D w0 η w) : Hold D w0 η w.drew := ⟨⟨h.sn.os, h.sn.tape, h.sn.output, h.sn.size, h.sn.block⟩, h.held, h.nd⟩
theorem Hold.alloc {D : Nat → Bool} {w0 w : World} {η : List (Nat × Obj)} (h : Hold D w0 η w) (ob : Obj) : w0.heap.size ≤ w.heap.size ∧ Hold D w0 ((w.heap.size, ob) :: η) (w.alloc ob) := by
  refine ⟨h.sn.size, h.sn.on ((Below.refl _ _).alloc (Nat.le_refl _) _), fun p hp => ?_, ?_⟩
  · rcases List.mem_cons.1 hp with rfl | hp
    · exact heap_alloc_new w ob
    · exact (heap_alloc_old _ _ (h.lt hp)).trans (h.held p hp)
  · rw [List.map_cons, List.nodup_cons]
    refine ⟨fun hm => ?_, h.nd⟩
    obtain ⟨p, hp, e⟩ := List.mem_map.1 hm
    have := h.lt hp
    rw [e] at this
    exact Nat.lt_irrefl _ this
/-- Blocks are forgotten, or laid in another order. -/
theorem Hold.sub {D : Nat → Bool} {w0 w : World} {η η' : List (Nat × Obj)} (h : Hold D w0 η w) (hs : ∀ p ∈ η', p ∈ η) (hn : (η'.map Prod.fst).Nodup) : Hold D w0 η' w := ⟨h.sn, fun p hp => h.held p (hs p hp), hn⟩
theorem set_fst {η : List (Nat × Obj)} {i b : Nat} {o o' : Obj} (hp : η[i]? = some (b, o)) : (η.set i (b, o')).map Prod.fst = η.map Prod.fst := by
  apply List.ext_getElem?
  intro k
  simp only [List.getElem?_map, List.getElem?_set]
  by_cases e : i = k
  · subst e
    obtain ⟨hl, he⟩ := List.getElem?_eq_some_iff.1 hp
    simp [hl, he]
  · simp [e]
/-- A block is overwritten. -/
theorem Hold.put {D : Nat → Bool} {w0 w w' : World} {η : List (Nat × Obj)} (h : Hold D w0 η w) {i b : Nat} {o o' : Obj} (hp : η[i]? = some (b, o)) (hD : w0.heap.size ≤ b ∨ D b = true)
    (hos : w'.os = w.os) (ht : w'.tape = w.tape) (hou : w'.output = w.output) (hsz : w.heap.size ≤ w'.heap.size) (hb : ∀ k, k < w.heap.size → k ≠ b → w'.heap[k]? = w.heap[k]?) (ho : w'.heap[b]? = some o') : Hold D w0 (η.set i (b, o')) w' := by
  refine ⟨⟨hos.trans h.sn.os, ht.trans h.sn.tape, hou.trans h.sn.output, Nat.le_trans h.sn.size hsz, fun k hk hd => ?_⟩, fun p hp' => ?_, by rw [set_fst hp]; exact h.nd⟩
  · by_cases e : k = b
    · subst e; rcases hD with hD | hD
      · omega
      · rw [hD] at hd; cases hd
    · exact (hb k (Nat.lt_of_lt_of_le hk h.sn.size) e).trans (h.sn.block k hk hd)
  · obtain ⟨k, hk⟩ := List.getElem?_of_mem hp'
    rw [List.getElem?_set] at hk
    by_cases e : i = k
    · subst e
      obtain ⟨hl, _⟩ := List.getElem?_eq_some_iff.1 hp
      simp [hl] at hk
      subst hk; exact ho
    · rw [if_neg e] at hk
      have hm := List.mem_of_getElem? hk
      refine (hb _ (h.lt hm) fun e2 => e ?_).trans (h.held p hm)
      have n := List.pairwise_iff_getElem.1 h.nd
      obtain ⟨li, gi⟩ := List.getElem?_eq_some_iff.1 hp
      obtain ⟨lk, gk⟩ := List.getElem?_eq_some_iff.1 hk
      rcases Nat.lt_trichotomy i k with hlt | heq | hlt
      · exact (n i k (by simpa using li) (by simpa using lk) hlt (by simp [gi, gk, e2])).elim
      · exact heq
      · exact (n k i (by simpa using lk) (by simpa using li) hlt (by simp [gi, gk, e2])).elim
section
variable {P : Program} {ops : Array Oper} {Q : Exit → Act → World → Prop} {md : Region.Mode} {D : Nat → Bool} {w0 : World} {n : Nat}
/-- The operation, at this activation, tells v in every world of I. -/
def ValI (P : Program) (ops : Array Oper) (I : World → Prop) (o : Oper) (v : Value) (a : Act) : Prop :=
  (Region.wanted o (yielded ops a.tmps) = true ∧ ∀ w, I w → match (execOp a.eval o).run P w with
    | .ok (.value u) w' => u = v ∧ Below w.heap.size w w'
    | .ok (.enter f args) w' => Calls P f args w' fun e w'' => e = .returned v ∧ Below w.heap.size w w''
    | _ => False) ∨
  (Region.wanted o (yielded ops a.tmps) = false ∧ v = undef)
/-- The operation makes a block. -/
def NewI (P : Program) (ops : Array Oper) (I : World → Prop) (o : Oper) (ob : Obj) (pv : Nat → Value) (a : Act) : Prop :=
  Region.wanted o (yielded ops a.tmps) = true ∧ ∀ w, I w → (execOp a.eval o).run P w = .ok (.value (pv w.heap.size)) (w.alloc ob)
theorem ValI.of_same {I : World → Prop} {o : Oper} {v : Value} {a a' : Act} (hy : ValI P ops I o v a) (he : execOp a'.eval o = execOp a.eval o)
    (hw : Region.wanted o (yielded ops a'.tmps) = Region.wanted o (yielded ops a.tmps)) : ValI P ops I o v a' := by
  unfold ValI at *; rw [he, hw]; exact hy
theorem NewI.of_same {I : World → Prop} {o : Oper} {ob : Obj} {pv : Nat → Value} {a a' : Act} (hy : NewI P ops I o ob pv a) (he : execOp a'.eval o = execOp a.eval o)
    (hw : Region.wanted o (yielded ops a'.tmps) = Region.wanted o (yielded ops a.tmps)) : NewI P ops I o ob pv a' := by
  unfold NewI at *; rw [he, hw]; exact hy
/-- One operation of the head: a value, or a new block. -/
def StepN (P : Program) (ops : Array Oper) (I : World → Prop) (w0 : World) (o : Oper) (a : Act) (η : List (Nat × Obj)) (K : Act → List (Nat × Obj) → Prop) : Prop :=
  (∃ v, ValI P ops I o v a ∧ K (a.put o.dst v) η) ∨
  (∃ ob pv, NewI P ops I o ob pv a ∧ ∀ b, w0.heap.size ≤ b → b ∉ η.map Prod.fst → K (a.put o.dst (pv b)) ((b, ob) :: η))
/-- The first n operations come in whatever order; behind them stands L. -/
def wpN (P : Program) (md : Region.Mode) (ops : Array Oper) (I : World → Prop) (w0 : World) (n : Nat) (L : Array Bool → Act → List (Nat × Obj) → Prop) : Nat → Array Bool → Act → List (Nat × Obj) → Prop
  | 0, listed, a, η => L listed a η
  | f + 1, listed, a, η => Region.ready md ops listed ≠ [] ∧ ∀ i ∈ Region.ready md ops listed, i < n ∧ ∃ o, ops[i]? = some o ∧ StepN P ops I w0 o a η (wpN P md ops I w0 n L f (listed.setIfInBounds i true))
theorem StepN.wpOp {I : World → Prop} {i : Nat} {o : Oper} {a : Act} {η : List (Nat × Obj)} {K : Act → List (Nat × Obj) → Prop} {K' : Act → World → Prop} (hi : ops[i]? = some o) (h : StepN P ops I w0 o a η K) {w : World} (hw : Hold D w0 η w) (hI : I w)
    (hK : ∀ a η w', K a η → Hold D w0 η w' → Below w.heap.size w w' → K' a w') : wpOp P ops Q i K' a w := by
  unfold Go.wpOp
  simp only [hi]
  rcases h with ⟨v, hv, hk⟩ | ⟨ob, pv, ⟨hwt, hx⟩, hk⟩
  · rcases hv with ⟨hwt, hx⟩ | ⟨hwt, rfl⟩
    · simp only [hwt, if_true]
      refine .inl ?_
      have hv := hx w hI
      clear hx
      unfold Oper.wp
      generalize (execOp a.eval o).run P w = r at *
      cases r with
      | ok nx w' =>
        cases nx <;> simp only [Oper.upon] at hv ⊢
        case value u => exact hv.1 ▸ hK _ _ _ hk (hw.on hv.2) hv.2
        case enter f args =>
          refine hv.mono fun e w'' he => ?_
          obtain ⟨rfl, he⟩ := he
          exact hK _ _ _ hk (hw.on he) he
      | halt x w' => exact hv.elim
    · simp only [hwt, Bool.false_eq_true, if_false]; exact hK _ _ _ hk hw (Below.refl _ _)
  · simp only [hwt, if_true]
    refine .inl ?_
    unfold Oper.wp
    rw [hx w hI]
    obtain ⟨h1, h2⟩ := hw.alloc ob
    refine hK _ _ _ (hk _ h1 fun hm => ?_) h2 ((Below.refl _ _).alloc (Nat.le_refl _) _)
    have := h2.nd
    rw [List.map_cons, List.nodup_cons] at this
    exact this.1 hm
theorem wpAny_of_wpN {I : World → Prop} {m g : Nat} {L : Array Bool → Act → List (Nat × Obj) → Prop} (hIb : ∀ w w', I w → Below w.heap.size w w' → I w')
    (hL : ∀ listed a η, L listed a η → ∀ w, Hold D w0 η w → wpAny P md ops Q g listed a w) :
    ∀ (f : Nat) (listed : Array Bool) (a : Act) (η : List (Nat × Obj)) (w : World), Hold D w0 η w → I w → wpN P md ops I w0 m L f listed a η → wpAny P md ops Q (f + g) listed a w
  | 0, listed, a, η, w, hS, _, h => by rw [Nat.zero_add]; exact hL _ _ _ h _ hS
  | f + 1, listed, a, η, w, hS, hI, h => by
    rw [show f + 1 + g = (f + g) + 1 by omega]
    refine ⟨fun h0 => absurd h0 h.1, fun i hi => ?_⟩
    obtain ⟨_, o, ho, hs⟩ := h.2 i hi
    exact hs.wpOp ho hS hI fun a η w' hk hw hb => wpAny_of_wpN hIb hL f _ a η w' hw (hIb _ _ hI hb) hk
theorem wpN_first {I : World → Prop} {m i : Nat} {oi : Oper} {v : Value} {L : Array Bool → Act → List (Nat × Obj) → Prop} (hi : ops[i]? = some oi) (hsel : ∀ (j : Nat) (o : Oper) cs b, ops[j]? = some o → o.op ≠ .select cs b)
    (hs : Region.sinkB md ops m = true) (hc : Region.chainB md ops m = true) (hn : m < ops.size) (hin : i < m)
    (hdone : ∀ listed a η, L listed a η → ∀ j ∈ Region.ready md ops listed, m ≤ j) :
    ∀ (f : Nat) (listed : Array Bool) (a : Act) (η : List (Nat × Obj)), HeadInv md ops m listed →
      (∀ j oj, ops[j]? = some oj → j ≠ i → listed.getD j true = false → (∀ e ∈ oj.after, Region.binds md e = true → e.on ≠ i) → oi.apart ops oj = true) →
      i ∈ Region.ready md ops listed → ValI P ops I oi v a →
      wpN P md ops I w0 m L f (listed.setIfInBounds i true) (a.put oi.dst v) η → wpN P md ops I w0 m L (f + 1) listed a η := by
  intro f
  induction f with
  | zero =>
    intro listed a η inv _ hr hy H
    have hun := (mem_ready.1 hr).1
    refine ⟨fun h => (by rw [h] at hr; cases hr), fun j hj => ?_⟩
    have hjn : j < m := by
      rcases Nat.lt_or_ge j m with h | h
      · exact h
      · exact absurd hj (tail_waits hs hc hn inv _ i rfl hin hun j h)
    refine ⟨hjn, ?_⟩
    by_cases hji : j = i
    · subst hji; exact ⟨oi, hi, .inl ⟨v, hy, H⟩⟩
    · have := hdone _ _ _ H j (ready_mono hj hji)
      omega
  | succ f ih =>
    intro listed a η inv hfree hr hy H
    have hun := (mem_ready.1 hr).1
    refine ⟨fun h => (by rw [h] at hr; cases hr), fun j hj => ?_⟩
    have hjn : j < m := by
      rcases Nat.lt_or_ge j m with h | h
      · exact h
      · exact absurd hj (tail_waits hs hc hn inv _ i rfl hin hun j h)
    refine ⟨hjn, ?_⟩
    by_cases hji : j = i
    · subst hji; exact ⟨oi, hi, .inl ⟨v, hy, H⟩⟩
    · obtain ⟨_, oj, hoj, hst⟩ := H.2 j (ready_mono hj hji)
      obtain ⟨hjun, oj', hoj', hall⟩ := mem_ready.1 hj
      obtain rfl : oj' = oj := by rw [hoj] at hoj'; exact (Option.some.inj hoj').symm
      have hnot : ∀ e ∈ oj'.after, Region.binds md e = true → e.on ≠ i := fun e he hb heq => by
        have h1 := hall e he hb
        rw [heq, getD_both hun] at h1
        cases h1
      obtain ⟨h1, h2, h3⟩ := Oper.apart_spec (hfree j oj' hoj hji hjun hnot)
      have hsi := fun cs b => hsel i oi cs b hi
      have hsj := fun cs b => hsel j oj' cs b hoj
      have e1 := (execOp_put oj' hsj a oi.dst v h1).symm
      have e2 := (wanted_put oj' a oi.dst v h1).symm
      have hyi : ∀ u, ValI P ops I oi v (a.put oj'.dst u) := fun u => hy.of_same (execOp_put oi hsi a oj'.dst u h3) (wanted_put oi a oj'.dst u h3)
      have fin : ∀ u η', wpN P md ops I w0 m L f ((listed.setIfInBounds i true).setIfInBounds j true) ((a.put oi.dst v).put oj'.dst u) η' → wpN P md ops I w0 m L (f + 1) (listed.setIfInBounds j true) (a.put oj'.dst u) η' := fun u η' hx => by
        refine ih _ _ _ (inv.set hj hjn) (fun k ok hk hki hun hno => ?_) (ready_mono hr (Ne.symm hji)) (hyi u) ?_
        · refine hfree k ok hk hki ?_ hno
          by_cases hjk : j = k
          · subst hjk; exact hjun
          · rw [getD_set_ne true hjk] at hun; exact hun
        · rw [Array.setIfInBounds_comm _ _ hji, ← Act.put_comm a v u h2]
          exact hx
      refine ⟨oj', hoj, ?_⟩
      rcases hst with ⟨u, hv, hk⟩ | ⟨ob, pv, hn, hk⟩
      · exact .inl ⟨u, hv.of_same e1 e2, fin u η hk⟩
      · exact .inr ⟨ob, pv, hn.of_same e1 e2, fun b hb hm => fin _ _ (hk b hb hm)⟩
/-- The walk in the text's order of the operations that tell values. -/
def wpVI (P : Program) (ops : Array Oper) (I : World → Prop) (K : Act → Prop) : List Oper → Act → Prop
  | [], a => K a
  | o :: rest, a => ∃ v, ValI P ops I o v a ∧ wpVI P ops I K rest (a.put o.dst v)
/-- The first f from k on may be drawn in the text's order; behind them what is ready is r. -/
def headOk (md : Region.Mode) (ops : Array Oper) (r : Array Bool → Bool) : Nat → Nat → Array Bool → Bool
  | 0, _, listed => r listed
  | f + 1, k, listed => (Region.ready md ops listed).contains k && Region.free md ops listed k && headOk md ops r f (k + 1) (listed.setIfInBounds k true)
/-- The values are v, then m blocks are made (0, 1 or 2), and from n on there is one order. -/
def regionOk (md : Region.Mode) (ops : Array Oper) (v m : Nat) : Bool :=
  Region.noSelect ops && decide (v + m < ops.size) && Region.sinkB md ops (v + m) && Region.chainB md ops (v + m) &&
  headOk md ops (fun listed => match m with
    | 0 => Region.seqB md ops (ops.size - v) v listed
    | 1 => decide (Region.ready md ops listed = [v]) && Region.seqB md ops (ops.size - (v + 1)) (v + 1) (listed.setIfInBounds v true)
    | 2 => decide (Region.ready md ops listed = [v, v + 1]) && decide (Region.ready md ops (listed.setIfInBounds v true) = [v + 1]) && decide (Region.ready md ops (listed.setIfInBounds (v + 1) true) = [v]) && Region.seqB md ops (ops.size - (v + 2)) (v + 2) ((listed.setIfInBounds v true).setIfInBounds (v + 1) true)
    | _ => false) v 0 (Array.replicate ops.size false)
theorem wpN_lex {I : World → Prop} {m : Nat} {r : Array Bool → Bool} {L : Array Bool → Act → List (Nat × Obj) → Prop} {g : Nat} {K : Act → Prop} {η : List (Nat × Obj)} (hsel : Region.noSelect ops = true) (hs : Region.sinkB md ops m = true) (hc : Region.chainB md ops m = true) (hn : m < ops.size)
    (hdone : ∀ listed a η, L listed a η → ∀ j ∈ Region.ready md ops listed, m ≤ j)
    (hL : ∀ listed a, HeadInv md ops m listed → r listed = true → K a → wpN P md ops I w0 m L g listed a η) :
    ∀ (l : List Oper) (k : Nat) (listed : Array Bool) (a : Act), (∀ j, j < l.length → l[j]? = ops[k + j]?) → k + l.length ≤ m → HeadInv md ops m listed →
    headOk md ops r l.length k listed = true → wpVI P ops I K l a → wpN P md ops I w0 m L (l.length + g) listed a η
  | [], k, listed, a, _, hk, inv, hB, h => by rw [List.length_nil, Nat.zero_add]; exact hL _ _ inv hB h
  | o :: l, k, listed, a, hl, hk, inv, hB, h => by
    have h0 : ops[k]? = some o := by simpa using (hl 0 (by simp)).symm
    simp only [List.length_cons, headOk, Bool.and_eq_true] at hB
    obtain ⟨⟨hr, hf⟩, hB'⟩ := hB
    have hkn : k < m := by simp only [List.length_cons] at hk; omega
    have hr' : k ∈ Region.ready md ops listed := by simpa using hr
    obtain ⟨v, hy, h⟩ := h
    rw [List.length_cons, show l.length + 1 + g = (l.length + g) + 1 by omega]
    refine wpN_first h0 (Region.noSelect_spec hsel) hs hc hn hkn hdone (l.length + g) listed a η inv (Region.free_spec h0 hf) hr' hy ?_
    exact wpN_lex hsel hs hc hn hdone hL l (k + 1) _ _ (fun j hj => by have := hl (j + 1) (by simpa using hj); simpa [Nat.add_assoc, Nat.add_comm 1 j] using this) (by simp only [List.length_cons] at hk; omega) (inv.set hr' hkn) hB' h
/-- What stands behind the head. -/
def TailL (P : Program) (ops : Array Oper) (Q : Exit → Act → World → Prop) (D : Nat → Bool) (w0 : World) (l : List Oper) (a : Act) (η : List (Nat × Obj)) : Prop := ∀ w, Hold D w0 η w → wpList P ops Q l a w
theorem TailL.swap {l : List Oper} {a : Act} {p q : Nat × Obj} {η : List (Nat × Obj)} (h : TailL P ops Q D w0 l a (p :: q :: η)) : TailL P ops Q D w0 l a (q :: p :: η) := fun w hw => h w ⟨hw.sn, fun x hx => hw.held x (by
    simp only [List.mem_cons] at hx ⊢
    rcases hx with h | h | h
    · exact .inr (.inl h)
    · exact .inl h
    · exact .inr (.inr h)), by
    have := hw.nd
    simp only [List.map_cons, List.nodup_cons, List.mem_cons, not_or] at this ⊢
    exact ⟨⟨Ne.symm this.1.1, this.2.1⟩, this.1.2, this.2.2⟩⟩
theorem inv0 (ops : Array Oper) (m : Nat) : HeadInv md ops m (Array.replicate ops.size false) :=
  ⟨by simp, fun j oj _ hl => (by rw [getD_replicate_false] at hl; cases hl), fun t _ ht => getD_in (by simpa using ht) (getD_replicate_false _ _)⟩
/-- **A REGION THAT DRAWS ITS ORDER: VALUES, THEN 0, 1 OR 2 NEW BLOCKS, THEN OPERATIONS IN ONE ORDER.** -/
theorem wp_region_H0 {l : List Oper} {id : Nat} {a : Act} {w : World} {η : List (Nat × Obj)} (v : Nat) (I : World → Prop) (hm : P.follows .mixedOrders = true) (hc : regionOk .any l.toArray v 0 = true)
    (hIb : ∀ w w', I w → Below w.heap.size w w' → I w') (hI : I w.drew) (hw : Hold D w0 η w)
    (h : wpVI P l.toArray I (fun a => TailL P l.toArray Q D w0 (l.drop v) a η) (l.take v) a) : (Code.region id l.toArray true).wp P Q a w := by
  simp only [regionOk, Bool.and_eq_true, decide_eq_true_eq, Nat.add_zero, List.size_toArray] at hc
  obtain ⟨⟨⟨⟨h1, h2⟩, h3⟩, h4⟩, h5⟩ := hc
  have hsz : l.toArray.size = l.length := List.size_toArray
  have hlt : (l.take v).length = v := by rw [List.length_take]; omega
  have hd : (l.drop v).length = l.length - v := by rw [List.length_drop]
  refine wp_region_any hm ?_
  have := wpAny_of_wpN (P := P) (Q := Q) (D := D) (w0 := w0) (md := .any) (ops := l.toArray) (m := v) (g := (l.drop v).length) (I := I) (L := fun listed a η => Region.seqB .any l.toArray (l.drop v).length v listed = true ∧ TailL P l.toArray Q D w0 (l.drop v) a η) hIb
    (fun listed a η hL w hS => wpAny_of_seq (l.drop v) v listed a w (fun j => by simp) hL.1 (hL.2 w hS)) v (Array.replicate l.toArray.size false) a η w.drew hw.drew hI ?_
  · rw [show v + (l.drop v).length = l.toArray.size by rw [hd, hsz]; omega] at this
    exact this
  · have hx := wpN_lex (P := P) (w0 := w0) (I := I) (md := .any) (ops := l.toArray) (m := v) (g := 0) (η := η) (L := fun listed a η => Region.seqB .any l.toArray (l.drop v).length v listed = true ∧ TailL P l.toArray Q D w0 (l.drop v) a η) h1 h3 h4 (by rw [hsz]; exact h2)
      (fun listed a η hL => seqB_ready hL.1) (r := fun listed => Region.seqB .any l.toArray (l.length - v) v listed) (fun listed a _ hr hK => ⟨by rw [hd]; exact hr, hK⟩) (l.take v) 0 (Array.replicate l.toArray.size false) a
      (fun j hj => by rw [hlt] at hj; simp [hj]) (by rw [hlt]; omega) (inv0 _ _) (by rw [hlt, hsz]; exact h5) h
    rw [hlt] at hx
    exact hx
theorem wp_region_H1 {l : List Oper} {id : Nat} {a : Act} {w : World} {η : List (Nat × Obj)} (v : Nat) (I : World → Prop) (hm : P.follows .mixedOrders = true) (hc : regionOk .any l.toArray v 1 = true)
    (hIb : ∀ w w', I w → Below w.heap.size w w' → I w') (hI : I w.drew) (hw : Hold D w0 η w) {o1 : Oper} (ho1 : l[v]? = some o1)
    (h : wpVI P l.toArray I (fun a => ∃ ob pv, NewI P l.toArray I o1 ob pv a ∧ ∀ b, w0.heap.size ≤ b → b ∉ η.map Prod.fst → TailL P l.toArray Q D w0 (l.drop (v + 1)) (a.put o1.dst (pv b)) ((b, ob) :: η)) (l.take v) a) : (Code.region id l.toArray true).wp P Q a w := by
  simp only [regionOk, Bool.and_eq_true, decide_eq_true_eq, List.size_toArray] at hc
  obtain ⟨⟨⟨⟨h1, h2⟩, h3⟩, h4⟩, h5⟩ := hc
  have hsz : l.toArray.size = l.length := List.size_toArray
  have hlt : (l.take v).length = v := by rw [List.length_take]; omega
  have hd : (l.drop (v + 1)).length = l.length - (v + 1) := by rw [List.length_drop]
  refine wp_region_any hm ?_
  have := wpAny_of_wpN (P := P) (Q := Q) (D := D) (w0 := w0) (md := .any) (ops := l.toArray) (m := v + 1) (g := (l.drop (v + 1)).length) (I := I) (L := fun listed a η => Region.seqB .any l.toArray (l.drop (v + 1)).length (v + 1) listed = true ∧ TailL P l.toArray Q D w0 (l.drop (v + 1)) a η) hIb
    (fun listed a η hL w hS => wpAny_of_seq (l.drop (v + 1)) (v + 1) listed a w (fun j => by simp) hL.1 (hL.2 w hS)) (v + 1) (Array.replicate l.toArray.size false) a η w.drew hw.drew hI ?_
  · rw [show v + 1 + (l.drop (v + 1)).length = l.toArray.size by rw [hd, hsz]; omega] at this
    exact this
  · have hx := wpN_lex (P := P) (w0 := w0) (I := I) (md := .any) (ops := l.toArray) (m := v + 1) (g := 1) (η := η) (L := fun listed a η => Region.seqB .any l.toArray (l.drop (v + 1)).length (v + 1) listed = true ∧ TailL P l.toArray Q D w0 (l.drop (v + 1)) a η) h1 h3 h4 (by rw [hsz]; exact h2)
      (fun listed a η hL => seqB_ready hL.1)
      (r := fun listed => decide (Region.ready .any l.toArray listed = [v]) && Region.seqB .any l.toArray (l.length - (v + 1)) (v + 1) (listed.setIfInBounds v true))
      (fun listed a _ hr hK => by
        simp only [Bool.and_eq_true, decide_eq_true_eq] at hr
        obtain ⟨ob, pv, hn, hk⟩ := hK
        refine ⟨(by rw [hr.1]; simp), fun i hi => ?_⟩
        rw [hr.1] at hi
        obtain rfl : i = v := by simpa using hi
        exact ⟨by omega, o1, by simpa using ho1, .inr ⟨ob, pv, hn, fun b hb hm => ⟨by rw [hd]; exact hr.2, hk b hb hm⟩⟩⟩) (l.take v) 0 (Array.replicate l.toArray.size false) a
      (fun j hj => by rw [hlt] at hj; simp [hj]) (by rw [hlt]; omega) (inv0 _ _) (by rw [hlt, hsz]; exact h5) h
    rw [hlt] at hx
    exact hx
theorem wp_region_H2 {l : List Oper} {id : Nat} {a : Act} {w : World} {η : List (Nat × Obj)} (v : Nat) (I : World → Prop) (hm : P.follows .mixedOrders = true) (hc : regionOk .any l.toArray v 2 = true)
    (hIb : ∀ w w', I w → Below w.heap.size w w' → I w') (hI : I w.drew) (hw : Hold D w0 η w) {o1 o2 : Oper} (ho1 : l[v]? = some o1) (ho2 : l[v + 1]? = some o2) (hap : o1.apart l.toArray o2 = true)
    (h : wpVI P l.toArray I (fun a => ∃ ob pv ob2 pv2, NewI P l.toArray I o1 ob pv a ∧ NewI P l.toArray I o2 ob2 pv2 a ∧ ∀ b b2, w0.heap.size ≤ b → w0.heap.size ≤ b2 → TailL P l.toArray Q D w0 (l.drop (v + 2)) ((a.put o1.dst (pv b)).put o2.dst (pv2 b2)) ((b2, ob2) :: (b, ob) :: η)) (l.take v) a) : (Code.region id l.toArray true).wp P Q a w := by
  simp only [regionOk, Bool.and_eq_true, decide_eq_true_eq, List.size_toArray] at hc
  obtain ⟨⟨⟨⟨h1, h2⟩, h3⟩, h4⟩, h5⟩ := hc
  have hsz : l.toArray.size = l.length := List.size_toArray
  have hlt : (l.take v).length = v := by rw [List.length_take]; omega
  have hd : (l.drop (v + 2)).length = l.length - (v + 2) := by rw [List.length_drop]
  refine wp_region_any hm ?_
  have := wpAny_of_wpN (P := P) (Q := Q) (D := D) (w0 := w0) (md := .any) (ops := l.toArray) (m := v + 2) (g := (l.drop (v + 2)).length) (I := I) (L := fun listed a η => Region.seqB .any l.toArray (l.drop (v + 2)).length (v + 2) listed = true ∧ TailL P l.toArray Q D w0 (l.drop (v + 2)) a η) hIb
    (fun listed a η hL w hS => wpAny_of_seq (l.drop (v + 2)) (v + 2) listed a w (fun j => by simp) hL.1 (hL.2 w hS)) (v + 2) (Array.replicate l.toArray.size false) a η w.drew hw.drew hI ?_
  · rw [show v + 2 + (l.drop (v + 2)).length = l.toArray.size by rw [hd, hsz]; omega] at this
    exact this
  · obtain ⟨a1, a2, a3⟩ := Oper.apart_spec hap
    have hs1 := fun cs b => Region.noSelect_spec h1 v o1 cs b (by simpa using ho1)
    have hs2 := fun cs b => Region.noSelect_spec h1 (v + 1) o2 cs b (by simpa using ho2)
    have hx := wpN_lex (P := P) (w0 := w0) (I := I) (md := .any) (ops := l.toArray) (m := v + 2) (g := 2) (η := η) (L := fun listed a η => Region.seqB .any l.toArray (l.drop (v + 2)).length (v + 2) listed = true ∧ TailL P l.toArray Q D w0 (l.drop (v + 2)) a η) h1 h3 h4 (by rw [hsz]; exact h2)
      (fun listed a η hL => seqB_ready hL.1)
      (r := fun listed => decide (Region.ready .any l.toArray listed = [v, v + 1]) && decide (Region.ready .any l.toArray (listed.setIfInBounds v true) = [v + 1]) && decide (Region.ready .any l.toArray (listed.setIfInBounds (v + 1) true) = [v]) && Region.seqB .any l.toArray (l.length - (v + 2)) (v + 2) ((listed.setIfInBounds v true).setIfInBounds (v + 1) true))
      (fun listed a _ hr hK => by
        simp only [Bool.and_eq_true, decide_eq_true_eq] at hr
        obtain ⟨⟨⟨r0, r1⟩, r2⟩, r3⟩ := hr
        obtain ⟨ob, pv, ob2, pv2, hn, hn2, hk⟩ := hK
        refine ⟨(by rw [r0]; simp), fun i hi => ?_⟩
        rw [r0] at hi
        rcases (show i = v ∨ i = v + 1 by simpa using hi) with rfl | rfl
        · refine ⟨by omega, o1, by simpa using ho1, .inr ⟨ob, pv, hn, fun b hb _ => ⟨(by rw [r1]; simp), fun i hi => ?_⟩⟩⟩
          rw [r1] at hi
          obtain rfl : i = _ := by simpa using hi
          exact ⟨by omega, o2, by simpa using ho2, .inr ⟨ob2, pv2, hn2.of_same (execOp_put o2 hs2 a o1.dst _ a1) (wanted_put o2 a o1.dst _ a1), fun b2 hb2 _ => ⟨by rw [hd]; exact r3, hk b b2 hb hb2⟩⟩⟩
        · refine ⟨by omega, o2, by simpa using ho2, .inr ⟨ob2, pv2, hn2, fun b2 hb2 _ => ⟨(by rw [r2]; simp), fun i hi => ?_⟩⟩⟩
          rw [r2] at hi
          obtain rfl : i = v := by simpa using hi
          refine ⟨by omega, o1, by simpa using ho1, .inr ⟨ob, pv, hn.of_same (execOp_put o1 hs1 a o2.dst _ a3) (wanted_put o1 a o2.dst _ a3), fun b hb _ => ⟨?_, ?_⟩⟩⟩
          · rw [hd, ← Array.setIfInBounds_comm _ _ (show i ≠ i + 1 by omega)]; exact r3
          · rw [← Act.put_comm a _ _ a2]
            exact TailL.swap (hk b b2 hb hb2)) (l.take v) 0 (Array.replicate l.toArray.size false) a
      (fun j hj => by rw [hlt] at hj; simp [hj]) (by rw [hlt]; omega) (inv0 _ _) (by rw [hlt, hsz]; exact h5) h
    rw [hlt] at hx
    exact hx
end
end Go.Proofs.YteehdjkmjncehaaDoor
