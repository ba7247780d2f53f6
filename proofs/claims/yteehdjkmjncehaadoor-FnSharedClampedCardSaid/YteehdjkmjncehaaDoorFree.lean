
/-
  A region that draws its order, in which values are told, new blocks are made and known blocks are overwritten: the values are walked in the text's order, whatever order is drawn.
-/
import Derived.Test.YteehdjkmjncehaaDoorSteady
import Derived.Test.YteehdjkmjncehaaDoorEl
namespace Go.Proofs.YteehdjkmjncehaaDoor
open Go.RowKit
/-- What was there in w0 is as it was, but for the blocks of D. -/
structure SinceD (D : Nat → Bool) (w0 w : World) : Prop where
  os : w.os = w0.os
  tape : w.tape = w0.tape
  output : w.output = w0.output
  size : w0.heap.size ≤ w.heap.size
  block : ∀ k, k < w0.heap.size → D k = false → w.heap[k]? = w0.heap[k]?
/-- And the blocks of C hold what C says. -/
structure StX (D : Nat → Bool) (w0 : World) (C : Nat → Option Obj) (w : World) : Prop where
  since : SinceD D w0 w
  held : ∀ b o, C b = some o → w.heap[b]? = some o
/-- C turned at one block. -/
def updC (C : Nat → Option Obj) (b : Nat) (o : Obj) : Nat → Option Obj := fun k => if k = b then some o else C k
theorem SinceD.refl (D : Nat → Bool) (w : World) : SinceD D w w := ⟨rfl, rfl, rfl, Nat.le_refl _, fun _ _ _ => rfl⟩
theorem SinceD.drew (D : Nat → Bool) (w : World) : SinceD D w w.drew := ⟨rfl, rfl, rfl, Nat.le_refl _, fun _ _ _ => rfl⟩
theorem SinceD.on {D : Nat → Bool} {w0 w w' : World} (h : SinceD D w0 w) (hb : Below w.heap.size w w') : SinceD D w0 w' :=
  ⟨hb.os.trans h.os, hb.tape.trans h.tape, hb.output.trans h.output, Nat.le_trans h.size hb.size, fun k hk hd => (hb.block k (Nat.lt_of_lt_of_le hk h.size)).trans (h.block k hk hd)⟩
theorem SinceD.range {D : Nat → Bool} {w0 w : World} (h : SinceD D w0 w) {b o : Nat} {cs : List Value} (hr : w0.rangeAt b o cs) (hb : b < w0.heap.size) (hd : D b = false) : w.rangeAt b o cs := by
  intro j v hj
  have := h.block b hb hd
  have h2 := hr j v hj
  simp only [World.cell?] at h2 ⊢
  rw [this]; exact h2
theorem SinceD.cell {D : Nat → Bool} {w0 w : World} (h : SinceD D w0 w) {b o : Nat} {v : Value} (hr : w0.cell? ⟨b, o, none⟩ = some v) (hb : b < w0.heap.size) (hd : D b = false) : w.cell? ⟨b, o, none⟩ = some v := by
  have := h.block b hb hd
  simp only [World.cell?] at hr ⊢
  rw [this]; exact hr
theorem SinceD.below {D : Nat → Bool} {w0 w : World} (h : SinceD D w0 w) {B : Nat} (hB : B ≤ w0.heap.size) (hd : ∀ k, k < B → D k = false) : Below B w0 w :=
  ⟨h.os, h.tape, h.output, h.size, fun k hk => h.block k (by omega) (hd k hk)⟩
section
variable {P : Program} {ops : Array Oper} {Q : Exit → Act → World → Prop} {md : Region.Mode} {D : Nat → Bool} {w0 : World}

/-- The operation tells v, and leaves what was there. -/
def ValS (P : Program) (ops : Array Oper) (D : Nat → Bool) (w0 : World) (o : Oper) (v : Value) (a : Act) : Prop :=
  (Region.wanted o (yielded ops a.tmps) = true ∧ ∀ w, SinceD D w0 w → match (execOp a.eval o).run P w with
    | .ok (.value u) w' => u = v ∧ Below w.heap.size w w'
    | .ok (.enter f args) w' => Calls P f args w' fun e w'' => e = .returned v ∧ Below w.heap.size w w''
    | _ => False) ∨
  (Region.wanted o (yielded ops a.tmps) = false ∧ v = undef)
/-- The operation makes a block. -/
def NewS (P : Program) (ops : Array Oper) (D : Nat → Bool) (w0 : World) (o : Oper) (ob : Obj) (a : Act) : Prop :=
  Region.wanted o (yielded ops a.tmps) = true ∧ ∀ w, SinceD D w0 w → (execOp a.eval o).run P w = .ok (.value (.pointer (some ⟨w.heap.size, 0, none⟩))) (w.alloc ob)
/-- The operation overwrites a block. -/
def PutS (P : Program) (ops : Array Oper) (o : Oper) (b : Nat) (ob ob' : Obj) (a : Act) : Prop :=
  Region.wanted o (yielded ops a.tmps) = true ∧ o.dst = none ∧ ∀ w, w.heap[b]? = some ob → ∃ w', (execOp a.eval o).run P w = .ok .skip w' ∧ Only b w w' ∧ w'.heap[b]? = some ob'

/-- One operation, of one of the three kinds. -/
def StepX (P : Program) (ops : Array Oper) (D : Nat → Bool) (w0 : World) (o : Oper) (a : Act) (C : Nat → Option Obj) (K : Act → (Nat → Option Obj) → Prop) : Prop :=
  (∃ v, ValS P ops D w0 o v a ∧ K (a.put o.dst v) C) ∨
  (∃ ob, NewS P ops D w0 o ob a ∧ ∀ b, w0.heap.size ≤ b → C b = none → K (a.put o.dst (.pointer (some ⟨b, 0, none⟩))) (updC C b ob)) ∨
  (∃ b ob ob', C b = some ob ∧ (b < w0.heap.size → D b = true) ∧ PutS P ops o b ob ob' a ∧ K (a.put o.dst undef) (updC C b ob'))

theorem StepX.mono {o : Oper} {a : Act} {C : Nat → Option Obj} {K K' : Act → (Nat → Option Obj) → Prop} (hK : ∀ a C, K a C → K' a C) (h : StepX P ops D w0 o a C K) : StepX P ops D w0 o a C K' := by
  rcases h with ⟨v, h1, h2⟩ | ⟨ob, h1, h2⟩ | ⟨b, ob, ob', h1, h2, h3, h4⟩
  · exact .inl ⟨v, h1, hK _ _ h2⟩
  · exact .inr (.inl ⟨ob, h1, fun b hb hc => hK _ _ (h2 b hb hc)⟩)
  · exact .inr (.inr ⟨b, ob, ob', h1, h2, h3, hK _ _ h4⟩)

def wpX (P : Program) (md : Region.Mode) (ops : Array Oper) (Q : Exit → Act → World → Prop) (D : Nat → Bool) (w0 : World) : Nat → Array Bool → Act → (Nat → Option Obj) → Prop
  | 0, listed, a, C => Region.ready md ops listed = [] ∧ ∀ w, StX D w0 C w → Q .normal a w
  | f + 1, listed, a, C =>
    (Region.ready md ops listed = [] → ∀ w, StX D w0 C w → Q .normal a w) ∧
    ∀ i ∈ Region.ready md ops listed, ∃ o, ops[i]? = some o ∧ StepX P ops D w0 o a C (wpX P md ops Q D w0 f (listed.setIfInBounds i true))

theorem StX.val {C : Nat → Option Obj} {w w' : World} (h : StX D w0 C w) (hb : Below w.heap.size w w') : StX D w0 C w' :=
  ⟨h.since.on hb, fun b o hc => by
    have := h.held b o hc
    rw [hb.block b (Array.getElem?_eq_some_iff.1 this).1]; exact this⟩
theorem StX.new {C : Nat → Option Obj} {w : World} (h : StX D w0 C w) (ob : Obj) : w0.heap.size ≤ w.heap.size ∧ C w.heap.size = none ∧ StX D w0 (updC C w.heap.size ob) (w.alloc ob) := by
  refine ⟨h.since.size, ?_, ⟨h.since.on ((Below.refl _ _).alloc (Nat.le_refl _) _), fun b o hc => ?_⟩⟩
  · cases hc : C w.heap.size with
    | none => rfl
    | some o =>
      have := h.held _ o hc
      rw [Array.getElem?_eq_none (Nat.le_refl _)] at this
      cases this
  · unfold updC at hc
    split at hc
    · next e => subst e; cases hc; exact heap_alloc_new w ob
    · have := h.held b o hc
      rw [heap_alloc_old _ _ (Array.getElem?_eq_some_iff.1 this).1]; exact this
theorem StX.put {C : Nat → Option Obj} {w w' : World} {b : Nat} {ob' : Obj} (h : StX D w0 C w) (hD : b < w0.heap.size → D b = true) (hO : Only b w w') (hw : w'.heap[b]? = some ob') : StX D w0 (updC C b ob') w' := by
  refine ⟨⟨hO.os.trans h.since.os, hO.tape.trans h.since.tape, hO.output.trans h.since.output, Nat.le_trans h.since.size hO.size, fun k hk hd => ?_⟩, fun k o hc => ?_⟩
  · by_cases e : k = b
    · subst e; rw [hD hk] at hd; cases hd
    · exact (hO.block k (Nat.lt_of_lt_of_le hk h.since.size) e).trans (h.since.block k hk hd)
  · unfold updC at hc
    split at hc
    · next e => subst e; cases hc; exact hw
    · next e =>
      have := h.held k o hc
      rw [hO.block k (Array.getElem?_eq_some_iff.1 this).1 e]; exact this

theorem StepX.wpOp {i : Nat} {o : Oper} {a : Act} {C : Nat → Option Obj} {K : Act → (Nat → Option Obj) → Prop} {K' : Act → World → Prop} (hi : ops[i]? = some o) (h : StepX P ops D w0 o a C K) {w : World} (hw : StX D w0 C w)
    (hK : ∀ a C w, K a C → StX D w0 C w → K' a w) : wpOp P ops Q i K' a w := by
  unfold Go.wpOp
  simp only [hi]
  rcases h with ⟨v, hv, hk⟩ | ⟨ob, ⟨hwt, hx⟩, hk⟩ | ⟨b, ob, ob', hc, hD, ⟨hwt, hdst, hx⟩, hk⟩
  · rcases hv with ⟨hwt, hx⟩ | ⟨hwt, rfl⟩
    · simp only [hwt, if_true]
      refine .inl ?_
      have hv := hx w hw.since
      clear hx
      unfold Oper.wp
      generalize (execOp a.eval o).run P w = r at *
      cases r with
      | ok n w' =>
        cases n <;> simp only [Oper.upon] at hv ⊢
        case value u => exact hv.1 ▸ hK _ _ _ hk (hw.val hv.2)
        case enter f args =>
          refine hv.mono fun e w'' he => ?_
          obtain ⟨rfl, he⟩ := he
          exact hK _ _ _ hk (hw.val he)
      | halt x w' => exact hv.elim
    · simp only [hwt, Bool.false_eq_true, if_false]; exact hK _ _ _ hk hw
  · simp only [hwt, if_true]
    refine .inl ?_
    unfold Oper.wp
    rw [hx w hw.since]
    obtain ⟨h1, h2, h3⟩ := hw.new ob
    exact hK _ _ _ (hk _ h1 h2) h3
  · simp only [hwt, if_true]
    refine .inl ?_
    unfold Oper.wp
    obtain ⟨w', hr, hO, hb⟩ := hx w (hw.held b ob hc)
    rw [hr]
    exact hK _ _ _ hk (hw.put hD hO hb)

theorem wpAny_of_wpX : ∀ (fuel : Nat) (listed : Array Bool) (a : Act) (C : Nat → Option Obj) (w : World), StX D w0 C w → wpX P md ops Q D w0 fuel listed a C → wpAny P md ops Q fuel listed a w
  | 0, _, _, _, _, hS, h => ⟨h.1, h.2 _ hS⟩
  | fuel + 1, _, _, _, _, hS, h => ⟨fun h0 => h.1 h0 _ hS, fun i hi => by
    obtain ⟨o, ho, hs⟩ := h.2 i hi
    exact hs.wpOp ho hS fun a C w hk hw => wpAny_of_wpX fuel _ a C w hw hk⟩

theorem ValS.of_same {o : Oper} {v : Value} {a a' : Act} (hy : ValS P ops D w0 o v a) (he : execOp a'.eval o = execOp a.eval o)
    (hw : Region.wanted o (yielded ops a'.tmps) = Region.wanted o (yielded ops a.tmps)) : ValS P ops D w0 o v a' := by
  unfold ValS at *; rw [he, hw]; exact hy
theorem NewS.of_same {o : Oper} {v : Obj} {a a' : Act} (hy : NewS P ops D w0 o v a) (he : execOp a'.eval o = execOp a.eval o)
    (hw : Region.wanted o (yielded ops a'.tmps) = Region.wanted o (yielded ops a.tmps)) : NewS P ops D w0 o v a' := by
  unfold NewS at *; rw [he, hw]; exact hy
theorem PutS.of_same {o : Oper} {b : Nat} {ob ob' : Obj} {a a' : Act} (hy : PutS P ops o b ob ob' a) (he : execOp a'.eval o = execOp a.eval o)
    (hw : Region.wanted o (yielded ops a'.tmps) = Region.wanted o (yielded ops a.tmps)) : PutS P ops o b ob ob' a' := by
  unfold PutS at *; rw [he, hw]; exact hy

/-- An operation that tells a value may be taken first. -/
theorem wpX_first {i : Nat} {oi : Oper} {v : Value} (hi : ops[i]? = some oi) (hsel : ∀ (j : Nat) (o : Oper) cs b, ops[j]? = some o → o.op ≠ .select cs b) :
    ∀ (fuel : Nat) (listed : Array Bool) (a : Act) (C : Nat → Option Obj),
      (∀ j oj, ops[j]? = some oj → j ≠ i → listed.getD j true = false → (∀ e ∈ oj.after, Region.binds md e = true → e.on ≠ i) → oi.apart ops oj = true) →
      i ∈ Region.ready md ops listed → ValS P ops D w0 oi v a →
      wpX P md ops Q D w0 fuel (listed.setIfInBounds i true) (a.put oi.dst v) C → wpX P md ops Q D w0 (fuel + 1) listed a C := by
  intro fuel
  induction fuel with
  | zero =>
    intro listed a C _ hr hy H
    refine ⟨fun h => (by rw [h] at hr; cases hr), fun j hj => ?_⟩
    by_cases hji : j = i
    · subst hji; exact ⟨oi, hi, .inl ⟨v, hy, H⟩⟩
    · have := ready_mono hj hji
      rw [H.1] at this
      cases this
  | succ fuel ih =>
    intro listed a C hfree hr hy H
    refine ⟨fun h => (by rw [h] at hr; cases hr), fun j hj => ?_⟩
    by_cases hji : j = i
    · subst hji; exact ⟨oi, hi, .inl ⟨v, hy, H⟩⟩
    · obtain ⟨oj, hoj, hst⟩ := H.2 j (ready_mono hj hji)
      obtain ⟨hjun, oj', hoj', hall⟩ := mem_ready.1 hj
      obtain rfl : oj' = oj := by rw [hoj] at hoj'; exact (Option.some.inj hoj').symm
      have hnot : ∀ e ∈ oj'.after, Region.binds md e = true → e.on ≠ i := fun e he hb heq => by
        have h1 := hall e he hb
        have h0 := (mem_ready.1 hr).1
        rw [heq] at h1
        rcases Nat.lt_or_ge i listed.size with h' | h'
        · simp [h'] at h0 h1; rw [h0] at h1; cases h1
        · simp [Array.getElem?_eq_none h'] at h1
      obtain ⟨h1, h2, h3⟩ := Oper.apart_spec (hfree j oj' hoj hji hjun hnot)
      have hsi := fun cs b => hsel i oi cs b hi
      have hsj := fun cs b => hsel j oj' cs b hoj
      have e1 := (execOp_put oj' hsj a oi.dst v h1).symm
      have e2 := (wanted_put oj' a oi.dst v h1).symm
      have hyi : ∀ u, ValS P ops D w0 oi v (a.put oj'.dst u) := fun u => hy.of_same (execOp_put oi hsi a oj'.dst u h3) (wanted_put oi a oj'.dst u h3)
      have fin : ∀ u C', wpX P md ops Q D w0 fuel ((listed.setIfInBounds i true).setIfInBounds j true) ((a.put oi.dst v).put oj'.dst u) C' → wpX P md ops Q D w0 (fuel + 1) (listed.setIfInBounds j true) (a.put oj'.dst u) C' := fun u C' hx => by
        refine ih _ _ _ (fun k ok hk hki hun hno => ?_) (ready_mono hr (Ne.symm hji)) (hyi u) ?_
        · refine hfree k ok hk hki ?_ hno
          by_cases hjk : j = k
          · subst hjk; exact hjun
          · rw [getD_set_ne true hjk] at hun; exact hun
        · rw [Array.setIfInBounds_comm _ _ hji, ← Act.put_comm a v u h2]
          exact hx
      refine ⟨oj', hoj, ?_⟩
      rcases hst with ⟨u, hv, hk⟩ | ⟨ob, hn, hk⟩ | ⟨b, ob, ob', hc, hD, hp, hk⟩
      · exact .inl ⟨u, hv.of_same e1 e2, fin u C hk⟩
      · exact .inr (.inl ⟨ob, hn.of_same e1 e2, fun b hb hcb => fin _ _ (hk b hb hcb)⟩)
      · exact .inr (.inr ⟨b, ob, ob', hc, hD, hp.of_same e1 e2, fin _ _ hk⟩)

/-- The walk in the text's order of the operations that tell values. -/
def wpVL (P : Program) (ops : Array Oper) (D : Nat → Bool) (w0 : World) (K : Act → Prop) : List Oper → Act → Prop
  | [], a => K a
  | o :: rest, a => ∃ v, ValS P ops D w0 o v a ∧ wpVL P ops D w0 K rest (a.put o.dst v)

/-- The first n may be drawn in the text's order. -/
def headB (md : Region.Mode) (ops : Array Oper) (n : Nat) : Bool :=
  Region.noSelect ops && decide (n ≤ ops.size) && (List.range n).all fun i => Region.free md ops (upTo ops.size i) i && (Region.ready md ops (upTo ops.size i)).contains i

theorem wpX_of_list {l : List Oper} {n : Nat} {C : Nat → Option Obj} (f : Nat) (hc : headB md l.toArray n = true) :
    ∀ (k : Nat) (rest : List Oper) (a : Act), (∀ j, j < rest.length → rest[j]? = l[k + j]?) → k + rest.length = n →
      wpVL P l.toArray D w0 (fun a => wpX P md l.toArray Q D w0 f (upTo l.length n) a C) rest a → wpX P md l.toArray Q D w0 (rest.length + f) (upTo l.length k) a C := by
  simp only [headB, Bool.and_eq_true, List.all_eq_true, List.mem_range, List.size_toArray, decide_eq_true_eq] at hc
  obtain ⟨⟨hs, hn⟩, hc⟩ := hc
  intro k rest
  induction rest generalizing k with
  | nil =>
    intro a hd hl h
    simp only [List.length_nil, Nat.add_zero] at hl
    subst hl
    simp only [List.length_nil, Nat.zero_add]
    exact h
  | cons o rest ih =>
    intro a hd hl h
    simp only [List.length_cons] at hl
    obtain ⟨v, hy, h⟩ := h
    have hio : l[k]? = some o := by simpa using (hd 0 (by simp)).symm
    have hc' := hc k (by omega)
    rw [List.length_cons, show rest.length + 1 + f = (rest.length + f) + 1 by omega]
    refine wpX_first (i := k) (oi := o) (v := v) (by simpa using hio) (Region.noSelect_spec hs) _ _ _ _ (Region.free_spec (by simpa using hio) hc'.1) (by simpa using hc'.2) hy ?_
    rw [upTo_succ]
    refine ih (k + 1) _ (fun j hj => ?_) (by omega) h
    have := hd (j + 1) (by simpa using hj)
    simpa [Nat.add_assoc, Nat.add_comm 1 j] using this
/-- The stores that stand behind the values, in one order. -/
def wpPL (P : Program) (ops : Array Oper) (Q : Exit → Act → World → Prop) (D : Nat → Bool) (w0 : World) : List Oper → Act → (Nat → Option Obj) → Prop
  | [], a, C => ∀ w, StX D w0 C w → Q .normal a w
  | o :: rest, a, C => ∃ b ob ob', C b = some ob ∧ (b < w0.heap.size → D b = true) ∧ PutS P ops o b ob ob' a ∧ wpPL P ops Q D w0 rest a (updC C b ob')
/-- From n on there is one order. -/
def tailB (md : Region.Mode) (ops : Array Oper) (n : Nat) : Bool :=
  (List.range ops.size).all fun k => (k < n : Bool) || (Region.ready md ops (upTo ops.size k) == [k]) 
theorem tailB_spec {n : Nat} (h : tailB md ops n = true) (k : Nat) (hk : k < ops.size) (hn : n ≤ k) : Region.ready md ops (upTo ops.size k) = [k] := by
  simp only [tailB, List.all_eq_true, List.mem_range, Bool.or_eq_true, decide_eq_true_eq, beq_iff_eq] at h
  rcases h k hk with h | h
  · omega
  · exact h
theorem ready_all (md : Region.Mode) (ops : Array Oper) : Region.ready md ops (upTo ops.size ops.size) = [] := by
  cases h : Region.ready md ops (upTo ops.size ops.size) with
  | nil => rfl
  | cons i l =>
    have hi : i ∈ Region.ready md ops (upTo ops.size ops.size) := by rw [h]; simp
    obtain ⟨h0, o, ho, _⟩ := mem_ready.1 hi
    have hlt := (Array.getElem?_eq_some_iff.1 ho).1
    simp [upTo, hlt] at h0
theorem wpX_of_puts {l : List Oper} {n : Nat} (hc : tailB md l.toArray n = true) : ∀ (rest : List Oper) (k : Nat) (a : Act) (C : Nat → Option Obj), (∀ j, rest[j]? = l[k + j]?) → n ≤ k → k ≤ l.length →
    wpPL P l.toArray Q D w0 rest a C → wpX P md l.toArray Q D w0 rest.length (upTo l.length k) a C
  | [], k, a, C, hd, hn, hk, h => by
    have : k = l.length := by
      have := hd 0
      simp at this
      omega
    subst this
    have := ready_all md l.toArray
    rw [List.size_toArray] at this
    exact ⟨this, h⟩
  | o :: rest, k, a, C, hd, hn, hk, h => by
    have hio : l[k]? = some o := by simpa using (hd 0).symm
    have hlt : k < l.length := (List.getElem?_eq_some_iff.1 hio).1
    have hr := tailB_spec hc k (by simpa using hlt) hn
    rw [List.size_toArray] at hr
    refine ⟨fun h0 => (by rw [hr] at h0; cases h0), fun i hi => ?_⟩
    rw [hr] at hi
    obtain rfl : i = k := by simpa using hi
    obtain ⟨b, ob, ob', hc1, hD, hp, hrest⟩ := h
    refine ⟨o, by simpa using hio, .inr (.inr ⟨b, ob, ob', hc1, hD, hp, ?_⟩)⟩
    rw [upTo_succ]
    have e : a.put o.dst undef = a := by rw [hp.2.1]; rfl
    rw [e]
    refine wpX_of_puts hc rest (i + 1) a _ (fun j => ?_) (by omega) (by omega) hrest
    have := hd (j + 1)
    simpa [Nat.add_assoc, Nat.add_comm 1 j] using this

theorem wpVL_mono {D : Nat → Bool} {w0 : World} {K K' : Act → Prop} (hK : ∀ a, K a → K' a) : ∀ (l' : List Oper) (a : Act), wpVL P ops D w0 K l' a → wpVL P ops D w0 K' l' a
  | [], a, h => hK a h
  | _ :: l', _, ⟨v, h1, h2⟩ => ⟨v, h1, wpVL_mono hK l' _ h2⟩
theorem only_setRow' (w : World) (b : Nat) (cs : Array Value) : Only b w (w.setRow b cs) := ⟨rfl, rfl, rfl, by simp, fun k _ hb => setRow_other w b k cs hb⟩
/-- Two blocks are made in whatever order. -/
def new2B (md : Region.Mode) (ops : Array Oper) (n : Nat) : Bool :=
  (Region.ready md ops (upTo ops.size n) == [n, n + 1]) && (Region.ready md ops (upTo ops.size (n + 1)) == [n + 1]) && (Region.ready md ops ((upTo ops.size n).setIfInBounds (n + 1) true) == [n])
/-- **VALUES, THEN STORES** into blocks that are known ahead. -/
theorem wp_region_puts {l : List Oper} {id : Nat} {a : Act} {w : World} (n : Nat) (D : Nat → Bool) (C : Nat → Option Obj) (hm : P.follows .mixedOrders = true)
    (hc : (headB .any l.toArray n && tailB .any l.toArray n) = true) (hC : ∀ b o, C b = some o → w.heap[b]? = some o)
    (h : wpVL P l.toArray D w (fun a => wpPL P l.toArray Q D w (l.drop n) a C) (l.take n) a) : (Code.region id l.toArray true).wp P Q a w := by
  rw [Bool.and_eq_true] at hc
  have hn : n ≤ l.length := by
    have := hc.1
    simp only [headB, Bool.and_eq_true, decide_eq_true_eq, List.size_toArray] at this
    exact this.1.2
  refine wp_region_any hm (wpAny_of_wpX (D := D) (w0 := w) _ _ _ C w.drew ⟨SinceD.drew D w, hC⟩ ?_)
  rw [List.size_toArray, ← upTo_zero, show l.length = (l.take n).length + (l.drop n).length by rw [List.length_take, List.length_drop]; omega]
  have := wpX_of_list (P := P) (Q := Q) (D := D) (w0 := w) (C := C) (l := l) (l.drop n).length hc.1 0 (l.take n) a (fun j hj => by rw [List.length_take] at hj; rw [Nat.zero_add, List.getElem?_take]; simp; omega) (by rw [List.length_take]; omega) ?_
  · rw [show (l.take n).length + (l.drop n).length = l.length by rw [List.length_take, List.length_drop]; omega] at this ⊢
    exact this
  · refine wpVL_mono (fun a' ha => ?_) _ _ h
    exact wpX_of_puts hc.2 (l.drop n) n a' C (fun j => by rw [List.getElem?_drop]) (Nat.le_refl _) hn ha
/-- **VALUES, THEN TWO NEW BLOCKS, THEN STORES.** -/
theorem wp_region_new2 {l : List Oper} {id : Nat} {a : Act} {w : World} (n : Nat) (D : Nat → Bool) (C : Nat → Option Obj) (hm : P.follows .mixedOrders = true)
    (hc : (headB .any l.toArray n && tailB .any l.toArray (n + 2) && new2B .any l.toArray n) = true) (hC : ∀ b o, C b = some o → w.heap[b]? = some o) {o1 o2 : Oper} (h1 : l[n]? = some o1) (h2 : l[n + 1]? = some o2) (hd : ∀ d, o1.dst = some d → o2.dst ≠ some d)
    {ob1 ob2 : Obj} (n1 : ∀ a, NewS P l.toArray D w o1 ob1 a) (n2 : ∀ a, NewS P l.toArray D w o2 ob2 a)
    (h : wpVL P l.toArray D w (fun a => ∀ b1 b2, w.heap.size ≤ b1 → w.heap.size ≤ b2 → b1 ≠ b2 → C b1 = none → C b2 = none →
      wpPL P l.toArray Q D w (l.drop (n + 2)) ((a.put o1.dst (.pointer (some ⟨b1, 0, none⟩))).put o2.dst (.pointer (some ⟨b2, 0, none⟩))) (updC (updC C b1 ob1) b2 ob2)) (l.take n) a) : (Code.region id l.toArray true).wp P Q a w := by
  simp only [Bool.and_eq_true] at hc
  obtain ⟨⟨hc1, hc2⟩, hc3⟩ := hc
  have hlt : n + 1 < l.length := (List.getElem?_eq_some_iff.1 h2).1
  have hlen : l.length = (l.take n).length + (2 + (l.drop (n + 2)).length) := by rw [List.length_take, List.length_drop]; omega
  simp only [new2B, Bool.and_eq_true, beq_iff_eq, List.size_toArray] at hc3
  obtain ⟨⟨r0, r1⟩, r2⟩ := hc3
  refine wp_region_any hm (wpAny_of_wpX (D := D) (w0 := w) _ _ _ C w.drew ⟨SinceD.drew D w, hC⟩ ?_)
  rw [List.size_toArray, ← upTo_zero]
  have := wpX_of_list (P := P) (Q := Q) (D := D) (w0 := w) (C := C) (l := l) (2 + (l.drop (n + 2)).length) hc1 0 (l.take n) a (fun j hj => by rw [List.length_take] at hj; rw [Nat.zero_add, List.getElem?_take]; simp; omega) (by rw [List.length_take]; omega) ?_
  · rw [← hlen] at this; exact this
  · refine wpVL_mono (fun a' ha => ?_) _ _ h
    have tail : ∀ b1 b2, w.heap.size ≤ b1 → w.heap.size ≤ b2 → b1 ≠ b2 → C b1 = none → C b2 = none →
        wpX P .any l.toArray Q D w (l.drop (n + 2)).length (upTo l.length (n + 2)) ((a'.put o1.dst (.pointer (some ⟨b1, 0, none⟩))).put o2.dst (.pointer (some ⟨b2, 0, none⟩))) (updC (updC C b1 ob1) b2 ob2) := fun b1 b2 e1 e2 e3 e4 e5 =>
      wpX_of_puts hc2 (l.drop (n + 2)) (n + 2) _ _ (fun j => by rw [List.getElem?_drop]) (Nat.le_refl _) (by omega) (ha b1 b2 e1 e2 e3 e4 e5)
    rw [show 2 + (l.drop (n + 2)).length = ((l.drop (n + 2)).length + 1) + 1 by omega]
    refine ⟨fun h0 => (by rw [r0] at h0; cases h0), fun i hi => ?_⟩
    rw [r0] at hi
    rcases (show i = n ∨ i = n + 1 by simpa using hi) with rfl | rfl
    · refine ⟨o1, by simpa using h1, .inr (.inl ⟨ob1, n1 _, fun b1 e1 e4 => ?_⟩)⟩
      rw [upTo_succ]
      refine ⟨fun h0 => (by rw [r1] at h0; cases h0), fun i hi => ?_⟩
      rw [r1] at hi
      obtain rfl : i = _ := by simpa using hi
      refine ⟨o2, by simpa using h2, .inr (.inl ⟨ob2, n2 _, fun b2 e2 e5 => ?_⟩)⟩
      rw [upTo_succ]
      have hne : b1 ≠ b2 := fun e => by subst e; simp [updC] at e5
      have e5' : C b2 = none := by simpa [updC, Ne.symm hne] using e5
      exact tail b1 b2 e1 e2 hne e4 e5'
    · refine ⟨o2, by simpa using h2, .inr (.inl ⟨ob2, n2 _, fun b2 e2 e5 => ?_⟩)⟩
      refine ⟨fun h0 => (by rw [r2] at h0; cases h0), fun i hi => ?_⟩
      rw [r2] at hi
      obtain rfl : i = n := by simpa using hi
      refine ⟨o1, by simpa using h1, .inr (.inl ⟨ob1, n1 _, fun b1 e1 e4 => ?_⟩)⟩
      rw [← Array.setIfInBounds_comm _ _ (show i ≠ i + 1 by omega), upTo_succ, upTo_succ]
      have hne : b1 ≠ b2 := fun e => by subst e; simp [updC] at e4
      have e4' : C b1 = none := by simpa [updC, hne] using e4
      have ec : updC (updC C b2 ob2) b1 ob1 = updC (updC C b1 ob1) b2 ob2 := by
        funext k
        unfold updC
        by_cases k1 : k = b1
        · subst k1; simp [hne]
        · simp [k1]
      rw [ec, ← Act.put_comm a' _ _ hd]
      exact tail b1 b2 e1 e2 hne e4' e5

theorem wpVL_value {K : Act → Prop} {o : Oper} {rest : List Oper} {a : Act} {v : Value} (hw : Region.wanted o (yielded ops a.tmps) = true)
    (hx : ∀ w, SinceD D w0 w → (execOp a.eval o).run P w = .ok (.value v) w) (h : wpVL P ops D w0 K rest (a.put o.dst v)) : wpVL P ops D w0 K (o :: rest) a :=
  ⟨v, .inl ⟨hw, fun w hS => by rw [hx w hS]; exact ⟨rfl, Below.refl _ _⟩⟩, h⟩
theorem wpVL_call {K : Act → Prop} {o : Oper} {rest : List Oper} {a : Act} {v : Value} {f : FuncId} {args : Array Value} (hw : Region.wanted o (yielded ops a.tmps) = true)
    (hx : ∀ w, (execOp a.eval o).run P w = .ok (.enter f args) w) (hf : Pure P f args v) (h : wpVL P ops D w0 K rest (a.put o.dst v)) : wpVL P ops D w0 K (o :: rest) a :=
  ⟨v, .inl ⟨hw, fun w _ => by rw [hx w]; exact hf w⟩, h⟩
theorem wpVL_not {K : Act → Prop} {o : Oper} {rest : List Oper} {a : Act} (hw : Region.wanted o (yielded ops a.tmps) = false)
    (h : wpVL P ops D w0 K rest (a.put o.dst undef)) : wpVL P ops D w0 K (o :: rest) a :=
  ⟨undef, .inr ⟨hw, rfl⟩, h⟩
theorem wpVL_nil {K : Act → Prop} {a : Act} (h : K a) : wpVL P ops D w0 K [] a := h
/-- A load of a long array. -/
theorem wpVL_load {K : Act → Prop} {o : Oper} {rest : List Oper} {a : Act} (hw : Region.wanted o (yielded ops a.tmps) = true) (ty : TypeId) (x : Operand) (ho : o.op = .load ty x)
    (b q : Nat) (hx : a.eval x = .pointer (some ⟨b, q, none⟩)) (cs : List Value) (d : TypeDesc) (hS : ∀ w, SinceD D w0 w → w.rangeAt b q cs)
    (hu : P.underlying ty = some d) (hd : d.isRow = true) (hi : (P.info? ty).map (·.size) = some cs.length)
    (h : wpVL P ops D w0 K rest (a.put o.dst (.agg cs.toArray))) : wpVL P ops D w0 K (o :: rest) a :=
  wpVL_value hw (fun w hw' => by
    unfold execOp
    simp only [ho, hx, Instr.loadAt, Instr.sureAddr, Sem.run_bind, Sem.run_pure, Result.andThen_ok, run_loadVar_mid w b q ty cs d (hS w hw') hu hd hi]) h
theorem wpVL_eql {K : Act → Prop} {o : Oper} {rest : List Oper} {a : Act} {b : Bool} (hw : Region.wanted o (yielded ops a.tmps) = true) (t : TypeId) (x y : Operand) (t' : TypeId)
    (ho : o.op = .binOp .eql t x y t') (xs ys : Array Value) (hx : a.eval x = .agg xs) (hy : a.eval y = .agg ys) (hg : P.eqGuardType P.depth t = false)
    (hb : ∀ w, (binOp .eql t (.agg xs) (.agg ys)).run P w = .ok (.bool b) w)
    (h : wpVL P ops D w0 K rest (a.put o.dst (.bool b))) : wpVL P ops D w0 K (o :: rest) a :=
  wpVL_value hw (fun w _ => by
    unfold execOp
    simp only [ho, hx, hy, Sem.run_bind, Sem.run_pure, run_eqGuard_agg w .eql t x y xs ys hg, Result.andThen_ok, hb]) h
/-- A whole row stored. -/
theorem wpPL_row {o : Oper} {rest : List Oper} {a : Act} {C : Nat → Option Obj} (hw : Region.wanted o (yielded ops a.tmps) = true) (hdst : o.dst = none) (ty : TypeId) (x y : Operand) (ho : o.op = .store ty x y)
    (b : Nat) (cells : Array Value) (hx : a.eval x = .pointer (some ⟨b, 0, none⟩)) (hy : a.eval y = .agg cells) {t : TypeId} {old : Array Value} (hC : C b = some (.cells old t (0, 0))) (hD : b < w0.heap.size → D b = true)
    (hi : (P.info? ty).map (·.size) = some cells.size) (hold : old.size = cells.size) (h1 : cells.all (·.oneCell') = true)
    (h : wpPL P ops Q D w0 rest a (updC C b (.cells cells t (0, 0)))) : wpPL P ops Q D w0 (o :: rest) a C :=
  ⟨b, _, _, hC, hD, ⟨hw, hdst, fun w hb => ⟨w.setRow b cells, by
    unfold execOp
    simp only [ho, hx, hy, Instr.storeAt, Instr.sureAddr, Sem.run_bind, Sem.run_pure, Result.andThen_ok, run_storeVar_row w b t ty old cells hb hi hold h1], only_setRow' w b cells, setRow_heap w b old cells t (0, 0) hb⟩⟩, h⟩
theorem newS_alloc {o : Oper} {ob : Obj} (hg : o.guard = none) (hx : ∀ (a : Act) w, (execOp a.eval o).run P w = .ok (.value (.pointer (some ⟨w.heap.size, 0, none⟩))) (w.alloc ob)) (a : Act) : NewS P ops D w0 o ob a :=
  ⟨by simp [Region.wanted, hg], fun w _ => hx a w⟩
end
end Go.Proofs.YteehdjkmjncehaaDoor
