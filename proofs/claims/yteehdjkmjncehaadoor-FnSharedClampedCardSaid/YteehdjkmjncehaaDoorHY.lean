/-
  The symbolic walk: a region that draws its order, in which a value may come behind a store: values, one new block, a store into it, an assignment.
-/
import Derived.Test.YteehdjkmjncehaaDoorHQ
import Derived.Test.YteehdjkmjncehaaDoorFree2
namespace Go.Proofs.YteehdjkmjncehaaDoor
open Go.RowKit
section
variable {P : Program} {ops : Array Oper} {Q : Exit → Act → World → Prop} {md : Region.Mode} {D : Nat → Bool} {w0 : World} {n : Nat} {σ : List (Nat × Value)} {η : List (Nat × Obj)} {I : World → Prop}
/-- What stands behind the new block: stores and values, in one order. -/
def wpTL (P : Program) (ops : Array Oper) (Q : Exit → Act → World → Prop) (D : Nat → Bool) (w0 : World) : List Oper → Act → (Nat → Option Obj) → Prop
  | [], a, C => ∀ w, StX D w0 C w → Q .normal a w
  | o :: rest, a, C => (∃ v, ValS P ops D w0 o v a ∧ wpTL P ops Q D w0 rest (a.put o.dst v) C) ∨ (∃ b ob ob', C b = some ob ∧ (b < w0.heap.size → D b = true) ∧ PutS P ops o b ob ob' a ∧ wpTL P ops Q D w0 rest a (updC C b ob'))
theorem wpX_of_tail {l : List Oper} {m : Nat} (hc : tailB md l.toArray m = true) : ∀ (rest : List Oper) (k : Nat) (a : Act) (C : Nat → Option Obj), (∀ j, rest[j]? = l[k + j]?) → m ≤ k → k ≤ l.length →
    wpTL P l.toArray Q D w0 rest a C → wpX P md l.toArray Q D w0 rest.length (upTo l.length k) a C
  | [], k, a, C, hd, hn, hk, h => by
    have : k = l.length := by
      have := hd 0
      simp at this
      omega
    subst this
    have := ready_all md l.toArray
    rw [List.size_toArray] at this
    exact ⟨this, h⟩
  | o :: rest, k, a, C, hd, hn, hk, h => by
    have hio : l[k]? = some o := by simpa using (hd 0).symm
    have hlt : k < l.length := (List.getElem?_eq_some_iff.1 hio).1
    have hr := tailB_spec hc k (by simpa using hlt) hn
    rw [List.size_toArray] at hr
    have hd' : ∀ j, rest[j]? = l[k + 1 + j]? := fun j => by
      have := hd (j + 1)
      simpa [Nat.add_assoc, Nat.add_comm 1 j] using this
    refine ⟨fun h0 => (by rw [hr] at h0; cases h0), fun i hi => ?_⟩
    rw [hr] at hi
    obtain rfl : i = k := by simpa using hi
    rcases h with ⟨v, hv, hrest⟩ | ⟨b, ob, ob', hc1, hD, hp, hrest⟩
    · refine ⟨o, by simpa using hio, .inl ⟨v, hv, ?_⟩⟩
      rw [upTo_succ]
      exact wpX_of_tail hc rest (i + 1) _ _ hd' (by omega) (by omega) hrest
    · refine ⟨o, by simpa using hio, .inr (.inr ⟨b, ob, ob', hc1, hD, hp, ?_⟩)⟩
      rw [upTo_succ]
      have e : a.put o.dst undef = a := by rw [hp.2.1]; rfl
      rw [e]
      exact wpX_of_tail hc rest (i + 1) a _ hd' (by omega) (by omega) hrest
theorem wp_region_new1T {l : List Oper} {id : Nat} {a : Act} {w : World} (m : Nat) (D : Nat → Bool) (C : Nat → Option Obj) (hm : P.follows .mixedOrders = true)
    (hc : (headB .any l.toArray m && tailB .any l.toArray m) = true) (hC : ∀ b o, C b = some o → w.heap[b]? = some o) {o1 : Oper} (h1 : l[m]? = some o1)
    {ob1 : Obj} (n1 : ∀ a, NewS P l.toArray D w o1 ob1 a)
    (h : wpVL P l.toArray D w (fun a => ∀ b1, w.heap.size ≤ b1 → C b1 = none →
      wpTL P l.toArray Q D w (l.drop (m + 1)) (a.put o1.dst (.pointer (some ⟨b1, 0, none⟩))) (updC C b1 ob1)) (l.take m) a) : (Code.region id l.toArray true).wp P Q a w := by
  simp only [Bool.and_eq_true] at hc
  obtain ⟨hc1, hc2⟩ := hc
  have hlt : m < l.length := (List.getElem?_eq_some_iff.1 h1).1
  have hlen : l.length = (l.take m).length + ((l.drop (m + 1)).length + 1) := by rw [List.length_take, List.length_drop]; omega
  have r0 := tailB_spec hc2 m (by simpa using hlt) (Nat.le_refl _)
  rw [List.size_toArray] at r0
  have ht : tailB .any l.toArray (m + 1) = true := by
    have h2 := hc2
    simp only [tailB, List.all_eq_true, List.mem_range, Bool.or_eq_true, decide_eq_true_eq, beq_iff_eq] at h2 ⊢
    intro k hk
    rcases h2 k hk with h | h
    · exact .inl (by omega)
    · exact .inr h
  refine wp_region_any hm (wpAny_of_wpX (D := D) (w0 := w) _ _ _ C w.drew ⟨SinceD.drew D w, hC⟩ ?_)
  rw [List.size_toArray, ← upTo_zero]
  have := wpX_of_list (P := P) (Q := Q) (D := D) (w0 := w) (C := C) (l := l) ((l.drop (m + 1)).length + 1) hc1 0 (l.take m) a (fun j hj => by rw [List.length_take] at hj; rw [Nat.zero_add, List.getElem?_take]; simp; omega) (by rw [List.length_take]; omega) ?_
  · rw [← hlen] at this; exact this
  · refine wpVL_mono (fun a' ha => ?_) _ _ h
    refine ⟨fun h0 => (by rw [r0] at h0; cases h0), fun i hi => ?_⟩
    rw [r0] at hi
    obtain rfl : i = m := by simpa using hi
    refine ⟨o1, by simpa using h1, .inr (.inl ⟨ob1, n1 _, fun b1 e1 e4 => ?_⟩)⟩
    rw [upTo_succ]
    exact wpX_of_tail ht (l.drop (i + 1)) (i + 1) _ _ (fun j => by rw [List.getElem?_drop]) (Nat.le_refl _) (by omega) (ha b1 e1 e4)
/-- Behind the new block: a store into it, an assignment. -/
structure Tail1 (P : Program) (Q : Exit → Act → World → Prop) (D : Nat → Bool) (w0 : World) (o3 o4 : Oper) (d1 d4 : Nat) (ob1 : Obj) (η : List (Nat × Obj)) (ops : Array Oper) (a : Act) : Prop where
  out : ∀ b1, w0.heap.size ≤ b1 → ∃ ob3 v, PutS P ops o3 b1 ob1 ob3 (a.put (some d1) (.pointer (some ⟨b1, 0, none⟩))) ∧ (∀ w, Region.wanted o4 (yielded ops (a.put (some d1) (.pointer (some ⟨b1, 0, none⟩))).tmps) = true ∧ (execOp (a.put (some d1) (.pointer (some ⟨b1, 0, none⟩))).eval o4).run P w = .ok (.value v) w) ∧
    ∀ w, Hold D w0 ((b1, ob3) :: η) w → Q .normal ((a.put (some d1) (.pointer (some ⟨b1, 0, none⟩))).put (some d4) v) w
theorem HC.draw1s {l : List Oper} {id : Nat} (v : Nat) (hm : P.follows .mixedOrders = true) (hc : (headB .any l.toArray v && tailB .any l.toArray v) = true) {d1 d4 t1 : Nat} {ty1 ty4 : TypeId} {p1 p4 : String} {f1 f4 : Array Edge} {x : Operand} {o3 : Oper} {ob1 : Obj}
    (h1 : l[v]? = some ⟨some d1, .alloc t1, ty1, p1, f1, none⟩) (h34 : l.drop (v + 1) = [o3, ⟨some d4, .assign x, ty4, p4, f4, none⟩])
    (z1 : ∀ w, (Instr.alloc t1 true (.tuple #[])).run P w = .ok (.pointer (some ⟨w.heap.size, 0, none⟩)) (w.alloc ob1))
    (h : HV P l.toArray (Hold D w0 η) n (Tail1 P Q D w0 o3 ⟨some d4, .assign x, ty4, p4, f4, none⟩ d1 d4 ob1 η l.toArray) (l.take v) σ) : HC P (.region id l.toArray true) Q D w0 n σ η := ⟨fun a w ha hw => by
  refine wp_region_new1T v (fun _ => false) (fun _ => none) hm hc (fun _ _ h => by cases h) h1 (newS_of z1) ?_
  refine wpVL_mono (fun a hK => ?_) _ _ (wpVL_of (fun w' hw' => hw.on (hw'.below (Nat.le_refl _) (fun _ _ => rfl))) _ _ (h.out a ha))
  intro b1 g1 _
  obtain ⟨ob3, u, p3, p4, hq⟩ := hK.out b1 (Nat.le_trans hw.sn.size g1)
  rw [h34]
  refine .inr ⟨b1, ob1, ob3, by simp [updC], fun h => by omega, p3, .inl ⟨u, .inl ⟨(p4 w).1, fun w' _ => by rw [(p4 w').2]; exact ⟨rfl, Below.refl _ _⟩⟩, fun w' hs => hq w' ?_⟩⟩
  have hb : Below w.heap.size w w' := hs.since.below (Nat.le_refl _) (fun _ _ => rfl)
  have e1 := hs.held b1 ob3 (by simp [updC])
  refine ⟨hw.sn.on hb, fun p hp => ?_, ?_⟩
  · rcases List.mem_cons.1 hp with rfl | hp
    · exact e1
    · exact (hw.on hb).held p hp
  · simp only [List.map_cons, List.nodup_cons]
    refine ⟨fun hm => ?_, hw.nd⟩
    obtain ⟨p, hp, e⟩ := List.mem_map.1 hm
    have := hw.lt hp
    rw [e] at this; omega⟩
theorem HV.tail1s {d1 d4 : Nat} {op3 : Op} {x : Operand} {u : Value} {ty3 ty4 : TypeId} {p3 p4 : String} {f3 f4 : Array Edge} {ob1 ob3 : Obj} (hd1 : d1 < n) (hd4 : d4 < n)
    (h3 : ∀ b1, Put P n ((d1, .pointer (some ⟨b1, 0, none⟩)) :: σ) ⟨none, op3, ty3, p3, f3, none⟩ b1 ob1 ob3) (h4 : ∀ b1, evS ((d1, .pointer (some ⟨b1, 0, none⟩)) :: σ) x = some u)
    (h : ∀ b1, w0.heap.size ≤ b1 → HQ Q .normal D w0 n ((d4, u) :: (d1, .pointer (some ⟨b1, 0, none⟩)) :: σ) ((b1, ob3) :: η)) :
    HV P ops I n (Tail1 P Q D w0 ⟨none, op3, ty3, p3, f3, none⟩ ⟨some d4, .assign x, ty4, p4, f4, none⟩ d1 d4 ob1 η ops) [] σ := ⟨fun _ ha => ⟨fun b1 g1 =>
  have hA := ha.put hd1 (.pointer (some ⟨b1, 0, none⟩))
  ⟨ob3, u, putS_of (h3 b1) hA, fun _ => ⟨by simp [Region.wanted], by
    have := hA.eval (h4 b1)
    unfold execOp; simp [this]⟩, fun w hw => (h b1 g1).out _ w (hA.put hd4 u) hw⟩⟩⟩
end
end Go.Proofs.YteehdjkmjncehaaDoor
