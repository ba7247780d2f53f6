/-
  The symbolic walk: a region that draws its order, in which a value may come behind a store: values, two new blocks, a store into each.
-/
import Derived.Test.YteehdjkmjncehaaHT
import Derived.Test.YteehdjkmjncehaaFree
namespace Go.Proofs.Yteehdjkmjncehaa
open Go.RowKit
section
variable {P : Program} {ops : Array Oper} {Q : Exit → Act → World → Prop} {D : Nat → Bool} {w0 : World} {n : Nat} {σ : List (Nat × Value)} {η : List (Nat × Obj)} {I : World → Prop}
theorem wpVL_of {w : World} {K : Act → Prop} (hI : ∀ w', SinceD (fun _ => false) w w' → I w') : ∀ (l : List Oper) (a : Act), wpVI P ops I K l a → wpVL P ops (fun _ => false) w K l a
  | [], _, h => h
  | _ :: l, _, ⟨v, hv, h⟩ => ⟨v, hv.imp (fun ⟨h1, h2⟩ => ⟨h1, fun w' hw => h2 w' (hI w' hw)⟩) id, wpVL_of hI l _ h⟩
/-- What stands behind two new blocks: a store into each. -/
structure Tail2 (P : Program) (Q : Exit → Act → World → Prop) (D : Nat → Bool) (w0 : World) (o3 o4 : Oper) (d1 d2 : Nat) (ob1 ob2 : Obj) (η : List (Nat × Obj)) (ops : Array Oper) (a : Act) : Prop where
  out : ∀ b1 b2, w0.heap.size ≤ b1 → w0.heap.size ≤ b2 → ∃ ob3 ob4, PutS P ops o3 b1 ob1 ob3 ((a.put (some d1) (.pointer (some ⟨b1, 0, none⟩))).put (some d2) (.pointer (some ⟨b2, 0, none⟩))) ∧ PutS P ops o4 b2 ob2 ob4 ((a.put (some d1) (.pointer (some ⟨b1, 0, none⟩))).put (some d2) (.pointer (some ⟨b2, 0, none⟩))) ∧
    ∀ w, Hold D w0 ((b2, ob4) :: (b1, ob3) :: η) w → Q .normal ((a.put (some d1) (.pointer (some ⟨b1, 0, none⟩))).put (some d2) (.pointer (some ⟨b2, 0, none⟩))) w
theorem newS_of {t d : Nat} {ty : TypeId} {pos : String} {af : Array Edge} {ob : Obj} {w : World} (hz : ∀ w, (Instr.alloc t true (.tuple #[])).run P w = .ok (.pointer (some ⟨w.heap.size, 0, none⟩)) (w.alloc ob)) (a : Act) : NewS P ops (fun _ => false) w ⟨some d, .alloc t, ty, pos, af, none⟩ ob a :=
  ⟨by simp [Region.wanted], fun w _ => by unfold execOp; simp [hz w]⟩
theorem HC.draw2s {l : List Oper} {id : Nat} (v : Nat) (hm : P.follows .mixedOrders = true) (hc : (headB .any l.toArray v && tailB .any l.toArray (v + 2) && new2B .any l.toArray v) = true) {d1 d2 t1 t2 : Nat} {ty1 ty2 : TypeId} {p1 p2 : String} {f1 f2 : Array Edge} {o3 o4 : Oper} {ob1 ob2 : Obj}
    (h1 : l[v]? = some ⟨some d1, .alloc t1, ty1, p1, f1, none⟩) (h2 : l[v + 1]? = some ⟨some d2, .alloc t2, ty2, p2, f2, none⟩) (h34 : l.drop (v + 2) = [o3, o4]) (hd : d2 ≠ d1)
    (z1 : ∀ w, (Instr.alloc t1 true (.tuple #[])).run P w = .ok (.pointer (some ⟨w.heap.size, 0, none⟩)) (w.alloc ob1)) (z2 : ∀ w, (Instr.alloc t2 true (.tuple #[])).run P w = .ok (.pointer (some ⟨w.heap.size, 0, none⟩)) (w.alloc ob2))
    (h : HV P l.toArray (Hold D w0 η) n (Tail2 P Q D w0 o3 o4 d1 d2 ob1 ob2 η l.toArray) (l.take v) σ) : HC P (.region id l.toArray true) Q D w0 n σ η := ⟨fun a w ha hw => by
  refine wp_region_new2 v (fun _ => false) (fun _ => none) hm hc (fun _ _ h => by cases h) h1 h2 (fun d e => by cases e; simpa using hd) (newS_of z1) (newS_of z2) ?_
  refine wpVL_mono (fun a hK => ?_) _ _ (wpVL_of (fun w' hw' => hw.on (hw'.below (Nat.le_refl _) (fun _ _ => rfl))) _ _ (h.out a ha))
  intro b1 b2 g1 g2 hne _ _
  obtain ⟨ob3, ob4, p3, p4, hq⟩ := hK.out b1 b2 (Nat.le_trans hw.sn.size g1) (Nat.le_trans hw.sn.size g2)
  rw [h34]
  refine ⟨b1, ob1, ob3, by simp [updC, hne], fun h => by omega, p3, b2, ob2, ob4, by simp [updC, Ne.symm hne], fun h => by omega, p4, fun w' hs => hq w' ?_⟩
  have hb : Below w.heap.size w w' := hs.since.below (Nat.le_refl _) (fun _ _ => rfl)
  have e1 := hs.held b1 ob3 (by simp [updC, hne])
  have e2 := hs.held b2 ob4 (by simp [updC])
  refine ⟨hw.sn.on hb, fun p hp => ?_, ?_⟩
  · rcases List.mem_cons.1 hp with rfl | hp
    · exact e2
    · rcases List.mem_cons.1 hp with rfl | hp
      · exact e1
      · exact (hw.on hb).held p hp
  · have old : ∀ b, w.heap.size ≤ b → b ∉ η.map Prod.fst := fun b hb hm => by
      obtain ⟨p, hp, e⟩ := List.mem_map.1 hm
      have := hw.lt hp
      rw [e] at this; omega
    simp only [List.map_cons, List.nodup_cons, List.mem_cons, not_or]
    exact ⟨⟨Ne.symm hne, old b2 g2⟩, old b1 g1, hw.nd⟩⟩
theorem putS_of {op : Op} {ty : TypeId} {pos : String} {af : Array Edge} {b : Nat} {x y : Obj} (h : Put P n σ ⟨none, op, ty, pos, af, none⟩ b x y) {a : Act} (ha : Tm n σ a) : PutS P ops ⟨none, op, ty, pos, af, none⟩ b x y a :=
  ⟨by simp [Region.wanted], rfl, fun w hw => by
    obtain ⟨w', e, h1, h2, h3, h4, h5, h6⟩ := h.out a w ha hw
    exact ⟨w', e, ⟨h1, h2, h3, h4, h5⟩, h6⟩⟩
theorem HV.tail2s {d1 d2 : Nat} {op3 op4 : Op} {ty3 ty4 : TypeId} {p3 p4 : String} {f3 f4 : Array Edge} {ob1 ob2 : Obj} {ob3 ob4 : Obj} (hd1 : d1 < n) (hd2 : d2 < n)
    (h3 : ∀ b1 b2, Put P n ((d2, .pointer (some ⟨b2, 0, none⟩)) :: (d1, .pointer (some ⟨b1, 0, none⟩)) :: σ) ⟨none, op3, ty3, p3, f3, none⟩ b1 ob1 ob3) (h4 : ∀ b1 b2, Put P n ((d2, .pointer (some ⟨b2, 0, none⟩)) :: (d1, .pointer (some ⟨b1, 0, none⟩)) :: σ) ⟨none, op4, ty4, p4, f4, none⟩ b2 ob2 ob4)
    (h : ∀ b1 b2, w0.heap.size ≤ b1 → w0.heap.size ≤ b2 → HQ Q .normal D w0 n ((d2, .pointer (some ⟨b2, 0, none⟩)) :: (d1, .pointer (some ⟨b1, 0, none⟩)) :: σ) ((b2, ob4) :: (b1, ob3) :: η)) :
    HV P ops I n (Tail2 P Q D w0 ⟨none, op3, ty3, p3, f3, none⟩ ⟨none, op4, ty4, p4, f4, none⟩ d1 d2 ob1 ob2 η ops) [] σ := ⟨fun _ ha => ⟨fun b1 b2 g1 g2 =>
  have hA := (ha.put hd1 (.pointer (some ⟨b1, 0, none⟩))).put hd2 (.pointer (some ⟨b2, 0, none⟩))
  ⟨ob3, ob4, putS_of (h3 b1 b2) hA, putS_of (h4 b1 b2) hA, fun w hw => (h b1 b2 g1 g2).out _ w hA hw⟩⟩⟩
end
end Go.Proofs.Yteehdjkmjncehaa
