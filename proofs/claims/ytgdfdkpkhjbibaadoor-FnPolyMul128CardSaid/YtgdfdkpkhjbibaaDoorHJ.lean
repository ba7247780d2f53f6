/-
  The symbolic walk: copies of rows of equal parts; addresses taken first in a region that draws its order.
-/
import Derived.Test.YtgdfdkpkhjbibaaDoorHI
import Derived.Test.YtgdfdkpkhjbibaaDoorHG
namespace Go.Proofs.YtgdfdkpkhjbibaaDoor
open Go.RowKit
theorem run_copy_parts {P : Program} (w : World) (dT sT ty elem : TypeId) (g o dLen dCap s : Nat) (a : Addr) (sLen sCap : Nat) (cur : Array Value) (t : TypeId) (cs : List Value)
    (hu : P.underlying dT = some (.slice elem)) (hs : (P.info? elem).map (·.size) = some s)
    (hg : w.heap[g]? = some (.cells cur t (0, 0))) (hn : cs.length = Nat.min sLen dLen * s)
    (hsrc : ∀ j v, cs[j]? = some v → w.cell? (a.add j) = some v) (hfit : o + cs.length ≤ cur.size) (h1 : ∀ v ∈ cs, v.oneCell' = true) :
    (Builtin.copy_ #[dT, sT] ty #[.slice (some ⟨g, o, none⟩) dLen dCap, .slice (some a) sLen sCap]).run P w =
      .ok (goInt (Nat.min sLen dLen)) (w.setRow g (cur.toList.take o ++ cs ++ cur.toList.drop (o + cs.length)).toArray) := by
  have hl := run_loadCells_list (P := P) w a cs hsrc
  have hst := run_storeCells_at P g o t cs 0 cur w hg (by simpa using hfit) h1
  cases hq : P.info? elem with
  | none => simp [hq] at hs
  | some i =>
    have hi : i.size = s := by simpa [hq] using hs
    simp [Builtin.copy_, run_underlying hu, Builtin.lenOf, Builtin.firstCells, sizeOf, typeInfo, hq, hi, ← hn, hl, hst]
section
variable {P : Program} {ops : Array Oper} {Q : Exit → Act → World → Prop} {D : Nat → Bool} {w0 : World} {n f : Nat} {listed : Array Bool} {σ : List (Nat × Value)} {η : List (Nat × Obj)}
  {ty e : TypeId} {pos : String} {af : Array Edge} {rest : List Oper}
/-- The copy of a row's first parts over a whole block. -/
theorem HL.copyRows {x y : Operand} {d : Nat} {dT sT : TypeId} (i : Nat) {s g c b q c' m l2 : Nat} {cur : Array Value} {T : TypeId} (cs : Array Value) (hx : evS σ x = some (.slice (some ⟨g, 0, none⟩) m c)) (hy : evS σ y = some (.slice (some ⟨b, q, none⟩) l2 c')) (hu : P.underlying dT = some (.slice e)) (hs : (P.info? e).map (·.size) = some s)
    (hi : η[i]? = some (g, .cells cur T (0, 0))) (h1 : cur.size = m * s) (h2 : cs.size = m * s) (hml : m ≤ l2) (hsrc : ∀ w, Hold D w0 η w → ∀ j v, cs[j]? = some v → w.cell? ⟨b, q + j, none⟩ = some v) (ho : ∀ v ∈ cs, v.oneCell' = true) (hD : w0.heap.size ≤ g ∨ D g = true)
    (hd : d < n) (h : HL P ops Q D w0 n rest ((d, .int .i64 (m : Int)) :: σ) (η.set i (g, .cells cs T (0, 0)))) : HL P ops Q D w0 n (⟨some d, .call { callee := .builtin .copy, args := #[x, y], argTypes := #[dT, sT] }, ty, pos, af, none⟩ :: rest) σ η := ⟨fun a w ha hw => by
  have hg := hw.at hi
  have hmin : Nat.min l2 m = m := Nat.min_eq_right hml
  have hrun := run_copy_parts (P := P) w dT sT ty e g 0 m c s ⟨b, q, none⟩ l2 c' cur T cs.toList hu hs hg (by rw [hmin]; simpa using h2) (fun j v hj => by
    rw [Addr.add_mid]; exact hsrc w hw j v (by simpa using hj)) (by simp; omega) (fun v hv => ho v (by simpa using hv))
  have e1 : (List.take 0 cur.toList ++ cs.toList ++ List.drop (0 + cs.toList.length) cur.toList).toArray = cs := by
    apply Array.toList_inj.1
    have hl : cur.toList.length ≤ 0 + cs.toList.length := by simp; omega
    rw [List.drop_eq_nil_of_le hl]
    simp
  rw [e1, hmin] at hrun
  have ex := ha.eval hx
  have ey := ha.eval hy
  unfold wpList
  rw [if_pos (by simp [Region.wanted])]
  refine .inl ?_
  unfold Oper.wp execOp
  simp only [resolve, invoke, builtin, Sem.run_bind, Sem.run_pure, Result.andThen_ok, List.map_toArray, List.map_cons, List.map_nil, ex, ey, hrun, Oper.upon]
  exact h.out _ _ (ha.put hd _) (hw.put hi hD rfl rfl rfl (by simp) (fun k _ hk => setRow_other w g k cs hk) (setRow_heap w g cur cs T (0, 0) hg))⟩
/-- An element's address first. -/
theorem HA.takeIx {i d t : Nat} {x y : Operand} {k : IntKind} {s b q l c j : Nat} (q' : Nat) (hi : ops[i]? = some ⟨some d, .indexAddr t x y, ty, pos, af, none⟩) (hB : (Region.noSelect ops && Region.free .any ops listed i && (Region.ready .any ops listed).contains i) = true)
    (hx : evS σ x = some (.slice (some ⟨b, q, none⟩) l c)) (hy : evS σ y = some (.int k (j : Int))) (hu : P.underlying t = some (.slice e)) (hs : (P.info? e).map (·.size) = some s) (hj : j < l) (hq : q + j * s = q') (hd : d < n)
    (h : HA P ops (NoP Q) D w0 n f (listed.setIfInBounds i true) ((d, .pointer (some ⟨b, q', none⟩)) :: σ) η) : HA P ops (NoP Q) D w0 n (f + 1) listed σ η := ⟨fun a w ha hw => by
  simp only [Bool.and_eq_true] at hB
  refine wpAny_take hi hB.1.1 hB.1.2 hB.2 (fun c a w h => absurd rfl (h.1 c)) (v := .pointer (some ⟨b, q', none⟩)) (.inl ⟨by simp [Region.wanted], fun w => ?_⟩) (h.out _ _ (ha.put hd _) hw)
  subst hq
  have h1 := ha.eval hx
  have h2 := ha.eval hy
  have he : P.elem t = e := by simp [Program.elem, hu]
  unfold execOp
  simp only [h1, h2, Sem.run_bind, run_indexAt_slice (P := P) w t ⟨b, q, none⟩ l c k j (by rw [he]; exact hu), he, size_of hs w]
  rw [if_pos ⟨by omega, by omega⟩]
  simp [Addr.add_lit]⟩
end
end Go.Proofs.YtgdfdkpkhjbibaaDoor
