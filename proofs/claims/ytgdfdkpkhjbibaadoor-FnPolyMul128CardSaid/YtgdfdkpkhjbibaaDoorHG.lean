/-
  The symbolic walk: clear, and copies of rows.
-/
import Derived.Test.YtgdfdkpkhjbibaaDoorVd
import Derived.Laws.CopyRow
namespace Go.Proofs.YtgdfdkpkhjbibaaDoor
open Go.RowKit
section
variable {P : Program} {ops : Array Oper} {Q : Exit → Act → World → Prop} {D : Nat → Bool} {w0 : World} {n : Nat} {σ : List (Nat × Value)} {η : List (Nat × Obj)}
  {ty : TypeId} {pos : String} {af : Array Edge} {rest : List Oper} {t : TypeId} {x : Operand}
theorem zeroCells_made (z : Array Value) (m s : Nat) (hz : z.size = s) : Builtin.zeroCells z m = madeCells z (m * s) := by
  subst hz
  apply Array.ext_getElem?
  intro i
  unfold Builtin.zeroCells madeCells
  by_cases h : i < m * z.size
  · simp [h]
  · simp [h]
/-- clear of a whole block. -/
theorem HL.clear {s : Nat} {z : Value} (i : Nat) {b m c : Nat} {cur cs : Array Value} {T : TypeId} (hx : evS σ x = some (.slice (some ⟨b, 0, none⟩) m c))
    (hu : P.underlying t = some (.slice T)) (hs : (P.info? T).map (·.size) = some s) (hz : (P.info? T).bind (·.zero) = some z) (hzs : z.cells.size = s) (hz1 : ∀ v ∈ z.cells, v.oneCell' = true)
    (hi : η[i]? = some (b, .cells cur T (0, 0))) (hcs : cur.size = m * s) (he : madeCells z.cells (m * s) = cs) (hD : w0.heap.size ≤ b ∨ D b = true)
    (h : HL P ops Q D w0 n rest σ (η.set i (b, .cells cs T (0, 0)))) :
    HL P ops Q D w0 n (⟨none, .call { callee := .builtin .clear, args := #[x], argTypes := #[t] }, ty, pos, af, none⟩ :: rest) σ η := ⟨fun a w ha hw => by
  have e1 := ha.eval hx
  obtain ⟨io, hio, rfl⟩ := map_info hs
  rw [hio] at hz
  simp only [Option.bind_some] at hz
  have hg := hw.at hi
  unfold wpList
  rw [if_pos (by simp [Region.wanted])]
  refine .inl ?_
  unfold Oper.wp execOp
  simp only [resolve, invoke, builtin, Sem.run_bind, Sem.run_pure, Result.andThen_ok, List.map_toArray, List.map_cons, List.map_nil, e1]
  have hzv : (zeroValue T).run P w = .ok z w := by simp [zeroValue, typeInfo, hio, hz]
  cases m with
  | zero =>
    have hr : (Builtin.clear_ #[t] ty #[.slice (some ⟨b, 0, none⟩) 0 c]).run P w = .ok (.tuple #[]) w := by simp [Builtin.clear_, run_underlying hu]
    rw [hr]
    simp only [Result.andThen_ok, Oper.upon]
    have hsz : cs = cur := by
      subst he
      have h0 : cur = #[] := Array.eq_empty_of_size_eq_zero (by rw [hcs]; omega)
      rw [h0]; simp [madeCells]
    subst hsz
    refine h.out _ _ ha ?_
    exact hw.put hi hD rfl rfl rfl (Nat.le_refl _) (fun _ _ _ => rfl) hg
  | succ m =>
    have hnew : (Builtin.zeroCells z.cells (m + 1)).toList.length = (m + 1) * io.size := by
      rw [Array.length_toList, size_zeroCells, hzs]
    have hst := run_storeCells_at P b 0 T (Builtin.zeroCells z.cells (m + 1)).toList 0 cur w hg (by rw [hnew, hcs]; omega) (fun v hv => by
      have hv' : v ∈ Builtin.zeroCells z.cells (m + 1) := by simpa using hv
      unfold Builtin.zeroCells at hv'
      obtain ⟨j, hj, rfl⟩ := Array.mem_map.1 hv'
      by_cases h0 : 0 < z.cells.size
      · have hlt : j % z.cells.size < z.cells.size := Nat.mod_lt _ h0
        rw [getElem!_pos z.cells _ hlt]
        exact hz1 _ (Array.getElem_mem hlt)
      · have : z.cells.size = 0 := by omega
        rw [this] at hj; simp at hj)
    simp only [Nat.add_zero] at hst
    have hr : (Builtin.clear_ #[t] ty #[.slice (some ⟨b, 0, none⟩) (m + 1) c]).run P w = .ok (.tuple #[]) (w.setRow b cs) := by
      have e : (cur.toList.take 0 ++ (Builtin.zeroCells z.cells (m + 1)).toList ++ cur.toList.drop (0 + (Builtin.zeroCells z.cells (m + 1)).toList.length)).toArray = cs := by
        rw [List.take_zero, List.nil_append, List.drop_eq_nil_of_le (by rw [hnew, Array.length_toList, hcs]; omega), List.append_nil, ← he, zeroCells_made _ _ _ hzs]
      rw [← e]
      simp [Builtin.clear_, run_underlying hu, hzv, hst]
    rw [hr]
    simp only [Result.andThen_ok, Oper.upon]
    exact h.out _ _ ha (hw.put hi hD rfl rfl rfl (by simp) (fun k _ hk => setRow_other w b k cs hk) (setRow_heap w b cur cs T (0, 0) hg))⟩
end
end Go.Proofs.YtgdfdkpkhjbibaaDoor
