
/-
  Elements as arrays of 32 bytes and as blocks of four numbers.
-/
import Derived.Test.YteehdjkmjncehaaDoorDig
namespace Go.Proofs.YteehdjkmjncehaaDoor
open Go.RowKit
/-- An element's four numbers. -/
def elL (v : Nat) : List Nat := [limb v 0, limb v 1, limb v 2, limb v 3]
theorem limb_byte (v k j : Nat) (hj : j < 8) : limb v k / 256 ^ j % 256 = v / 256 ^ (8 * k + j) % 256 := by
  have e : 256 ^ (8 * k + j) = 18446744073709551616 ^ k * 256 ^ j := by rw [Nat.pow_add, Nat.pow_mul]
  rw [e, ← Nat.div_div_eq_div_mul]
  unfold limb
  generalize v / 18446744073709551616 ^ k = q
  rcases (show j = 0 ∨ j = 1 ∨ j = 2 ∨ j = 3 ∨ j = 4 ∨ j = 5 ∨ j = 6 ∨ j = 7 from by omega) with rfl | rfl | rfl | rfl | rfl | rfl | rfl | rfl <;> simp only [Nat.reducePow, Nat.div_one] <;> omega
theorem byA_el (v : Nat) : byA 32 v = (arr8 (elL v)).toArray := by
  apply Array.ext_getElem?
  intro i
  by_cases hi : i < 32
  · rw [byA_get hi]
    obtain ⟨k, j, hk, hj, rfl⟩ : ∃ k j, k < 4 ∧ j < 8 ∧ i = 8 * k + j := ⟨i / 8, i % 8, by omega, by omega, by omega⟩
    have h : (elL v)[k]? = some (limb v k) := by
      rcases (show k = 0 ∨ k = 1 ∨ k = 2 ∨ k = 3 by omega) with rfl | rfl | rfl | rfl <;> rfl
    have := arr8_get (limb v k) (elL v) k j h hj
    rw [List.getElem?_toArray, this]
    unfold bv
    rw [limb_byte v k j hj]
  · rw [Array.getElem?_eq_none (by rw [byA_size]; omega), Array.getElem?_eq_none (by rw [List.size_toArray, arr8_length]; simp [elL]; omega)]
theorem zeros_el : bfA 32 (fun _ => 0) = (arr8 (elL 0)).toArray := by
  rw [← byA_el]; rfl
theorem putE_el (v r : Nat) : putE (elL v) 0 r = elL r := rfl
theorem elL_length (v : Nat) : (elL v).length = 4 := rfl
theorem blk_el {w : World} {b T v : Nat} (h : w.heap[b]? = some (.cells (byA 32 v) T (0, 0))) : Blk w b T (elL v) := by
  unfold Blk; rw [h, byA_el]
theorem blk_zero {w : World} {b T : Nat} (h : w.heap[b]? = some (.cells (bfA 32 (fun _ => 0)) T (0, 0))) : Blk w b T (elL 0) := by
  unfold Blk; rw [h, zeros_el]
theorem Blk.row {w : World} {b T r : Nat} (h : Blk w b T (elL r)) : w.heap[b]? = some (.cells (byA 32 r) T (0, 0)) := by
  unfold Blk at h; rw [h, byA_el]
theorem Blk.el {w : World} {b T v : Nat} (h : Blk w b T (elL v)) : ElAt w b 0 v := ⟨T, elL v, 0, h, rfl, rfl, rfl, rfl, rfl⟩
end Go.Proofs.YteehdjkmjncehaaDoor
