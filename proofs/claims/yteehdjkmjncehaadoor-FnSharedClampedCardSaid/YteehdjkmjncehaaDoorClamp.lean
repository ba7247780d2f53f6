
/-
  How a secret key is taken: Key.clamp, ZZClamp, impl.Clamp, spec.Clamped all give the same 32 bytes.
-/
import Derived.Test.YteehdjkmjncehaaDoorArr
import Derived.Test.YteehdjkmjncehaaDoorSteady
namespace Go.Proofs.YteehdjkmjncehaaDoor
open Go.RowKit
/-- A secret key as it is taken. -/
def clampN (v : Nat) : Nat := v % 2 ^ 254 / 8 * 8 + 2 ^ 254
theorem clampN_lt (v : Nat) : clampN v < 256 ^ 32 := by unfold clampN; omega
theorem bits_248 : ∀ n : Nat, n < 256 → bits .and .u8 (n : Int) 248 = ((n / 8 * 8 : Nat) : Int) := by
  have h : ∀ n : Fin 256, bits .and .u8 ((n.val : Nat) : Int) 248 = ((n.val / 8 * 8 : Nat) : Int) := by decide +kernel
  exact fun n hn => h ⟨n, hn⟩
theorem bits_andNot7 : ∀ n : Nat, n < 256 → bits .andNot .u8 (n : Int) 7 = ((n / 8 * 8 : Nat) : Int) := by
  have h : ∀ n : Fin 256, bits .andNot .u8 ((n.val : Nat) : Int) 7 = ((n.val / 8 * 8 : Nat) : Int) := by decide +kernel
  exact fun n hn => h ⟨n, hn⟩
theorem bits_127 : ∀ n : Nat, n < 256 → bits .or .u8 (bits .and .u8 (n : Int) 127) 64 = ((n % 64 + 64 : Nat) : Int) := by
  have h : ∀ n : Fin 256, bits .or .u8 (bits .and .u8 ((n.val : Nat) : Int) 127) 64 = ((n.val % 64 + 64 : Nat) : Int) := by decide +kernel
  exact fun n hn => h ⟨n, hn⟩
theorem clamp_arr (v : Nat) : ((byA 32 v).setIfInBounds 0 (bv (clampN v) 0)).setIfInBounds 31 (bv (clampN v) 31) = byA 32 (clampN v) := by
  apply Array.ext_getElem?
  intro i
  simp only [Array.getElem?_setIfInBounds, Array.size_setIfInBounds, byA_size]
  by_cases h31 : 31 = i
  · subst h31; simp [byL]
  · rw [if_neg h31]
    by_cases h0 : 0 = i
    · subst h0; simp [byL]
    · rw [if_neg h0]
      by_cases hi : i < 32
      · rw [byA_get hi, byA_get hi]
        unfold bv clampN
        have : i ∈ List.range 32 := List.mem_range.2 hi
        have key : ∀ i ∈ List.range 32, i ≠ 0 → i ≠ 31 → v / 256 ^ i % 256 = (v % 2 ^ 254 / 8 * 8 + 2 ^ 254) / 256 ^ i % 256 := by
          simp only [List.range, List.range.loop, List.mem_cons, List.not_mem_nil, or_false, forall_eq_or_imp, forall_eq]
          refine ⟨fun h => absurd rfl h, ?_, ?_, ?_, ?_, ?_, ?_, ?_, ?_, ?_, ?_, ?_, ?_, ?_, ?_, ?_, ?_, ?_, ?_, ?_, ?_, ?_, ?_, ?_, ?_, ?_, ?_, ?_, ?_, ?_, ?_, fun _ h => absurd rfl h⟩ <;> (intro _ _; simp only [Nat.reducePow]; omega)
        rw [key i this (Ne.symm h0) (Ne.symm h31)]
      · rw [Array.getElem?_eq_none (by rw [byA_size]; omega), Array.getElem?_eq_none (by rw [byA_size]; omega)]
set_option maxRecDepth 100000 in
set_option maxHeartbeats 800000 in
theorem clamp66 (v : Nat) {w : World} {b0 b1 T0 T1 : Nat} {cs : Array Value} {fr : Nat × Nat} (h0 : w.heap[b0]? = some (.cells cs T0 (0, 0))) (hs : cs.size = 32) (h1 : w.heap[b1]? = some (.cells (byA 32 v) T1 fr)) :
    Calls Tryd.prog 57 #[.pointer (some ⟨b0, 0, none⟩), .pointer (some ⟨b1, 0, none⟩)] w fun e w' => e = .returned (.pointer (some ⟨b0, 0, none⟩)) ∧ w'.heap[b0]? = some (.cells (byA 32 (clampN v)) T0 (0, 0)) ∧ Only b0 w w' := by
  have hu := Tryd.underlying47
  have hi : (Tryd.prog.info? 47).map (·.size) = some 32 := by kernel_rfl
  have hz := byA_size 32 v
  have H := Lib.hid h1
  clear h1
  go_enter Tryd.func57, Tryd.ntmps57
  go_wp2_with (first
    | (refine wpList_load_row (o := ⟨some 8, _, _, _, _, _⟩) rfl 47 _ rfl b1 rfl _ _ _ _ H.out hu rfl (by rw [hi, hz]) ?_)
    | (refine wpList_store_row (o := ⟨none, .store 47 _ _, _, _, _, _⟩) rfl 47 _ _ rfl b0 _ rfl rfl _ _ h0 (by rw [hi, hz]) (by rw [hs, hz]) (by simp [byL, bv, Value.oneCell']) ?_))
  have hA := setRow_heap w b0 cs (byA 32 v) T0 (0, 0) h0
  have hO : Only b0 w (w.setRow b0 (byA 32 v)) := only_setRow w b0 _
  clear h0 hz H
  generalize w.setRow b0 (byA 32 v) = w1 at *
  simp only [Act.put]
  obtain ⟨n0, hn0, e0⟩ : ∃ n, n < 256 ∧ v / 256 ^ 0 % 256 = n := ⟨_, Nat.mod_lt _ (by decide), rfl⟩
  obtain ⟨n31, hn31, e31⟩ : ∃ n, n < 256 ∧ v / 256 ^ 31 % 256 = n := ⟨_, Nat.mod_lt _ (by decide), rfl⟩
  have c0 : w1.cell? ⟨b0, 0, none⟩ = some (.int .u8 (n0 : Int)) := by rw [cell_of_row w1 b0 0 _ _ _ hA, byA_get (by decide), bv, e0]
  have f0 : w1.frozen? ⟨b0, 0, none⟩ = false := frozen_of_row w1 b0 0 _ _ hA
  have HA := Lib.hid hA
  have HO := Lib.hid hO
  clear hA hO
  have E0 := Lib.hid e0
  have E31 := Lib.hid e31
  clear e0 e31
  go_region
  have hx0 : bits .and .u8 (n0 : Int) 248 = ((clampN v / 256 ^ 0 % 256 : Nat) : Int) := by
    rw [bits_248 n0 hn0]; have e := E0.out; unfold clampN; omega
  rw [hx0]
  have hB := set_step (o := 0) (v := bv (clampN v) 0) HA.out
  have hO2 := HO.out.trans (only_setCell w1 b0 0 (bv (clampN v) 0))
  clear HA HO c0 f0
  change Exit.then _ _ _ _ (World.drew (w1.setCell ⟨b0, 0, none⟩ (bv (clampN v) 0)))
  generalize w1.setCell ⟨b0, 0, none⟩ (bv (clampN v) 0) = w2 at *
  have c31 : w2.drew.cell? ⟨b0, 31, none⟩ = some (.int .u8 (n31 : Int)) := by rw [cell_of_row w2.drew b0 31 _ _ _ hB]; simp [byL, bv, E31.out]
  have f31 : w2.drew.frozen? ⟨b0, 31, none⟩ = false := frozen_of_row w2.drew b0 31 _ _ hB
  have HB := Lib.hid hB
  have HO := Lib.hid hO2
  clear hB hO2 hx0
  generalize hw3 : w2.drew = w3 at *
  have HW := Lib.hid hw3
  clear hw3
  go_wp2_with fail
  go_region
  have hx1 : bits .or .u8 (bits .and .u8 (n31 : Int) 127) 64 = ((clampN v / 256 ^ 31 % 256 : Nat) : Int) := by
    rw [bits_127 n31 hn31]; have e := E31.out; unfold clampN; omega
  rw [hx1]
  have hB := set_step (w := w3) (o := 31) (v := bv (clampN v) 31) (show w3.heap[b0]? = _ by rw [← HW.out]; exact HB.out)
  have hO3 : Only b0 w w3 := by rw [← HW.out]; exact HO.out.drew
  have hO4 := hO3.trans (only_setCell w3 b0 31 (bv (clampN v) 31))
  change Exit.then _ _ _ _ (World.drew (w3.setCell ⟨b0, 31, none⟩ (bv (clampN v) 31)))
  generalize w3.setCell ⟨b0, 31, none⟩ (bv (clampN v) 31) = w4 at *
  rw [clamp_arr] at hB
  have HB2 := Lib.hid hB
  have HO2 := Lib.hid hO4
  clear hB hO3 hO4 hx1 HB HO HW c31 f31
  go_wp2_with fail
  go_ret
  exact ⟨rfl, HB2.out, HO2.out.drew⟩
set_option maxRecDepth 100000 in
set_option maxHeartbeats 800000 in
theorem clamp19 (v : Nat) : Pure Tryd.prog 29 #[byV 32 v] (byV 32 (clampN v)) := by
  intro w
  unfold byV
  have hu := Tryd.underlying22
  have hi : (Tryd.prog.info? 22).map (·.size) = some 32 := by kernel_rfl
  obtain ⟨n0, hn0, e0⟩ : ∃ n, n < 256 ∧ v / 256 ^ 0 % 256 = n := ⟨_, Nat.mod_lt _ (by decide), rfl⟩
  obtain ⟨n31, hn31, e31⟩ : ∃ n, n < 256 ∧ v / 256 ^ 31 % 256 = n := ⟨_, Nat.mod_lt _ (by decide), rfl⟩
  obtain ⟨cs, hcs⟩ : ∃ cs, byL 32 v = cs := ⟨_, rfl⟩
  have g0 : cs[0]? = some (.int .u8 (n0 : Int)) := by rw [← hcs, ← e0]; rfl
  have g31 : cs[31]? = some (.int .u8 (n31 : Int)) := by rw [← hcs, ← e31]; rfl
  have hl : cs.length = 32 := by rw [← hcs]; simp [byL]
  have hcs' := hcs
  unfold byA
  rw [hcs]
  have E0 := Lib.hid e0
  have E31 := Lib.hid e31
  have HC := Lib.hid hcs
  have HL := Lib.hid hl
  clear e0 e31 hcs hl
  have h1 := byL_one 32 v
  rw [hcs'] at h1
  have H1 := Lib.hid h1
  clear h1 hcs'
  go_enter Tryd.func29, Tryd.ntmps29
  go_wp2_with (first
    | (refine wpList_load_row (o := ⟨some 12, _, _, _, _, _⟩) rfl 22 _ rfl _ rfl _ _ _ _ (heap_alloc2_old _ _ _) hu rfl (by rw [hi, List.size_toArray, List.length_set, List.length_set, HL.out]) ?_)
    | (refine wpList_store_row (o := ⟨none, .store 22 _ _, _, _, _, _⟩) rfl 22 _ _ rfl _ _ rfl rfl _ _ (heap_alloc2_new _ _ _) (by rw [hi, List.size_toArray, List.length_set, List.length_set, HL.out]) (show 32 = _ by rw [List.size_toArray, List.length_set, List.length_set, HL.out]) (all_oneCell_toArray (one_set (one_set H1.out rfl) rfl)) ?_))
  (try simp only [Exit.inBlock, Exit.then])
  have hd : ((cs.set 0 (.int .u8 (bits .andNot .u8 (n0 : Int) 7))).set 31 (.int .u8 (bits .or .u8 (bits .and .u8 (n31 : Int) 127) 64))).toArray = byA 32 (clampN v) := by
    have e := clamp_arr v
    rw [← e, ← HC.out, bits_127 n31 hn31, bits_andNot7 n0 hn0]
    have x0 : ((n0 / 8 * 8 : Nat) : Int) = ((clampN v / 256 ^ 0 % 256 : Nat) : Int) := by have e := E0.out; unfold clampN; omega
    have x1 : ((n31 % 64 + 64 : Nat) : Int) = ((clampN v / 256 ^ 31 % 256 : Nat) : Int) := by have e := E31.out; unfold clampN; omega
    rw [x0, x1, ← List.setIfInBounds_toArray, ← List.setIfInBounds_toArray]
    rfl
  rw [hd]
  have hz' := byA_size 32 (clampN v)
  refine bodyPost_ret (results_cell_row rfl _ _ _ _ _ _ _ rfl (setRow_heap _ _ _ _ _ _ (heap_alloc2_new _ _ _)) hu rfl (by rw [hi, hz'])) rfl ?_
  exact ⟨rfl, (below2 w _ _).trans ((only_setRow _ _ _).below (by simp) (by simp; omega))⟩
end Go.Proofs.YteehdjkmjncehaaDoor
