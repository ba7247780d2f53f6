/-
  impl.Double: a point's double.
-/
import Derived.Test.YteehdjkmjncehaaDbl
namespace Go.Proofs.Yteehdjkmjncehaa
open Go.RowKit
set_option maxRecDepth 100000 in
set_option maxHeartbeats 1600000 in
theorem implDouble (x z : Nat) (hx : x < 2 ^ 256) (hz : z < 2 ^ 256) : Pure Try.prog 41 #[byV 32 x, byV 32 z] (.tuple #[byV 32 (st1 x z), byV 32 (st2 x z)]) := by
  intro w
  unfold byV
  have hu := Try.underlying22
  have hu2 := Try.underlying59
  have hi2' : ∀ f, (Try.prog.info? 59).map (·.size) = some (byL 32 f).length := by intro f; rw [byL_length]; kernel_rfl
  have hi' : ∀ f, (Try.prog.info? 22).map (·.size) = some (byA 32 f).size := by intro f; rw [byA_size]; kernel_rfl
  have hi2 : ∀ f, (Try.prog.info? 59).map (·.size) = some (byA 32 f).size := by intro f; rw [byA_size]; kernel_rfl
  have Hz := fun w => Lib.hid (zzDouble x z hx hz w)
  have HA := Lib.hid (new4_2 w (.cells (byA 32 x) 22) (.cells (byA 32 z) 22) (.cells (bfA 32 (fun _ => 0)) 22) (.cells (bfA 32 (fun _ => 0)) 22))
  have HB := Lib.hid (new4_3 w (.cells (byA 32 x) 22) (.cells (byA 32 z) 22) (.cells (bfA 32 (fun _ => 0)) 22) (.cells (bfA 32 (fun _ => 0)) 22))
  go_enter Try.func41, Try.ntmps41
  go_wp2_with (first
    | (refine wpList_load_row (o := ⟨some 9, _, _, _, _, _⟩) rfl 22 _ rfl _ rfl _ _ _ _ (new4_0 w _ _ _ _) hu rfl (hi' _) ?_)
    | (refine wpList_load_row (o := ⟨some 10, _, _, _, _, _⟩) rfl 22 _ rfl _ rfl _ _ _ _ (new4_1 w _ _ _ _) hu rfl (hi' _) ?_)
    | (go_at_call 60; refine (Hz _).out.mono ?_; rintro e w1 ⟨r, r2, hr, hr2, hR, hR2, rfl, hb1⟩; have HB1 := Lib.hid hb1; have HR := Lib.hid hR; have HR2 := Lib.hid hR2; clear hb1 hR hR2)
    | (refine wpList_store_row (o := ⟨none, .store 59 (.tmp 6) (.tmp 12), _, _, _, _⟩) rfl 59 _ _ rfl w1.heap.size (byA 32 r) rfl rfl 59 (bfA 32 (fun _ => 0)) (heap_alloc2_old w1 _ _) (hi2 _) rfl (all_oneCell_toArray (byL_one _ _)) ?_)
    | (refine wpList_store_row (o := ⟨none, .store 59 (.tmp 7) (.tmp 13), _, _, _, _⟩) rfl 59 _ _ rfl (w1.heap.size + 1) (byA 32 r2) rfl rfl 59 (bfA 32 (fun _ => 0)) (by rw [setRow_other _ _ _ _ (by omega)]; exact heap_alloc2_new w1 _ _) (hi2 _) rfl (all_oneCell_toArray (byL_one _ _)) ?_))
  have hs1 : w.heap.size + 4 ≤ w1.heap.size := by have := HB1.out.size; simpa using this
  generalize hw2 : World.setRow (World.setRow _ _ _) _ _ = w2
  have hBB : Below w1.heap.size w1 w2 := by
    subst hw2
    exact ((below2 w1 _ _).trans ((only_setRow _ _ _).below (by omega) (by simp; omega))).trans ((only_setRow _ _ _).below (by omega) (by simp; omega))
  have hx1 : w2.rangeAt w1.heap.size 0 (byL 32 r) := by
    subst hw2; refine ByAt.range (n := 32) (T := 59) (f := byt r) ?_
    unfold ByAt
    rw [setRow_other _ _ _ _ (by omega)]; exact setRow_heap _ _ _ _ _ _ (heap_alloc2_old w1 _ _)
  have hz1 : w2.rangeAt (w1.heap.size + 1) 0 (byL 32 r2) := by
    subst hw2; refine ByAt.range (n := 32) (T := 59) (f := byt r2) ?_
    exact setRow_heap _ _ (bfA 32 (fun _ => 0)) _ _ _ (by rw [setRow_other _ _ _ _ (by omega)]; exact heap_alloc2_new w1 _ _)
  have hsz : w1.heap.size + 1 < w2.heap.size := by subst hw2; simp
  have hA1 : w2.heap[w.heap.size + 1 + 1]? = some (.cells (bfA 32 (fun _ => 0)) 22 (0, 0)) := (hBB.block _ (by omega)).trans ((HB1.out.block _ (by simp)).trans HA.out)
  have hB1 : w2.heap[w.heap.size + 1 + 1 + 1]? = some (.cells (bfA 32 (fun _ => 0)) 22 (0, 0)) := (hBB.block _ (by omega)).trans ((HB1.out.block _ (by simp)).trans HB.out)
  have hL1 : Below w.heap.size w w2 := ((below4 w _ _ _ _).trans (HB1.out.mono (by simp; omega))).trans (hBB.mono (by omega))
  clear hw2 hBB HB1 HA HB Hz
  generalize hn : w.heap.size = n at *
  have HN := Lib.hid hn
  clear hn
  refine wp_region_puts 4 (fun b => b == n + 1 + 1 || b == n + 1 + 1 + 1) (fun b => if b = n + 1 + 1 then some (.cells (bfA 32 (fun _ => 0)) 22 (0, 0)) else if b = n + 1 + 1 + 1 then some (.cells (bfA 32 (fun _ => 0)) 22 (0, 0)) else none) (by kernel_rfl) (by kernel_rfl) (fun b o h => by
      split at h
      · next e => subst e; cases h; exact hA1
      · split at h
        · next e => subst e; cases h; exact hB1
        · cases h) ?_
  simp only [List.take, List.drop]
  refine wpVL_load (by rfl) _ _ rfl _ _ rfl _ _ (fun w hw => hw.range hx1 (by omega) (by simp; omega)) hu2 rfl (hi2' _) ?_
  simp only [Act.put, List.setIfInBounds_toArray, List.set_cons_zero, List.set_cons_succ]
  refine wpVL_call (by rfl) (fun w => by go_simp) (reduced46 r hr) ?_
  simp only [Act.put, List.setIfInBounds_toArray, List.set_cons_zero, List.set_cons_succ]
  refine wpVL_load (by rfl) _ _ rfl _ _ rfl _ _ (fun w hw => hw.range hz1 (by omega) (by simp; omega)) hu2 rfl (hi2' _) ?_
  simp only [Act.put, List.setIfInBounds_toArray, List.set_cons_zero, List.set_cons_succ]
  refine wpVL_call (by rfl) (fun w => by go_simp) (reduced46 r2 hr2) ?_
  simp only [Act.put, List.setIfInBounds_toArray, List.set_cons_zero, List.set_cons_succ]
  refine wpVL_nil ?_
  refine wpPL_row (by rfl) rfl _ _ _ rfl (n + 1 + 1) _ rfl rfl (t := 22) (old := bfA 32 (fun _ => 0)) (by simp) (fun h => by simp) (hi' (r % p25)) (by rw [bfA_size, byA_size]) (all_oneCell_toArray (byL_one 32 _)) ?_
  refine wpPL_row (by rfl) rfl _ _ _ rfl (n + 1 + 1 + 1) _ rfl rfl (t := 22) (old := bfA 32 (fun _ => 0)) (by simp [updC]) (fun h => by simp) (hi' (r2 % p25)) (by rw [bfA_size, byA_size]) (all_oneCell_toArray (byL_one 32 _)) ?_
  intro w3 hw3
  have g1 : w3.heap[n + 1 + 1]? = some (.cells (byA 32 (r % p25)) 22 (0, 0)) := hw3.held _ _ (by simp [updC])
  have g2 : w3.heap[n + 1 + 1 + 1]? = some (.cells (byA 32 (r2 % p25)) 22 (0, 0)) := hw3.held _ _ (by simp [updC])
  have HL3 := Lib.hid (hL1.trans (hw3.since.below (B := n) (by omega) (fun k hk => by simp; omega)))
  clear hw3
  simp only [Exit.then]
  go_wp2_with fail
  (try simp only [Exit.inBlock, Exit.then])
  refine bodyPost_ret (results_cell2_row rfl _ _ _ _ _ _ _ _ _ _ _ rfl rfl g1 g2 hu rfl (hi' _) (hi' _)) rfl ?_
  exact ⟨by rw [HR.out, HR2.out], by rw [HN.out]; exact HL3.out⟩
end Go.Proofs.Yteehdjkmjncehaa
