/-
  impl.Cmov and impl.Cswap where the number is 0 or 1.
-/
import Derived.Test.YteehdjkmjncehaaMov
import Derived.Test.YteehdjkmjncehaaAddSub3
namespace Go.Proofs.Yteehdjkmjncehaa
open Go.RowKit
theorem cmov_any {bz oz Tz iz x bY oy y n : Nat} {zs : List Nat} {w : World} (hz0 : Blk w bz Tz zs) (hlz : 4 * iz + 3 < zs.length) (hoz : oz = 32 * iz) (hx0 : ElAt w bz oz x) (hy0 : ElAt w bY oy y) (hx : x < 2 ^ 256) (hy : y < 2 ^ 256) (hn : n ≤ 1) :
    Calls Try.prog 72 #[.pointer (some ⟨bz, oz, none⟩), .pointer (some ⟨bY, oy, none⟩), .int .u64 (n : Nat)] w (ElR bz Tz iz zs (fun r => r = selN n x y) w) := by
  have H := Lib.hid (cmovGeneric_any hz0 hlz hoz hx0 hy0 hx hy hn)
  clear hz0 hlz hoz hx0 hy0 hx hy hn
  go_enter Try.func72, Try.ntmps72
  go_wp2_with fail
  refine H.out.mono ?_
  rintro e w' ⟨r, hr, hR, rfl, hB, hO⟩
  have hR := Lib.hid hR
  go_wp2_with fail
  go_end0
  exact ⟨r, hr, hR.out, rfl, hB, hO⟩
theorem fpCmov_any {bz oz Tz iz x bY oy y n : Nat} {zs : List Nat} {w : World} (hz0 : Blk w bz Tz zs) (hlz : 4 * iz + 3 < zs.length) (hoz : oz = 32 * iz) (hx0 : ElAt w bz oz x) (hy0 : ElAt w bY oy y) (hx : x < 2 ^ 256) (hy : y < 2 ^ 256) (hn : n ≤ 1) :
    Calls Try.prog 50 #[.pointer (some ⟨bz, oz, none⟩), .pointer (some ⟨bY, oy, none⟩), .int .u64 (n : Nat)] w (ElR bz Tz iz zs (fun r => r = selN n x y) w) := by
  have H := Lib.hid (cmov_any hz0 hlz hoz hx0 hy0 hx hy hn)
  clear hz0 hlz hoz hx0 hy0 hx hy hn
  go_enter Try.func50, Try.ntmps50
  go_wp2_with fail
  refine H.out.mono ?_
  rintro e w' ⟨r, hr, hR, rfl, hB, hO⟩
  have hR := Lib.hid hR
  go_wp2_with fail
  go_end0
  exact ⟨r, hr, hR.out, rfl, hB, hO⟩
theorem cswap_any {bz oz Tz iz x bY oy Ty iy y n : Nat} {zs ys : List Nat} {w : World} (hz0 : Blk w bz Tz zs) (hv0 : Blk w bY Ty ys) (hlz : 4 * iz + 3 < zs.length) (hly : 4 * iy + 3 < ys.length) (hoz : oz = 32 * iz) (hoy : oy = 32 * iy) (hne : bz ≠ bY) (hx0 : ElAt w bz oz x) (hy0 : ElAt w bY oy y) (hn : n ≤ 1) :
    Calls Try.prog 71 #[.pointer (some ⟨bz, oz, none⟩), .pointer (some ⟨bY, oy, none⟩), .int .u64 (n : Nat)] w (SwR bz bY Tz Ty iz iy zs ys (selN n x y) (selN n y x) w) := by
  have H := Lib.hid (cswapGeneric_any hz0 hv0 hlz hly hoz hoy hne hx0 hy0 hn)
  clear hz0 hv0 hlz hly hoz hoy hne hx0 hy0 hn
  go_enter Try.func71, Try.ntmps71
  go_wp2_with fail
  refine H.out.mono ?_
  rintro e w' ⟨rfl, hP⟩
  have HP := Lib.hid hP
  clear hP
  go_wp2_with fail
  go_end0
  exact ⟨rfl, HP.out⟩
theorem fpCswap_any {bz oz Tz iz x bY oy Ty iy y n : Nat} {zs ys : List Nat} {w : World} (hz0 : Blk w bz Tz zs) (hv0 : Blk w bY Ty ys) (hlz : 4 * iz + 3 < zs.length) (hly : 4 * iy + 3 < ys.length) (hoz : oz = 32 * iz) (hoy : oy = 32 * iy) (hne : bz ≠ bY) (hx0 : ElAt w bz oz x) (hy0 : ElAt w bY oy y) (hn : n ≤ 1) :
    Calls Try.prog 49 #[.pointer (some ⟨bz, oz, none⟩), .pointer (some ⟨bY, oy, none⟩), .int .u64 (n : Nat)] w (SwR bz bY Tz Ty iz iy zs ys (selN n x y) (selN n y x) w) := by
  have H := Lib.hid (cswap_any hz0 hv0 hlz hly hoz hoy hne hx0 hy0 hn)
  clear hz0 hv0 hlz hly hoz hoy hne hx0 hy0 hn
  go_enter Try.func49, Try.ntmps49
  go_wp2_with fail
  refine H.out.mono ?_
  rintro e w' ⟨rfl, hP⟩
  have HP := Lib.hid hP
  clear hP
  go_wp2_with fail
  go_end0
  exact ⟨rfl, HP.out⟩
set_option maxRecDepth 100000 in
set_option maxHeartbeats 1600000 in
theorem implCmov (x y n : Nat) (hx : x < 2 ^ 256) (hy : y < 2 ^ 256) (hn : n ≤ 1) : Pure Try.prog 27 #[byV 32 x, byV 32 y, .int .u64 (n : Nat)] (byV 32 (selN n x y)) := by
  intro w
  unfold byV
  have hu := Try.underlying22
  have hu2 := Try.underlying59
  have hi : ∀ f, (Try.prog.info? 22).map (·.size) = some (byL 32 f).length := by intro f; rw [byL_length]; kernel_rfl
  have hi' : ∀ f, (Try.prog.info? 22).map (·.size) = some (byA 32 f).size := by intro f; rw [byA_size]; kernel_rfl
  have hi2 : ∀ f, (Try.prog.info? 59).map (·.size) = some (byA 32 f).size := by intro f; rw [byA_size]; kernel_rfl
  go_enter Try.func27, Try.ntmps27
  go_wp2_with fail
  obtain ⟨w0, hw0⟩ : ∃ w0, w0 = (((w.alloc (Obj.cells (byA 32 x) 22)).alloc (Obj.cells (byA 32 y) 22)).alloc (Obj.cells (bfA 32 (fun _ => 0)) 22)) := ⟨_, rfl⟩
  have hA : w0.rangeAt w.heap.size 0 (byL 32 x) := by subst hw0; exact ByAt.range (f := byt x) (new3_0 w _ _ _)
  have hB : w0.rangeAt (w.heap.size + 1) 0 (byL 32 y) := by subst hw0; exact ByAt.range (f := byt y) (new3_1 w _ _ _)
  have hR : ByAt w0 (w.heap.size + 1 + 1) 32 22 (fun _ => 0) := by subst hw0; exact new3_2 w _ _ _
  have hL : Below w.heap.size w w0 := by subst hw0; exact below3 w _ _ _
  change Code.wp _ _ _ _ (((w.alloc (Obj.cells (byA 32 x) 22)).alloc (Obj.cells (byA 32 y) 22)).alloc (Obj.cells (bfA 32 (fun _ => 0)) 22))
  rw [← hw0]
  clear hw0
  have hzl := hR.lt
  refine wp_region_new2 2 (fun _ => false) (fun _ => none) (by kernel_rfl) (by kernel_rfl) (fun _ _ h => by cases h) rfl rfl (fun d h => by cases h; simp) (newS_alloc rfl (alloc_elt _ rfl)) (newS_alloc rfl (alloc_elt _ rfl)) ?_
  simp only [List.take, List.drop]
  refine wpVL_load (by rfl) _ _ rfl _ _ rfl _ _ (fun w hw => hw.range hA (by omega) rfl) hu rfl (hi _) ?_
  simp only [Act.put, List.setIfInBounds_toArray, List.set_cons_zero, List.set_cons_succ]
  refine wpVL_load (by rfl) _ _ rfl _ _ rfl _ _ (fun w hw => hw.range hB (by omega) rfl) hu rfl (hi _) ?_
  simp only [Act.put, List.setIfInBounds_toArray, List.set_cons_zero, List.set_cons_succ]
  refine wpVL_nil ?_
  intro b1 b2 hb1 hb2 hne _ _
  simp only [List.setIfInBounds_toArray, List.set_cons_zero, List.set_cons_succ]
  refine wpPL_row (by rfl) rfl _ _ _ rfl b1 _ rfl rfl (t := 59) (old := bfA 32 (fun _ => 0)) (by simp [updC, hne]) (fun h => by omega) (hi2 x) (by rw [bfA_size, byA_size]) (all_oneCell_toArray (byL_one 32 x)) ?_
  refine wpPL_row (by rfl) rfl _ _ _ rfl b2 _ rfl rfl (t := 59) (old := bfA 32 (fun _ => 0)) (by simp [updC, Ne.symm hne]) (fun h => by omega) (hi2 y) (by rw [bfA_size, byA_size]) (all_oneCell_toArray (byL_one 32 y)) ?_
  intro w1 hw1
  have hX : w1.heap[b1]? = some (.cells (byA 32 x) 59 (0, 0)) := hw1.held b1 _ (by simp [updC, hne])
  have hY : w1.heap[b2]? = some (.cells (byA 32 y) 59 (0, 0)) := hw1.held b2 _ (by simp [updC])
  have hR1 : w1.heap[w.heap.size + 1 + 1]? = some (.cells (bfA 32 (fun _ => 0)) 22 (0, 0)) := (hw1.since.block _ (by omega) rfl).trans hR
  have hL1 := hL.trans (hw1.since.below (B := w.heap.size) (by omega) (fun _ _ => rfl))
  have hs1 : w.heap.size + 1 + 1 < w1.heap.size := (Array.getElem?_eq_some_iff.1 hR1).1
  clear hw1 hA hB hR hL
  have H := Lib.hid (fpCmov_any (iz := 0) (blk_el hX) (by simp [elL]) rfl (blk_el hX).el (blk_el hY).el hx hy hn)
  have HR := Lib.hid hR1
  have HL := Lib.hid hL1
  have HS := Lib.hid hs1
  have HB1 := Lib.hid hb1
  have HZL := Lib.hid hzl
  clear hR1 hL1 hX hY hs1 hb1 hb2 hne hzl
  simp only [Exit.then]
  go_wp2_with fail
  refine H.out.mono ?_
  rintro e w2 ⟨r, hr, hrR, rfl, hB, hO⟩
  have hX : w2.heap[b1]? = some (.cells (byA 32 r) 59 (0, 0)) := Blk.row hB
  have hR1 : w2.heap[w.heap.size + 1 + 1]? = some (.cells (bfA 32 (fun _ => 0)) 22 (0, 0)) := (hO.block _ (by have := HS.out; omega) (by have := HB1.out; have := HZL.out; omega)).trans HR.out
  have hL1 := HL.out.trans (hO.below (B := w.heap.size) (by have := HB1.out; have := HZL.out; omega) (by have := HS.out; omega))
  have HX := Lib.hid hX
  have HR1 := Lib.hid hR1
  have HL1 := Lib.hid hL1
  have HRR := Lib.hid hrR
  clear hX hR1 hL1 hB hO HR HL hrR H HS
  go_wp2_with (first
    | (refine wpList_load_row (o := ⟨some 13, _, _, _, _, _⟩) rfl 59 _ rfl _ rfl _ _ _ _ HX.out hu2 rfl (hi2 _) ?_)
    | (refine wpList_store_row (o := ⟨none, .store 22 _ _, _, _, _, _⟩) rfl 22 _ _ rfl _ _ rfl rfl _ _ HR1.out (hi' _) (by rw [bfA_size, byA_size]) (all_oneCell_toArray (byL_one _ _)) ?_))
  (try simp only [Exit.inBlock, Exit.then])
  have hsz := (Array.getElem?_eq_some_iff.1 HR1.out).1
  refine bodyPost_ret (results_cell_row rfl _ _ _ _ _ _ _ rfl (setRow_heap _ _ _ _ _ _ HR1.out) hu rfl (hi' _)) rfl ?_
  exact ⟨by rw [HRR.out], HL1.out.trans ((only_setRow _ _ _).below (by omega) (by omega))⟩
set_option maxRecDepth 100000 in
set_option maxHeartbeats 1600000 in
theorem implCswap (x y n : Nat) (hx : x < 2 ^ 256) (hy : y < 2 ^ 256) (hn : n ≤ 1) : Pure Try.prog 26 #[byV 32 x, byV 32 y, .int .u64 (n : Nat)] (.tuple #[byV 32 (selN n x y), byV 32 (selN n y x)]) := by
  intro w
  unfold byV
  have hu := Try.underlying22
  have hu2 := Try.underlying59
  have hi : ∀ f, (Try.prog.info? 22).map (·.size) = some (byL 32 f).length := by intro f; rw [byL_length]; kernel_rfl
  have hi2' : ∀ f, (Try.prog.info? 59).map (·.size) = some (byL 32 f).length := by intro f; rw [byL_length]; kernel_rfl
  have hi' : ∀ f, (Try.prog.info? 22).map (·.size) = some (byA 32 f).size := by intro f; rw [byA_size]; kernel_rfl
  have hi2 : ∀ f, (Try.prog.info? 59).map (·.size) = some (byA 32 f).size := by intro f; rw [byA_size]; kernel_rfl
  go_enter Try.func26, Try.ntmps26
  go_wp2_with fail
  obtain ⟨w0, hw0⟩ : ∃ w0, w0 = ((((w.alloc (Obj.cells (byA 32 x) 22)).alloc (Obj.cells (byA 32 y) 22)).alloc (Obj.cells (bfA 32 (fun _ => 0)) 22)).alloc (Obj.cells (bfA 32 (fun _ => 0)) 22)) := ⟨_, rfl⟩
  have hA : w0.rangeAt w.heap.size 0 (byL 32 x) := by subst hw0; exact ByAt.range (f := byt x) (new4_0 w _ _ _ _)
  have hB : w0.rangeAt (w.heap.size + 1) 0 (byL 32 y) := by subst hw0; exact ByAt.range (f := byt y) (new4_1 w _ _ _ _)
  have hR : ByAt w0 (w.heap.size + 1 + 1) 32 22 (fun _ => 0) := by subst hw0; exact new4_2 w _ _ _ _
  have hZ : ByAt w0 (w.heap.size + 1 + 1 + 1) 32 22 (fun _ => 0) := by subst hw0; exact new4_3 w _ _ _ _
  have hL : Below w.heap.size w w0 := by subst hw0; exact below4 w _ _ _ _
  change Code.wp _ _ _ _ ((((w.alloc (Obj.cells (byA 32 x) 22)).alloc (Obj.cells (byA 32 y) 22)).alloc (Obj.cells (bfA 32 (fun _ => 0)) 22)).alloc (Obj.cells (bfA 32 (fun _ => 0)) 22))
  rw [← hw0]
  clear hw0
  have hzl := hZ.lt
  refine wp_region_new2 2 (fun _ => false) (fun _ => none) (by kernel_rfl) (by kernel_rfl) (fun _ _ h => by cases h) rfl rfl (fun d h => by cases h; simp) (newS_alloc rfl (alloc_elt _ rfl)) (newS_alloc rfl (alloc_elt _ rfl)) ?_
  simp only [List.take, List.drop]
  refine wpVL_load (by rfl) _ _ rfl _ _ rfl _ _ (fun w hw => hw.range hA (by omega) rfl) hu rfl (hi _) ?_
  simp only [Act.put, List.setIfInBounds_toArray, List.set_cons_zero, List.set_cons_succ]
  refine wpVL_load (by rfl) _ _ rfl _ _ rfl _ _ (fun w hw => hw.range hB (by omega) rfl) hu rfl (hi _) ?_
  simp only [Act.put, List.setIfInBounds_toArray, List.set_cons_zero, List.set_cons_succ]
  refine wpVL_nil ?_
  intro b1 b2 hb1 hb2 hne _ _
  simp only [List.setIfInBounds_toArray, List.set_cons_zero, List.set_cons_succ]
  refine wpPL_row (by rfl) rfl _ _ _ rfl b1 _ rfl rfl (t := 59) (old := bfA 32 (fun _ => 0)) (by simp [updC, hne]) (fun h => by omega) (hi2 x) (by rw [bfA_size, byA_size]) (all_oneCell_toArray (byL_one 32 x)) ?_
  refine wpPL_row (by rfl) rfl _ _ _ rfl b2 _ rfl rfl (t := 59) (old := bfA 32 (fun _ => 0)) (by simp [updC, Ne.symm hne]) (fun h => by omega) (hi2 y) (by rw [bfA_size, byA_size]) (all_oneCell_toArray (byL_one 32 y)) ?_
  intro w1 hw1
  have hX : w1.heap[b1]? = some (.cells (byA 32 x) 59 (0, 0)) := hw1.held b1 _ (by simp [updC, hne])
  have hY : w1.heap[b2]? = some (.cells (byA 32 y) 59 (0, 0)) := hw1.held b2 _ (by simp [updC])
  have hZ1 : w1.heap[w.heap.size + 1 + 1 + 1]? = some (.cells (bfA 32 (fun _ => 0)) 22 (0, 0)) := (hw1.since.block _ (by omega) rfl).trans hZ
  have hR1 : w1.heap[w.heap.size + 1 + 1]? = some (.cells (bfA 32 (fun _ => 0)) 22 (0, 0)) := (hw1.since.block _ (by omega) rfl).trans hR
  have hL1 := hL.trans (hw1.since.below (B := w.heap.size) (by omega) (fun _ _ => rfl))
  have hs1 : w.heap.size + 1 + 1 + 1 < w1.heap.size := (Array.getElem?_eq_some_iff.1 hZ1).1
  clear hw1 hA hB hR hZ hL
  have H := Lib.hid (fpCswap_any (iz := 0) (iy := 0) (blk_el hX) (blk_el hY) (by simp [elL]) (by simp [elL]) rfl rfl hne (blk_el hX).el (blk_el hY).el hn)
  have HR := Lib.hid hR1
  have HZ := Lib.hid hZ1
  have HL := Lib.hid hL1
  have HS := Lib.hid hs1
  have HB1 := Lib.hid hb1
  have HB2 := Lib.hid hb2
  have HNE := Lib.hid hne
  have HZL := Lib.hid hzl
  clear hR1 hL1 hZ1 hX hY hs1 hb1 hb2 hne hzl
  simp only [Exit.then]
  go_wp2_with fail
  refine H.out.mono ?_
  rintro e w2 ⟨rfl, hBx, hBy, hO⟩
  have hr : selN n x y < 2 ^ 256 := selN_lt hx hy
  have hr2 : selN n y x < 2 ^ 256 := selN_lt hy hx
  generalize hrE : selN n x y = r at hr hBx
  generalize hrE2 : selN n y x = r2 at hr2 hBy
  have HRE := Lib.hid hrE
  have HRE2 := Lib.hid hrE2
  clear hrE hrE2
  have hX : w2.heap[b1]? = some (.cells (byA 32 r) 59 (0, 0)) := Blk.row hBx
  have hY : w2.heap[b2]? = some (.cells (byA 32 r2) 59 (0, 0)) := Blk.row hBy
  have hR1 : w2.heap[w.heap.size + 1 + 1]? = some (.cells (bfA 32 (fun _ => 0)) 22 (0, 0)) := (hO.block _ (by have := HS.out; omega) (by have := HB1.out; have := HZL.out; omega) (by have := HB2.out; have := HZL.out; omega)).trans HR.out
  have hZ1 : w2.heap[w.heap.size + 1 + 1 + 1]? = some (.cells (bfA 32 (fun _ => 0)) 22 (0, 0)) := (hO.block _ (by have := HS.out; omega) (by have := HB1.out; have := HZL.out; omega) (by have := HB2.out; have := HZL.out; omega)).trans HZ.out
  have hL1 := HL.out.trans (hO.below (B := w.heap.size) (by have := HB1.out; have := HZL.out; omega) (by have := HB2.out; have := HZL.out; omega) (by have := HS.out; omega))
  have hA : w2.rangeAt b1 0 (byL 32 r) := ByAt.range (f := byt r) hX
  have hB : w2.rangeAt b2 0 (byL 32 r2) := ByAt.range (f := byt r2) hY
  have hl1 := (Array.getElem?_eq_some_iff.1 hX).1
  have hl2 := (Array.getElem?_eq_some_iff.1 hY).1
  have hd1 : b1 ≠ w.heap.size + 1 + 1 ∧ b1 ≠ w.heap.size + 1 + 1 + 1 := by have := HB1.out; have := HZL.out; omega
  have hd2 : b2 ≠ w.heap.size + 1 + 1 ∧ b2 ≠ w.heap.size + 1 + 1 + 1 := by have := HB2.out; have := HZL.out; omega
  clear hO hBx hBy H HR HZ HL HS
  generalize hnn : w.heap.size = N at *
  have HN := Lib.hid hnn
  clear hnn
  have HXX := Lib.hid hX
  have HYY := Lib.hid hY
  have HRr := Lib.hid hR1
  have HZz := Lib.hid hZ1
  clear hX hY hR1 hZ1
  go_wp2_with fail
  have hR1 := HRr.out
  have hZ1 := HZz.out
  refine wp_region_puts 2 (fun b => b == N + 1 + 1 || b == N + 1 + 1 + 1) (fun b => if b = N + 1 + 1 then some (.cells (bfA 32 (fun _ => 0)) 22 (0, 0)) else if b = N + 1 + 1 + 1 then some (.cells (bfA 32 (fun _ => 0)) 22 (0, 0)) else none) (by kernel_rfl) (by kernel_rfl) (fun b o h => by
      split at h
      · next e => subst e; cases h; exact hR1
      · split at h
        · next e => subst e; cases h; exact hZ1
        · cases h) ?_
  simp only [List.take, List.drop]
  refine wpVL_load (by rfl) _ _ rfl _ _ rfl _ _ (fun w hw => hw.range hA hl1 (by simp [hd1.1, hd1.2])) hu2 rfl (hi2' _) ?_
  simp only [Act.put, List.setIfInBounds_toArray, List.set_cons_zero, List.set_cons_succ]
  refine wpVL_load (by rfl) _ _ rfl _ _ rfl _ _ (fun w hw => hw.range hB hl2 (by simp [hd2.1, hd2.2])) hu2 rfl (hi2' _) ?_
  simp only [Act.put, List.setIfInBounds_toArray, List.set_cons_zero, List.set_cons_succ]
  refine wpVL_nil ?_
  refine wpPL_row (by rfl) rfl _ _ _ rfl (N + 1 + 1) _ rfl rfl (t := 22) (old := bfA 32 (fun _ => 0)) (by simp) (fun h => by simp) (hi' r) (by rw [bfA_size, byA_size]) (all_oneCell_toArray (byL_one 32 _)) ?_
  refine wpPL_row (by rfl) rfl _ _ _ rfl (N + 1 + 1 + 1) _ rfl rfl (t := 22) (old := bfA 32 (fun _ => 0)) (by simp [updC]) (fun h => by simp) (hi' r2) (by rw [bfA_size, byA_size]) (all_oneCell_toArray (byL_one 32 _)) ?_
  intro w3 hw3
  have g1 : w3.heap[N + 1 + 1]? = some (.cells (byA 32 r) 22 (0, 0)) := hw3.held _ _ (by simp [updC])
  have g2 : w3.heap[N + 1 + 1 + 1]? = some (.cells (byA 32 r2) 22 (0, 0)) := hw3.held _ _ (by simp [updC])
  have hLz : N ≤ w2.heap.size := by have := (Array.getElem?_eq_some_iff.1 hR1).1; omega
  have HL3 := Lib.hid (hL1.trans (hw3.since.below (B := N) hLz (fun k hk => by simp; omega)))
  clear hw3
  simp only [Exit.then]
  go_wp2_with fail
  (try simp only [Exit.inBlock, Exit.then])
  refine bodyPost_ret (results_cell2_row rfl _ _ _ _ _ _ _ _ _ _ _ rfl rfl g1 g2 hu rfl (hi' _) (hi' _)) rfl ?_
  exact ⟨by rw [HRE.out, HRE2.out], by rw [HN.out]; exact HL3.out⟩
end Go.Proofs.Yteehdjkmjncehaa
