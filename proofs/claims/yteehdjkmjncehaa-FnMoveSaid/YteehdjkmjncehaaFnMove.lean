/-
  FnMove: impl.Cmov takes y where the number is 1 and impl.Cswap exchanges x and y there, and neither turns anything where it is 0: the law answers true. No condition.
-/
import Derived.Test.YteehdjkmjncehaaMov2
import Derived.Test.YteehdjkmjncehaaLst
namespace Go.Proofs.Yteehdjkmjncehaa
open Go.ChangeShapes Go.WideShapes Go.ChangeAt Go.RowKit

theorem own1 : ownKnob Try.prog.godebug = none := by kernel_rfl
theorem laidOut1 : laidOutB Try.prog = true := by kernel_rfl

theorem implCswap0 (x y : Nat) (hx : x < 2 ^ 256) (hy : y < 2 ^ 256) : Pure Try.prog 26 #[byV 32 x, byV 32 y, .int .u64 0] (.tuple #[byV 32 x, byV 32 y]) := implCswap x y 0 hx hy (by decide)
theorem implCmov0 (x y : Nat) (hx : x < 2 ^ 256) (hy : y < 2 ^ 256) : Pure Try.prog 27 #[byV 32 x, byV 32 y, .int .u64 0] (byV 32 x) := implCmov x y 0 hx hy (by decide)
theorem implCswap1 (x y : Nat) (hx : x < 2 ^ 256) (hy : y < 2 ^ 256) : Pure Try.prog 26 #[byV 32 x, byV 32 y, .int .u64 1] (.tuple #[byV 32 y, byV 32 x]) := implCswap x y 1 hx hy (by decide)
theorem implCmov1 (x y : Nat) (hx : x < 2 ^ 256) (hy : y < 2 ^ 256) : Pure Try.prog 27 #[byV 32 x, byV 32 y, .int .u64 1] (byV 32 y) := implCmov x y 1 hx hy (by decide)
theorem alloc_by (o : Oper) (ho : o.op = .alloc 22) (a : Act) (w : World) : (execOp a.eval o).run Try.prog w = .ok (.value (.pointer (some ⟨w.heap.size, 0, none⟩))) (w.alloc (.cells (bfA 32 (fun _ => 0)) 22 (0, 0))) := by
  unfold execOp
  rw [ho]
  rfl
set_option maxRecDepth 100000 in
theorem built_0 : Try.prog.built 22 [] = some (bfA 32 (fun _ => 0)) := by rw [zeros_b32]; kernel_rfl
theorem built_z : Try.prog.built 22 [] = some (byA 32 0) := built_0
set_option maxRecDepth 100000 in
set_option maxHeartbeats 1600000 in
theorem fnMove0 (x y : Nat) (hx : x < 2 ^ 256) (hy : y < 2 ^ 256) : Pure Try.prog 6 #[byV 32 x, byV 32 y, .bool false] (.bool true) := by
  intro w
  unfold byV
  have hu := Try.underlying22
  have hi : ∀ f, (Try.prog.info? 22).map (·.size) = some (byL 32 f).length := by intro f; rw [byL_length]; kernel_rfl
  have hi' : ∀ f, (Try.prog.info? 22).map (·.size) = some (byA 32 f).size := by intro f; rw [byA_size]; kernel_rfl
  go_enter Try.func6, Try.ntmps6
  go_wp2_with fail
  obtain ⟨w0, hw0⟩ : ∃ w0, w0 = ((w.alloc (Obj.cells (byA 32 x) 22)).alloc (Obj.cells (byA 32 y) 22)) := ⟨_, rfl⟩
  have hX0 : w0.heap[w.heap.size]? = some (.cells (byA 32 x) 22 (0, 0)) := by subst hw0; exact heap_alloc2_old w _ _
  have hY0 : w0.heap[w.heap.size + 1]? = some (.cells (byA 32 y) 22 (0, 0)) := by subst hw0; exact heap_alloc2_new w _ _
  have hL : Below w.heap.size w w0 := by subst hw0; exact below2 w _ _
  have hz0 : w0.heap.size = w.heap.size + 2 := by subst hw0; simp
  rw [← hw0]
  clear hw0
  have hrx0 : w0.rangeAt w.heap.size 0 (byL 32 x) := ByAt.range (n := 32) (f := byt x) hX0
  have hry0 : w0.rangeAt (w.heap.size + 1) 0 (byL 32 y) := ByAt.range (n := 32) (f := byt y) hY0
  refine wp_region_new2 2 (fun _ => false) (fun _ => none) (by kernel_rfl) (by kernel_rfl) (fun _ _ h => by cases h) rfl rfl (fun d h => by cases h; simp) (newS_alloc rfl (alloc_by _ rfl)) (newS_alloc rfl (alloc_by _ rfl)) ?_
  simp only [List.take, List.drop]
  refine wpVL_load (by rfl) _ _ rfl _ _ rfl _ _ (fun w hw => hw.range hrx0 (by omega) rfl) hu rfl (hi _) ?_
  simp only [Act.put, List.setIfInBounds_toArray, List.set_cons_zero, List.set_cons_succ]
  refine wpVL_load (by rfl) _ _ rfl _ _ rfl _ _ (fun w hw => hw.range hry0 (by omega) rfl) hu rfl (hi _) ?_
  simp only [Act.put, List.setIfInBounds_toArray, List.set_cons_zero, List.set_cons_succ]
  refine wpVL_nil ?_
  intro b1 b2 hb1 hb2 hne _ _
  simp only [List.setIfInBounds_toArray, List.set_cons_zero, List.set_cons_succ]
  refine wpPL_row (by rfl) rfl _ _ _ rfl b1 _ rfl rfl (t := 22) (old := bfA 32 (fun _ => 0)) (by simp [updC, hne]) (fun h => by omega) (hi' x) (by rw [bfA_size, byA_size]) (all_oneCell_toArray (byL_one 32 x)) ?_
  refine wpPL_row (by rfl) rfl _ _ _ rfl b2 _ rfl rfl (t := 22) (old := bfA 32 (fun _ => 0)) (by simp [updC, Ne.symm hne]) (fun h => by omega) (hi' y) (by rw [bfA_size, byA_size]) (all_oneCell_toArray (byL_one 32 y)) ?_
  intro w1 hw1
  have hA1 : w1.heap[b1]? = some (.cells (byA 32 x) 22 (0, 0)) := hw1.held b1 _ (by simp [updC, hne])
  have hB1 : w1.heap[b2]? = some (.cells (byA 32 y) 22 (0, 0)) := hw1.held b2 _ (by simp [updC])
  have hX1 := (hw1.since.block w.heap.size (by omega) rfl).trans hX0
  have hY1 := (hw1.since.block (w.heap.size + 1) (by omega) rfl).trans hY0
  have hL1 := hL.trans (hw1.since.below (B := w.heap.size) (by omega) (fun _ _ => rfl))
  clear hw1 hX0 hY0 hL hrx0 hry0
  simp only [Exit.then]
  have HA1 := Lib.hid hA1
  have HB1 := Lib.hid hB1
  have HX1 := Lib.hid hX1
  have HY1 := Lib.hid hY1
  have HL1 := Lib.hid hL1
  have HN1 := Lib.hid hb1
  have HN2 := Lib.hid hb2
  have HNE := Lib.hid hne
  have HZ0 := Lib.hid hz0
  clear hA1 hB1 hX1 hY1 hL1 hb1 hb2 hne hz0
  go_wp2_with (first
    | (refine wpList_load_row (o := ⟨some 18, _, _, _, _, _⟩) rfl 22 _ rfl w.heap.size rfl _ (byA 32 x) _ _ HX1.out hu rfl (hi' _) ?_)
    | (refine wpList_load_row (o := ⟨some 19, _, _, _, _, _⟩) rfl 22 _ rfl (w.heap.size + 1) rfl _ (byA 32 y) _ _ HY1.out hu rfl (hi' _) ?_)
    | (go_at_call 26; refine (implCswap0 x y hx hy _).mono ?_; rintro e w3 ⟨rfl, hb3⟩; have HB3 := Lib.hid hb3; clear hb3)
    | (refine wpList_store_row (o := ⟨none, .store 22 (.tmp 10) (.tmp 22), _, _, _, _⟩) rfl 22 _ _ rfl w3.heap.size (byA 32 x) rfl rfl 22 (bfA 32 (fun _ => 0)) (heap_alloc2_old w3 _ _) (hi' _) rfl (all_oneCell_toArray (byL_one _ _)) ?_)
    | (refine wpList_store_row (o := ⟨none, .store 22 (.tmp 11) (.tmp 23), _, _, _, _⟩) rfl 22 _ _ rfl (w3.heap.size + 1) (byA 32 y) rfl rfl 22 (bfA 32 (fun _ => 0)) (by rw [setRow_other _ _ _ _ (by omega)]; exact heap_alloc2_new w3 _ _) (hi' _) rfl (all_oneCell_toArray (byL_one _ _)) ?_))
  generalize hw4 : World.setRow (World.setRow _ _ _) _ _ = w4
  have hP : w4.rangeAt w3.heap.size 0 (byL 32 x) := by
    subst hw4; refine ByAt.range (n := 32) (T := 22) (f := byt x) ?_
    unfold ByAt
    rw [setRow_other _ _ _ _ (by omega)]; exact setRow_heap _ _ _ _ _ _ (heap_alloc2_old w3 _ _)
  have hQ : w4.rangeAt (w3.heap.size + 1) 0 (byL 32 y) := by
    subst hw4; refine ByAt.range (n := 32) (T := 22) (f := byt y) ?_
    exact setRow_heap _ _ (bfA 32 (fun _ => 0)) _ _ _ (by rw [setRow_other _ _ _ _ (by omega)]; exact heap_alloc2_new w3 _ _)
  have hBB : Below w3.heap.size w3 w4 := by
    subst hw4
    exact ((below2 w3 _ _).trans ((only_setRow _ _ _).below (by omega) (by simp; omega))).trans ((only_setRow _ _ _).below (by omega) (by simp; omega))
  have hsz : w3.heap.size + 1 < w4.heap.size := by subst hw4; simp
  clear hw4
  have hs3 := HB3.out.size
  have hlA := (Array.getElem?_eq_some_iff.1 HA1.out).1
  have hrA : w4.rangeAt b1 0 (byL 32 x) := ByAt.range (n := 32) (T := 22) (f := byt x) ((hBB.block _ (by omega)).trans ((HB3.out.block _ hlA).trans HA1.out))
  have hlB := (Array.getElem?_eq_some_iff.1 HB1.out).1
  have hrB : w4.rangeAt b2 0 (byL 32 y) := ByAt.range (n := 32) (T := 22) (f := byt y) ((hBB.block _ (by omega)).trans ((HB3.out.block _ hlB).trans HB1.out))
  have hlX := (Array.getElem?_eq_some_iff.1 HX1.out).1
  have hrX : w4.rangeAt w.heap.size 0 (byL 32 x) := ByAt.range (n := 32) (T := 22) (f := byt x) ((hBB.block _ (by omega)).trans ((HB3.out.block _ hlX).trans HX1.out))
  have hlY := (Array.getElem?_eq_some_iff.1 HY1.out).1
  have hrY : w4.rangeAt (w.heap.size + 1) 0 (byL 32 y) := ByAt.range (n := 32) (T := 22) (f := byt y) ((hBB.block _ (by omega)).trans ((HB3.out.block _ hlY).trans HY1.out))
  have hLF : Below w.heap.size w w4 := (HL1.out.trans (HB3.out.mono (by omega))).trans (hBB.mono (by omega))
  refine wp_region_steady (Since w4) (by kernel_rfl) (by kernel_rfl) (Since.drew _) ?_
  refine wpSL_load (by rfl) _ _ rfl _ _ rfl _ _ (fun w hw => hw.range hrX (by omega)) hu rfl (hi _) ?_
  simp only [Act.put, List.setIfInBounds_toArray, List.set_cons_zero, List.set_cons_succ]
  refine wpSL_load (by rfl) _ _ rfl _ _ rfl _ _ (fun w hw => hw.range hrY (by omega)) hu rfl (hi _) ?_
  simp only [Act.put, List.setIfInBounds_toArray, List.set_cons_zero, List.set_cons_succ]
  refine wpSL_value (by rfl) (fun w hw => by go_simp; with_reducible rfl) ?_
  simp only [Act.put, List.setIfInBounds_toArray, List.set_cons_zero, List.set_cons_succ]
  refine wpSL_call (by rfl) (fun w => by go_simp) (Pure.since (implCmov0 x y hx hy)) ?_
  simp only [Act.put, List.setIfInBounds_toArray, List.set_cons_zero, List.set_cons_succ]
  refine wpSL_load (by rfl) _ _ rfl _ _ rfl _ _ (fun w hw => hw.range hrA (by omega)) hu rfl (hi _) ?_
  simp only [Act.put, List.setIfInBounds_toArray, List.set_cons_zero, List.set_cons_succ]
  refine wpSL_eql (by rfl) _ _ _ _ rfl _ _ rfl rfl (by kernel_rfl) (fun w => run_eql_same hu Try.underlying5 (by kernel_rfl) hx rfl w) ?_
  simp only [Act.put, List.setIfInBounds_toArray, List.set_cons_zero, List.set_cons_succ]
  refine wpSL_value (v := .bool true) (by rfl) (fun w hw => by go_simp; try with_reducible rfl) ?_
  simp only [Act.put, List.setIfInBounds_toArray, List.set_cons_zero, List.set_cons_succ]
  refine wpSL_load (by rfl) _ _ rfl _ _ rfl _ _ (fun w hw => hw.range hP (by omega)) hu rfl (hi _) ?_
  simp only [Act.put, List.setIfInBounds_toArray, List.set_cons_zero, List.set_cons_succ]
  refine wpSL_load (by rfl) _ _ rfl _ _ rfl _ _ (fun w hw => hw.range hrA (by omega)) hu rfl (hi _) ?_
  simp only [Act.put, List.setIfInBounds_toArray, List.set_cons_zero, List.set_cons_succ]
  refine wpSL_eql (by rfl) _ _ _ _ rfl _ _ rfl rfl (by kernel_rfl) (fun w => run_eql_same hu Try.underlying5 (by kernel_rfl) hx rfl w) ?_
  simp only [Act.put, List.setIfInBounds_toArray, List.set_cons_zero, List.set_cons_succ]
  refine wpSL_value (v := .bool true) (by rfl) (fun w hw => by go_simp; try with_reducible rfl) ?_
  simp only [Act.put, List.setIfInBounds_toArray, List.set_cons_zero, List.set_cons_succ]
  refine wpSL_value (v := .bool true) (by rfl) (fun w hw => by go_simp; try with_reducible rfl) ?_
  simp only [Act.put, List.setIfInBounds_toArray, List.set_cons_zero, List.set_cons_succ]
  refine wpSL_load (by rfl) _ _ rfl _ _ rfl _ _ (fun w hw => hw.range hQ (by omega)) hu rfl (hi _) ?_
  simp only [Act.put, List.setIfInBounds_toArray, List.set_cons_zero, List.set_cons_succ]
  refine wpSL_load (by rfl) _ _ rfl _ _ rfl _ _ (fun w hw => hw.range hrB (by omega)) hu rfl (hi _) ?_
  simp only [Act.put, List.setIfInBounds_toArray, List.set_cons_zero, List.set_cons_succ]
  refine wpSL_eql (by rfl) _ _ _ _ rfl _ _ rfl rfl (by kernel_rfl) (fun w => run_eql_same hu Try.underlying5 (by kernel_rfl) hy rfl w) ?_
  simp only [Act.put, List.setIfInBounds_toArray, List.set_cons_zero, List.set_cons_succ]
  refine wpSL_value (v := .bool true) (by rfl) (fun w hw => by go_simp; try with_reducible rfl) ?_
  simp only [Act.put, List.setIfInBounds_toArray, List.set_cons_zero, List.set_cons_succ]
  refine wpSL_value (v := .bool true) (by rfl) (fun w hw => by go_simp; try with_reducible rfl) ?_
  simp only [Act.put, List.setIfInBounds_toArray, List.set_cons_zero, List.set_cons_succ]
  refine wpSL_build (by rfl) _ _ rfl (byA 32 0) (by simp only [List.map_toArray, List.map_nil]; exact built_z) ?_
  simp only [Act.put, List.setIfInBounds_toArray, List.set_cons_zero, List.set_cons_succ]
  refine wpSL_call (by rfl) (fun w => by go_simp) (Pure.since one28) ?_
  simp only [Act.put, List.setIfInBounds_toArray, List.set_cons_zero, List.set_cons_succ]
  refine wpSL_call (by rfl) (fun w => by go_simp) (Pure.since (implCmov1 0 1 (by decide) (by decide))) ?_
  simp only [Act.put, List.setIfInBounds_toArray, List.set_cons_zero, List.set_cons_succ]
  refine wpSL_call (by rfl) (fun w => by go_simp) (Pure.since one28) ?_
  simp only [Act.put, List.setIfInBounds_toArray, List.set_cons_zero, List.set_cons_succ]
  refine wpSL_eql (by rfl) _ _ _ _ rfl _ _ rfl rfl (by kernel_rfl) (fun w => run_eql_same hu Try.underlying5 (by kernel_rfl) (by decide) rfl w) ?_
  simp only [Act.put, List.setIfInBounds_toArray, List.set_cons_zero, List.set_cons_succ]
  refine wpSL_value (v := .bool true) (by rfl) (fun w hw => by go_simp; try with_reducible rfl) ?_
  simp only [Act.put, List.setIfInBounds_toArray, List.set_cons_zero, List.set_cons_succ]
  refine wpSL_value (v := .bool true) (by rfl) (fun w hw => by go_simp; try with_reducible rfl) ?_
  simp only [Act.put, List.setIfInBounds_toArray, List.set_cons_zero, List.set_cons_succ]
  refine wpSL_nil ?_
  intro w5 hw5
  have HL5 := Lib.hid (hLF.trans (hw5.mono (by omega)))
  clear hw5 hLF hrA hrB hrX hrY hlA hlB hlX hlY hP hQ hBB hsz hs3
  go_wp2_with fail
  go_ret
  exact ⟨rfl, HL5.out⟩
set_option maxRecDepth 100000 in
set_option maxHeartbeats 1600000 in
theorem fnMove1 (x y : Nat) (hx : x < 2 ^ 256) (hy : y < 2 ^ 256) : Pure Try.prog 6 #[byV 32 x, byV 32 y, .bool true] (.bool true) := by
  intro w
  unfold byV
  have hu := Try.underlying22
  have hi : ∀ f, (Try.prog.info? 22).map (·.size) = some (byL 32 f).length := by intro f; rw [byL_length]; kernel_rfl
  have hi' : ∀ f, (Try.prog.info? 22).map (·.size) = some (byA 32 f).size := by intro f; rw [byA_size]; kernel_rfl
  go_enter Try.func6, Try.ntmps6
  go_wp2_with fail
  obtain ⟨w0, hw0⟩ : ∃ w0, w0 = ((w.alloc (Obj.cells (byA 32 x) 22)).alloc (Obj.cells (byA 32 y) 22)) := ⟨_, rfl⟩
  have hX0 : w0.heap[w.heap.size]? = some (.cells (byA 32 x) 22 (0, 0)) := by subst hw0; exact heap_alloc2_old w _ _
  have hY0 : w0.heap[w.heap.size + 1]? = some (.cells (byA 32 y) 22 (0, 0)) := by subst hw0; exact heap_alloc2_new w _ _
  have hL : Below w.heap.size w w0 := by subst hw0; exact below2 w _ _
  have hz0 : w0.heap.size = w.heap.size + 2 := by subst hw0; simp
  rw [← hw0]
  clear hw0
  have hrx0 : w0.rangeAt w.heap.size 0 (byL 32 x) := ByAt.range (n := 32) (f := byt x) hX0
  have hry0 : w0.rangeAt (w.heap.size + 1) 0 (byL 32 y) := ByAt.range (n := 32) (f := byt y) hY0
  refine wp_region_new2 2 (fun _ => false) (fun _ => none) (by kernel_rfl) (by kernel_rfl) (fun _ _ h => by cases h) rfl rfl (fun d h => by cases h; simp) (newS_alloc rfl (alloc_by _ rfl)) (newS_alloc rfl (alloc_by _ rfl)) ?_
  simp only [List.take, List.drop]
  refine wpVL_load (by rfl) _ _ rfl _ _ rfl _ _ (fun w hw => hw.range hrx0 (by omega) rfl) hu rfl (hi _) ?_
  simp only [Act.put, List.setIfInBounds_toArray, List.set_cons_zero, List.set_cons_succ]
  refine wpVL_load (by rfl) _ _ rfl _ _ rfl _ _ (fun w hw => hw.range hry0 (by omega) rfl) hu rfl (hi _) ?_
  simp only [Act.put, List.setIfInBounds_toArray, List.set_cons_zero, List.set_cons_succ]
  refine wpVL_nil ?_
  intro b1 b2 hb1 hb2 hne _ _
  simp only [List.setIfInBounds_toArray, List.set_cons_zero, List.set_cons_succ]
  refine wpPL_row (by rfl) rfl _ _ _ rfl b1 _ rfl rfl (t := 22) (old := bfA 32 (fun _ => 0)) (by simp [updC, hne]) (fun h => by omega) (hi' x) (by rw [bfA_size, byA_size]) (all_oneCell_toArray (byL_one 32 x)) ?_
  refine wpPL_row (by rfl) rfl _ _ _ rfl b2 _ rfl rfl (t := 22) (old := bfA 32 (fun _ => 0)) (by simp [updC, Ne.symm hne]) (fun h => by omega) (hi' y) (by rw [bfA_size, byA_size]) (all_oneCell_toArray (byL_one 32 y)) ?_
  intro w1 hw1
  have hA1 : w1.heap[b1]? = some (.cells (byA 32 x) 22 (0, 0)) := hw1.held b1 _ (by simp [updC, hne])
  have hB1 : w1.heap[b2]? = some (.cells (byA 32 y) 22 (0, 0)) := hw1.held b2 _ (by simp [updC])
  have hX1 := (hw1.since.block w.heap.size (by omega) rfl).trans hX0
  have hY1 := (hw1.since.block (w.heap.size + 1) (by omega) rfl).trans hY0
  have hL1 := hL.trans (hw1.since.below (B := w.heap.size) (by omega) (fun _ _ => rfl))
  clear hw1 hX0 hY0 hL hrx0 hry0
  simp only [Exit.then]
  have HA1 := Lib.hid hA1
  have HB1 := Lib.hid hB1
  have HX1 := Lib.hid hX1
  have HY1 := Lib.hid hY1
  have HL1 := Lib.hid hL1
  have HN1 := Lib.hid hb1
  have HN2 := Lib.hid hb2
  have HNE := Lib.hid hne
  have HZ0 := Lib.hid hz0
  clear hA1 hB1 hX1 hY1 hL1 hb1 hb2 hne hz0
  go_wp2_with fail
  have hd1 := HN1.out
  have hd2 := HN2.out
  have hdz := HZ0.out
  have hne := HNE.out
  refine wp_region_puts 2 (fun b => b == b1 || b == b2) (fun b => if b = b1 then some (.cells (byA 32 x) 22 (0, 0)) else if b = b2 then some (.cells (byA 32 y) 22 (0, 0)) else none) (by kernel_rfl) (by kernel_rfl) (fun b o h => by
      split at h
      · next e => subst e; cases h; exact HA1.out
      · split at h
        · next e => subst e; cases h; exact HB1.out
        · cases h) ?_
  simp only [List.take, List.drop]
  have hrx1 : w1.rangeAt w.heap.size 0 (byL 32 x) := ByAt.range (n := 32) (f := byt x) HX1.out
  have hry1 : w1.rangeAt (w.heap.size + 1) 0 (byL 32 y) := ByAt.range (n := 32) (f := byt y) HY1.out
  have hlx := (Array.getElem?_eq_some_iff.1 HX1.out).1
  have hly := (Array.getElem?_eq_some_iff.1 HY1.out).1
  refine wpVL_load (by rfl) _ _ rfl _ _ rfl _ _ (fun w hw => hw.range hry1 hly (by simp; omega)) hu rfl (hi _) ?_
  simp only [Act.put, List.setIfInBounds_toArray, List.set_cons_zero, List.set_cons_succ]
  refine wpVL_load (by rfl) _ _ rfl _ _ rfl _ _ (fun w hw => hw.range hrx1 hlx (by simp; omega)) hu rfl (hi _) ?_
  simp only [Act.put, List.setIfInBounds_toArray, List.set_cons_zero, List.set_cons_succ]
  refine wpVL_nil ?_
  refine wpPL_row (by rfl) rfl _ _ _ rfl b1 _ rfl rfl (t := 22) (old := byA 32 x) (by simp) (fun h => by simp) (hi' y) (by rw [byA_size, byA_size]) (all_oneCell_toArray (byL_one 32 _)) ?_
  refine wpPL_row (by rfl) rfl _ _ _ rfl b2 _ rfl rfl (t := 22) (old := byA 32 y) (by simp [updC, Ne.symm hne]) (fun h => by simp) (hi' x) (by rw [byA_size, byA_size]) (all_oneCell_toArray (byL_one 32 _)) ?_
  intro w2 hw2
  have hA2 : w2.heap[b1]? = some (.cells (byA 32 y) 22 (0, 0)) := hw2.held b1 _ (by simp [updC, hne])
  have hB2 : w2.heap[b2]? = some (.cells (byA 32 x) 22 (0, 0)) := hw2.held b2 _ (by simp [updC])
  have hX2 := (hw2.since.block w.heap.size hlx (by simp; omega)).trans HX1.out
  have hY2 := (hw2.since.block (w.heap.size + 1) hly (by simp; omega)).trans HY1.out
  have hL2 := HL1.out.trans (hw2.since.below (B := w.heap.size) (by omega) (fun k hk => by simp; omega))
  have HA2 := Lib.hid hA2
  have HB2 := Lib.hid hB2
  have HX2 := Lib.hid hX2
  have HY2 := Lib.hid hY2
  have HL2 := Lib.hid hL2
  clear hrx1 hry1 hw2 hA2 hB2 hX2 hY2 hL2 hd1 hd2 hdz hne hlx hly HA1 HB1 HX1 HY1 HL1
  simp only [Exit.then]
  go_wp2_with (first
    | (refine wpList_load_row (o := ⟨some 18, _, _, _, _, _⟩) rfl 22 _ rfl w.heap.size rfl _ (byA 32 x) _ _ HX2.out hu rfl (hi' _) ?_)
    | (refine wpList_load_row (o := ⟨some 19, _, _, _, _, _⟩) rfl 22 _ rfl (w.heap.size + 1) rfl _ (byA 32 y) _ _ HY2.out hu rfl (hi' _) ?_)
    | (go_at_call 26; refine (implCswap1 x y hx hy _).mono ?_; rintro e w3 ⟨rfl, hb3⟩; have HB3 := Lib.hid hb3; clear hb3)
    | (refine wpList_store_row (o := ⟨none, .store 22 (.tmp 10) (.tmp 22), _, _, _, _⟩) rfl 22 _ _ rfl w3.heap.size (byA 32 y) rfl rfl 22 (bfA 32 (fun _ => 0)) (heap_alloc2_old w3 _ _) (hi' _) rfl (all_oneCell_toArray (byL_one _ _)) ?_)
    | (refine wpList_store_row (o := ⟨none, .store 22 (.tmp 11) (.tmp 23), _, _, _, _⟩) rfl 22 _ _ rfl (w3.heap.size + 1) (byA 32 x) rfl rfl 22 (bfA 32 (fun _ => 0)) (by rw [setRow_other _ _ _ _ (by omega)]; exact heap_alloc2_new w3 _ _) (hi' _) rfl (all_oneCell_toArray (byL_one _ _)) ?_))
  generalize hw4 : World.setRow (World.setRow _ _ _) _ _ = w4
  have hP : w4.rangeAt w3.heap.size 0 (byL 32 y) := by
    subst hw4; refine ByAt.range (n := 32) (T := 22) (f := byt y) ?_
    unfold ByAt
    rw [setRow_other _ _ _ _ (by omega)]; exact setRow_heap _ _ _ _ _ _ (heap_alloc2_old w3 _ _)
  have hQ : w4.rangeAt (w3.heap.size + 1) 0 (byL 32 x) := by
    subst hw4; refine ByAt.range (n := 32) (T := 22) (f := byt x) ?_
    exact setRow_heap _ _ (bfA 32 (fun _ => 0)) _ _ _ (by rw [setRow_other _ _ _ _ (by omega)]; exact heap_alloc2_new w3 _ _)
  have hBB : Below w3.heap.size w3 w4 := by
    subst hw4
    exact ((below2 w3 _ _).trans ((only_setRow _ _ _).below (by omega) (by simp; omega))).trans ((only_setRow _ _ _).below (by omega) (by simp; omega))
  have hsz : w3.heap.size + 1 < w4.heap.size := by subst hw4; simp
  clear hw4
  have hs3 := HB3.out.size
  have hlA := (Array.getElem?_eq_some_iff.1 HA2.out).1
  have hrA : w4.rangeAt b1 0 (byL 32 y) := ByAt.range (n := 32) (T := 22) (f := byt y) ((hBB.block _ (by omega)).trans ((HB3.out.block _ hlA).trans HA2.out))
  have hlB := (Array.getElem?_eq_some_iff.1 HB2.out).1
  have hrB : w4.rangeAt b2 0 (byL 32 x) := ByAt.range (n := 32) (T := 22) (f := byt x) ((hBB.block _ (by omega)).trans ((HB3.out.block _ hlB).trans HB2.out))
  have hlX := (Array.getElem?_eq_some_iff.1 HX2.out).1
  have hrX : w4.rangeAt w.heap.size 0 (byL 32 x) := ByAt.range (n := 32) (T := 22) (f := byt x) ((hBB.block _ (by omega)).trans ((HB3.out.block _ hlX).trans HX2.out))
  have hlY := (Array.getElem?_eq_some_iff.1 HY2.out).1
  have hrY : w4.rangeAt (w.heap.size + 1) 0 (byL 32 y) := ByAt.range (n := 32) (T := 22) (f := byt y) ((hBB.block _ (by omega)).trans ((HB3.out.block _ hlY).trans HY2.out))
  have hLF : Below w.heap.size w w4 := (HL2.out.trans (HB3.out.mono (by omega))).trans (hBB.mono (by omega))
  refine wp_region_steady (Since w4) (by kernel_rfl) (by kernel_rfl) (Since.drew _) ?_
  refine wpSL_load (by rfl) _ _ rfl _ _ rfl _ _ (fun w hw => hw.range hrX (by omega)) hu rfl (hi _) ?_
  simp only [Act.put, List.setIfInBounds_toArray, List.set_cons_zero, List.set_cons_succ]
  refine wpSL_load (by rfl) _ _ rfl _ _ rfl _ _ (fun w hw => hw.range hrY (by omega)) hu rfl (hi _) ?_
  simp only [Act.put, List.setIfInBounds_toArray, List.set_cons_zero, List.set_cons_succ]
  refine wpSL_value (by rfl) (fun w hw => by go_simp; with_reducible rfl) ?_
  simp only [Act.put, List.setIfInBounds_toArray, List.set_cons_zero, List.set_cons_succ]
  refine wpSL_call (by rfl) (fun w => by go_simp) (Pure.since (implCmov1 x y hx hy)) ?_
  simp only [Act.put, List.setIfInBounds_toArray, List.set_cons_zero, List.set_cons_succ]
  refine wpSL_load (by rfl) _ _ rfl _ _ rfl _ _ (fun w hw => hw.range hrA (by omega)) hu rfl (hi _) ?_
  simp only [Act.put, List.setIfInBounds_toArray, List.set_cons_zero, List.set_cons_succ]
  refine wpSL_eql (by rfl) _ _ _ _ rfl _ _ rfl rfl (by kernel_rfl) (fun w => run_eql_same hu Try.underlying5 (by kernel_rfl) hy rfl w) ?_
  simp only [Act.put, List.setIfInBounds_toArray, List.set_cons_zero, List.set_cons_succ]
  refine wpSL_value (v := .bool true) (by rfl) (fun w hw => by go_simp; try with_reducible rfl) ?_
  simp only [Act.put, List.setIfInBounds_toArray, List.set_cons_zero, List.set_cons_succ]
  refine wpSL_load (by rfl) _ _ rfl _ _ rfl _ _ (fun w hw => hw.range hP (by omega)) hu rfl (hi _) ?_
  simp only [Act.put, List.setIfInBounds_toArray, List.set_cons_zero, List.set_cons_succ]
  refine wpSL_load (by rfl) _ _ rfl _ _ rfl _ _ (fun w hw => hw.range hrA (by omega)) hu rfl (hi _) ?_
  simp only [Act.put, List.setIfInBounds_toArray, List.set_cons_zero, List.set_cons_succ]
  refine wpSL_eql (by rfl) _ _ _ _ rfl _ _ rfl rfl (by kernel_rfl) (fun w => run_eql_same hu Try.underlying5 (by kernel_rfl) hy rfl w) ?_
  simp only [Act.put, List.setIfInBounds_toArray, List.set_cons_zero, List.set_cons_succ]
  refine wpSL_value (v := .bool true) (by rfl) (fun w hw => by go_simp; try with_reducible rfl) ?_
  simp only [Act.put, List.setIfInBounds_toArray, List.set_cons_zero, List.set_cons_succ]
  refine wpSL_value (v := .bool true) (by rfl) (fun w hw => by go_simp; try with_reducible rfl) ?_
  simp only [Act.put, List.setIfInBounds_toArray, List.set_cons_zero, List.set_cons_succ]
  refine wpSL_load (by rfl) _ _ rfl _ _ rfl _ _ (fun w hw => hw.range hQ (by omega)) hu rfl (hi _) ?_
  simp only [Act.put, List.setIfInBounds_toArray, List.set_cons_zero, List.set_cons_succ]
  refine wpSL_load (by rfl) _ _ rfl _ _ rfl _ _ (fun w hw => hw.range hrB (by omega)) hu rfl (hi _) ?_
  simp only [Act.put, List.setIfInBounds_toArray, List.set_cons_zero, List.set_cons_succ]
  refine wpSL_eql (by rfl) _ _ _ _ rfl _ _ rfl rfl (by kernel_rfl) (fun w => run_eql_same hu Try.underlying5 (by kernel_rfl) hx rfl w) ?_
  simp only [Act.put, List.setIfInBounds_toArray, List.set_cons_zero, List.set_cons_succ]
  refine wpSL_value (v := .bool true) (by rfl) (fun w hw => by go_simp; try with_reducible rfl) ?_
  simp only [Act.put, List.setIfInBounds_toArray, List.set_cons_zero, List.set_cons_succ]
  refine wpSL_value (v := .bool true) (by rfl) (fun w hw => by go_simp; try with_reducible rfl) ?_
  simp only [Act.put, List.setIfInBounds_toArray, List.set_cons_zero, List.set_cons_succ]
  refine wpSL_build (by rfl) _ _ rfl (byA 32 0) (by simp only [List.map_toArray, List.map_nil]; exact built_z) ?_
  simp only [Act.put, List.setIfInBounds_toArray, List.set_cons_zero, List.set_cons_succ]
  refine wpSL_call (by rfl) (fun w => by go_simp) (Pure.since one28) ?_
  simp only [Act.put, List.setIfInBounds_toArray, List.set_cons_zero, List.set_cons_succ]
  refine wpSL_call (by rfl) (fun w => by go_simp) (Pure.since (implCmov1 0 1 (by decide) (by decide))) ?_
  simp only [Act.put, List.setIfInBounds_toArray, List.set_cons_zero, List.set_cons_succ]
  refine wpSL_call (by rfl) (fun w => by go_simp) (Pure.since one28) ?_
  simp only [Act.put, List.setIfInBounds_toArray, List.set_cons_zero, List.set_cons_succ]
  refine wpSL_eql (by rfl) _ _ _ _ rfl _ _ rfl rfl (by kernel_rfl) (fun w => run_eql_same hu Try.underlying5 (by kernel_rfl) (by decide) rfl w) ?_
  simp only [Act.put, List.setIfInBounds_toArray, List.set_cons_zero, List.set_cons_succ]
  refine wpSL_value (v := .bool true) (by rfl) (fun w hw => by go_simp; try with_reducible rfl) ?_
  simp only [Act.put, List.setIfInBounds_toArray, List.set_cons_zero, List.set_cons_succ]
  refine wpSL_value (v := .bool true) (by rfl) (fun w hw => by go_simp; try with_reducible rfl) ?_
  simp only [Act.put, List.setIfInBounds_toArray, List.set_cons_zero, List.set_cons_succ]
  refine wpSL_nil ?_
  intro w5 hw5
  have HL5 := Lib.hid (hLF.trans (hw5.mono (by omega)))
  clear hw5 hLF hrA hrB hrX hrY hlA hlB hlX hlY hP hQ hBB hsz hs3
  go_wp2_with fail
  go_ret
  exact ⟨rfl, HL5.out⟩
theorem fnMove (x y : Nat) (s : Bool) (hx : x < 2 ^ 256) (hy : y < 2 ^ 256) : Pure Try.prog 6 #[byV 32 x, byV 32 y, .bool s] (.bool true) := by
  cases s
  · exact fnMove0 x y hx hy
  · exact fnMove1 x y hx hy
set_option maxRecDepth 100000 in
theorem fnMove_lifted (os : Os) (started : os.Started) (H : Type) (enc : TypeId × Value → H) :
    ReturnsInHanded {} Try.checked os 6 .any (Rows.fnMoveSpec.pre6 enc Try.prog Try.f6 Rows.fnMoveRow.domain false) (Rows.fnMoveSpec.post enc Try.prog Try.f6 false true false false) := by
  refine returnsInHanded_of_change (C := Try.checked) own1 started (by kernel_rfl) Try.func6
    (ChangeSpec.witness6 (enc := enc) (C := Try.checked) false ⟨#[], #[byV 32 0, byV 32 0, .bool true], []⟩ 8 (by kernel_rfl) (by kernel_rfl) (by kernel_rfl) (by kernel_rfl)) ?_
  intro W base args ds gs before hval0 hW hcnd _
  have hval : ∀ (j : Nat) t v, Try.f6.params[j]? = some t → args[j]? = some v → Value.okWide Try.prog W .any base t v := hval0
  have hW' := hW
  obtain ⟨p, q, hA0, hV, rfl, hfz, hnd⟩ := hW
  have hA : DataW.TrodAll enc Try.prog W 0 (fun _ => true) true Try.f6.params.toList args.toList ds p := hA0
  rw [Try.params6] at hA hval
  obtain ⟨v0, v1, v2, d0, d1, d2, p0, p1, p2, rfl, rfl, rfl, h0, h1, h2⟩ := trodAll_three hA
  obtain ⟨rfl, rfl⟩ := trodVars_none hV
  obtain ⟨x, hx, rfl, rfl⟩ := open_by Try.underlying22 Try.underlying5 (by kernel_rfl) (by kernel_rfl) (hval 0 22 v0 rfl rfl) h0
  obtain ⟨y, hy, rfl, rfl⟩ := open_by Try.underlying22 Try.underlying5 (by kernel_rfl) (by kernel_rfl) (hval 1 22 v1 rfl rfl) h1
  obtain ⟨s, rfl, rfl, rfl⟩ := open_bool Try.underlying4 (hval 2 4 v2 rfl rfl) h2
  clear hA0 hval0
  refine (fnMove x y s hx hy W).mono fun e W' ⟨he, hb⟩ => ?_
  subst he
  exact ⟨_, rfl, ⟨_, _, _, [], [], [], hW', trodAll_mk1 (shut_bool Try.underlying4 true), trodAll_mk3 (Below.trod laidOut1 (by kernel_rfl) (of_decide_eq_true (by kernel_rfl)) h0 hb (by simp)) (Below.trod laidOut1 (by kernel_rfl) (of_decide_eq_true (by kernel_rfl)) h1 hb (by simp)) (shut_bool Try.underlying4 _), rfl, hb.frame _, fun h => by cases h⟩⟩

theorem fnMove_holds : Rows.FnMoveSaid :=
  OpenClaim.holds_of_wide 6 Try.f6 rfl rfl rfl rfl rfl rfl rfl ⟨rfl, rfl, rfl, rfl, rfl⟩ rfl rfl rfl rfl rfl (by kernel_rfl) Try.func6 (by kernel_rfl)
    (of_decide_eq_true (by kernel_rfl)) (by unfold Func.isWrapper; first | (rw [if_pos (by decide +kernel)]; kernel_rfl) | (rw [if_neg (by decide +kernel)]; exact ⟨rfl, rfl⟩))
    (fun os started H enc _ => fnMove_lifted os started H enc)
#print axioms fnMove_holds
end Go.Proofs.Yteehdjkmjncehaa
