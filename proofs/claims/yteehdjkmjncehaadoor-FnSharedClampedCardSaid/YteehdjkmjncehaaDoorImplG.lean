
/-
  impl.Add and its like.
-/
import Derived.Test.YteehdjkmjncehaaDoorSmul2
import Derived.Test.YteehdjkmjncehaaDoorWrap
import Derived.Test.YteehdjkmjncehaaDoorFree
import Derived.Test.YteehdjkmjncehaaDoorByt
namespace Go.Proofs.YteehdjkmjncehaaDoor
open Go.RowKit
theorem zeros_b32 : bfA 32 (fun _ => 0) = #[Value.int IntKind.u8 0, Value.int IntKind.u8 0, Value.int IntKind.u8 0, Value.int IntKind.u8 0, Value.int IntKind.u8 0, Value.int IntKind.u8 0, Value.int IntKind.u8 0, Value.int IntKind.u8 0, Value.int IntKind.u8 0, Value.int IntKind.u8 0, Value.int IntKind.u8 0, Value.int IntKind.u8 0, Value.int IntKind.u8 0, Value.int IntKind.u8 0, Value.int IntKind.u8 0, Value.int IntKind.u8 0, Value.int IntKind.u8 0, Value.int IntKind.u8 0, Value.int IntKind.u8 0, Value.int IntKind.u8 0, Value.int IntKind.u8 0, Value.int IntKind.u8 0, Value.int IntKind.u8 0, Value.int IntKind.u8 0, Value.int IntKind.u8 0, Value.int IntKind.u8 0, Value.int IntKind.u8 0, Value.int IntKind.u8 0, Value.int IntKind.u8 0, Value.int IntKind.u8 0, Value.int IntKind.u8 0, Value.int IntKind.u8 0] := rfl
theorem alloc_elt (o : Oper) (ho : o.op = .alloc 41) (a : Act) (w : World) : (execOp a.eval o).run Tryd.prog w = .ok (.value (.pointer (some ⟨w.heap.size, 0, none⟩))) (w.alloc (.cells (bfA 32 (fun _ => 0)) 41 (0, 0))) := by
  unfold execOp
  rw [ho]
  rfl
theorem p25_256 : p25 < 256 ^ 32 := by decide +kernel
set_option maxRecDepth 100000 in
set_option maxHeartbeats 1600000 in
theorem reduced46 (x : Nat) (hx : x < 2 ^ 256) : Pure Tryd.prog 42 #[byV 32 x] (byV 32 (x % p25)) := by
  intro w
  unfold byV
  have hu := Tryd.underlying22
  have hu2 := Tryd.underlying41
  have hi : ∀ f, (Tryd.prog.info? 22).map (·.size) = some (byA 32 f).size := by intro f; rw [byA_size]; kernel_rfl
  have hi2 : ∀ f, (Tryd.prog.info? 41).map (·.size) = some (byA 32 f).size := by intro f; rw [byA_size]; kernel_rfl
  have hB0 : Blk ((w.alloc (.cells (byA 32 x) 41)).alloc (.cells (bfA 32 (fun _ => 0)) 22)) w.heap.size 41 (elL x) := blk_el (heap_alloc2_old w _ _)
  have hR0 := heap_alloc2_new w (.cells (byA 32 x) 41) (.cells (bfA 32 (fun _ => 0)) 22)
  have hL0 := below2 w (.cells (byA 32 x) 41) (.cells (bfA 32 (fun _ => 0)) 22)
  have HR := Lib.hid hR0
  have HL := Lib.hid hL0
  have hs : ((w.alloc (.cells (byA 32 x) 41)).alloc (.cells (bfA 32 (fun _ => 0)) 22)).heap.size = w.heap.size + 2 := by simp
  have H := Lib.hid (fpModp_any (iz := 0) hB0 (by simp [elL]) rfl hB0.el hx)
  have HS := Lib.hid hs
  clear hR0 hL0 hB0 hs
  go_enter Tryd.func42, Tryd.ntmps42
  go_wp2_with fail
  refine H.out.mono ?_
  rintro e w' ⟨r, hr, hrR, rfl, hB, hO⟩
  have hX : w'.heap[w.heap.size]? = some (.cells (byA 32 r) 41 (0, 0)) := Blk.row hB
  have hR1 : w'.heap[w.heap.size + 1]? = some (.cells (bfA 32 (fun _ => 0)) 22 (0, 0)) := (hO.block _ (by rw [HS.out]; omega) (by omega)).trans HR.out
  have hL1 := HL.out.trans (hO.below (B := w.heap.size) (by omega) (by rw [HS.out]; omega))
  have HX := Lib.hid hX
  have HR1 := Lib.hid hR1
  have HL1 := Lib.hid hL1
  have HRR := Lib.hid hrR
  clear hX hR1 hL1 hB hO HR HL hrR H HS
  go_wp2_with (first
    | (refine wpList_load_row (o := ⟨some 4, _, _, _, _, _⟩) rfl 41 _ rfl _ rfl _ _ _ _ HX.out hu2 rfl (hi2 _) ?_)
    | (refine wpList_store_row (o := ⟨none, .store 22 _ _, _, _, _, _⟩) rfl 22 _ _ rfl _ _ rfl rfl _ _ HR1.out (hi _) (by rw [bfA_size, byA_size]) (all_oneCell_toArray (byL_one _ _)) ?_))
  (try simp only [Exit.inBlock, Exit.then])
  refine bodyPost_ret (results_cell_row rfl _ _ _ _ _ _ _ rfl (setRow_heap _ _ _ _ _ _ HR1.out) hu rfl (hi _)) rfl ?_
  exact ⟨by rw [HRR.out], HL1.out.trans ((only_setRow _ _ _).below (by omega) (by have := (Array.getElem?_eq_some_iff.1 HR1.out).1; omega))⟩
/-- A difference below the prime. -/
def subN (x y : Nat) : Nat := (x + (p25 - y % p25) % p25) % p25
theorem subN_lt (x y : Nat) : subN x y < p25 := Nat.mod_lt _ (by decide +kernel)
theorem sub_eq {r x y : Nat} (h : (r + y) % p25 = x % p25) : r % p25 = subN x y := by
  unfold subN
  have hp : 0 < p25 := by decide +kernel
  have hm := Nat.mod_lt y hp
  rw [Nat.add_mod_mod, Nat.add_mod x, ← h, ← Nat.add_mod]
  have e : r + y + (p25 - y % p25) = r + p25 * (y / p25 + 1) := by
    have := Nat.div_add_mod y p25
    rw [Nat.mul_add]; omega
  rw [e, Nat.add_mul_mod_self_left]
theorem sub32N (a b : Nat) (ha : a < 2 ^ 256) (hb : b < 2 ^ 256) : Pure Tryd.prog 53 #[nV a, nV b] (nV (subN a b)) := by
  unfold subN; exact sub32 a b ha hb
theorem is20T (a : Nat) (ha : a < 256 ^ 32) : Pure Tryd.prog 16 #[byV 32 a, nV a] (.bool true) := by
  have h := is20 a a ha ha
  rwa [decide_eq_true rfl] at h
set_option maxRecDepth 100000 in
set_option maxHeartbeats 1600000 in
theorem implAdd (x y : Nat) (hx : x < 2 ^ 256) (hy : y < 2 ^ 256) : Pure Tryd.prog 26 #[byV 32 x, byV 32 y] (byV 32 ((x + y) % p25)) := by
  intro w
  unfold byV
  have hu := Tryd.underlying22
  have hu2 := Tryd.underlying41
  have hi : ∀ f, (Tryd.prog.info? 22).map (·.size) = some (byL 32 f).length := by intro f; rw [byL_length]; kernel_rfl
  have hi' : ∀ f, (Tryd.prog.info? 22).map (·.size) = some (byA 32 f).size := by intro f; rw [byA_size]; kernel_rfl
  have hi2 : ∀ f, (Tryd.prog.info? 41).map (·.size) = some (byA 32 f).size := by intro f; rw [byA_size]; kernel_rfl
  go_enter Tryd.func26, Tryd.ntmps26
  go_wp2_with fail
  obtain ⟨w0, hw0⟩ : ∃ w0, w0 = ((((w.alloc (Obj.cells (byA 32 x) 22)).alloc (Obj.cells (byA 32 y) 22)).alloc (Obj.cells (bfA 32 (fun _ => 0)) 22)).alloc (Obj.cells (bfA 32 (fun _ => 0)) 41)) := ⟨_, rfl⟩
  have hA : w0.rangeAt w.heap.size 0 (byL 32 x) := by subst hw0; exact ByAt.range (f := byt x) (new4_0 w _ _ _ _)
  have hB : w0.rangeAt (w.heap.size + 1) 0 (byL 32 y) := by subst hw0; exact ByAt.range (f := byt y) (new4_1 w _ _ _ _)
  have hR : ByAt w0 (w.heap.size + 1 + 1) 32 22 (fun _ => 0) := by subst hw0; exact new4_2 w _ _ _ _
  have hZ : ByAt w0 (w.heap.size + 1 + 1 + 1) 32 41 (fun _ => 0) := by subst hw0; exact new4_3 w _ _ _ _
  have hL : Below w.heap.size w w0 := by subst hw0; exact below4 w _ _ _ _
  change Code.wp _ _ _ _ ((((w.alloc (Obj.cells (byA 32 x) 22)).alloc (Obj.cells (byA 32 y) 22)).alloc (Obj.cells (bfA 32 (fun _ => 0)) 22)).alloc (Obj.cells (bfA 32 (fun _ => 0)) 41))
  rw [← hw0]
  clear hw0
  have hzl := hZ.lt
  refine wp_region_new2 2 (fun _ => false) (fun _ => none) (by kernel_rfl) (by kernel_rfl) (fun _ _ h => by cases h) rfl rfl (fun d h => by cases h; simp) (newS_alloc rfl (alloc_elt _ rfl)) (newS_alloc rfl (alloc_elt _ rfl)) ?_
  simp only [List.take, List.drop]
  refine wpVL_load (by rfl) _ _ rfl _ _ rfl _ _ (fun w hw => hw.range hA (by omega) rfl) hu rfl (hi _) ?_
  simp only [Act.put, List.setIfInBounds_toArray, List.set_cons_zero, List.set_cons_succ]
  refine wpVL_load (by rfl) _ _ rfl _ _ rfl _ _ (fun w hw => hw.range hB (by omega) rfl) hu rfl (hi _) ?_
  simp only [Act.put, List.setIfInBounds_toArray, List.set_cons_zero, List.set_cons_succ]
  refine wpVL_nil ?_
  intro b1 b2 hb1 hb2 hne _ _
  simp only [List.setIfInBounds_toArray, List.set_cons_zero, List.set_cons_succ]
  refine wpPL_row (by rfl) rfl _ _ _ rfl b1 _ rfl rfl (t := 41) (old := bfA 32 (fun _ => 0)) (by simp [updC, hne]) (fun h => by omega) (hi2 x) (by rw [bfA_size, byA_size]) (all_oneCell_toArray (byL_one 32 x)) ?_
  refine wpPL_row (by rfl) rfl _ _ _ rfl b2 _ rfl rfl (t := 41) (old := bfA 32 (fun _ => 0)) (by simp [updC, Ne.symm hne]) (fun h => by omega) (hi2 y) (by rw [bfA_size, byA_size]) (all_oneCell_toArray (byL_one 32 y)) ?_
  intro w1 hw1
  have hX : w1.heap[b1]? = some (.cells (byA 32 x) 41 (0, 0)) := hw1.held b1 _ (by simp [updC, hne])
  have hY : w1.heap[b2]? = some (.cells (byA 32 y) 41 (0, 0)) := hw1.held b2 _ (by simp [updC])
  have hZ1 : w1.heap[w.heap.size + 1 + 1 + 1]? = some (.cells (bfA 32 (fun _ => 0)) 41 (0, 0)) := (hw1.since.block _ (by omega) rfl).trans hZ
  have hR1 : w1.heap[w.heap.size + 1 + 1]? = some (.cells (bfA 32 (fun _ => 0)) 22 (0, 0)) := (hw1.since.block _ (by omega) rfl).trans hR
  have hL1 := hL.trans (hw1.since.below (B := w.heap.size) (by omega) (fun _ _ => rfl))
  have hs1 : w.heap.size + 1 + 1 + 1 < w1.heap.size := (Array.getElem?_eq_some_iff.1 hZ1).1
  clear hw1 hA hB hR hZ hL
  have H := Lib.hid (fpAdd_any (iz := 0) (blk_zero hZ1) (by decide) rfl (blk_el hX).el hx (blk_el hY).el hy)
  have HR := Lib.hid hR1
  have HL := Lib.hid hL1
  have HS := Lib.hid hs1
  have HB1 := Lib.hid hb1
  clear hR1 hL1 hZ1 hX hY hs1 hb1 hb2 hne hzl
  have Hred := fun r hr => Lib.hid (reduced46 r hr)
  simp only [Exit.then]
  go_wp2_with fail
  refine H.out.mono ?_
  rintro e w2 ⟨r, hr, hrR, rfl, hB, hO⟩
  have hX : w2.heap[w.heap.size + 1 + 1 + 1]? = some (.cells (byA 32 r) 41 (0, 0)) := Blk.row hB
  have hR1 : w2.heap[w.heap.size + 1 + 1]? = some (.cells (bfA 32 (fun _ => 0)) 22 (0, 0)) := (hO.block _ (by have := HS.out; omega) (by omega)).trans HR.out
  have hL1 := HL.out.trans (hO.below (B := w.heap.size) (by omega) (by have := HS.out; omega))
  have HX := Lib.hid hX
  have HR1 := Lib.hid hR1
  have HL1 := Lib.hid hL1
  have HRR := Lib.hid hrR
  clear hX hR1 hL1 hB hO HR HL hrR H HS
  go_wp2_with (first
    | (refine wpList_load_row (o := ⟨some 11, _, _, _, _, _⟩) rfl 41 _ rfl _ rfl _ _ _ _ HX.out hu2 rfl (hi2 _) ?_)
    | (go_at_call 42; refine ((Hred r hr).out _).mono ?_; rintro e w3 ⟨rfl, hb3⟩; have HB3 := Lib.hid hb3; clear hb3)
    | (refine wpList_store_row (o := ⟨none, .store 22 _ _, _, _, _, _⟩) rfl 22 _ _ rfl _ _ rfl rfl _ _ ((HB3.out.block _ (Array.getElem?_eq_some_iff.1 HR1.out).1).trans HR1.out) (hi' _) (by rw [bfA_size, byA_size]) (all_oneCell_toArray (byL_one _ _)) ?_))
  (try simp only [Exit.inBlock, Exit.then])
  have hsz := (Array.getElem?_eq_some_iff.1 HR1.out).1
  have hR2 := (HB3.out.block _ hsz).trans HR1.out
  refine bodyPost_ret (results_cell_row rfl _ _ _ _ _ _ _ rfl (setRow_heap _ _ _ _ _ _ hR2) hu rfl (hi' _)) rfl ?_
  exact ⟨by rw [HRR.out], (HL1.out.trans (HB3.out.mono (by omega))).trans ((only_setRow _ _ _).below (by omega) (by have := (Array.getElem?_eq_some_iff.1 hR2).1; omega))⟩
set_option maxRecDepth 100000 in
set_option maxHeartbeats 1600000 in
theorem implSub (x y : Nat) (hx : x < 2 ^ 256) (hy : y < 2 ^ 256) : Pure Tryd.prog 25 #[byV 32 x, byV 32 y] (byV 32 (subN x y)) := by
  intro w
  unfold byV
  have hu := Tryd.underlying22
  have hu2 := Tryd.underlying41
  have hi : ∀ f, (Tryd.prog.info? 22).map (·.size) = some (byL 32 f).length := by intro f; rw [byL_length]; kernel_rfl
  have hi' : ∀ f, (Tryd.prog.info? 22).map (·.size) = some (byA 32 f).size := by intro f; rw [byA_size]; kernel_rfl
  have hi2 : ∀ f, (Tryd.prog.info? 41).map (·.size) = some (byA 32 f).size := by intro f; rw [byA_size]; kernel_rfl
  go_enter Tryd.func25, Tryd.ntmps25
  go_wp2_with fail
  obtain ⟨w0, hw0⟩ : ∃ w0, w0 = ((((w.alloc (Obj.cells (byA 32 x) 22)).alloc (Obj.cells (byA 32 y) 22)).alloc (Obj.cells (bfA 32 (fun _ => 0)) 22)).alloc (Obj.cells (bfA 32 (fun _ => 0)) 41)) := ⟨_, rfl⟩
  have hA : w0.rangeAt w.heap.size 0 (byL 32 x) := by subst hw0; exact ByAt.range (f := byt x) (new4_0 w _ _ _ _)
  have hB : w0.rangeAt (w.heap.size + 1) 0 (byL 32 y) := by subst hw0; exact ByAt.range (f := byt y) (new4_1 w _ _ _ _)
  have hR : ByAt w0 (w.heap.size + 1 + 1) 32 22 (fun _ => 0) := by subst hw0; exact new4_2 w _ _ _ _
  have hZ : ByAt w0 (w.heap.size + 1 + 1 + 1) 32 41 (fun _ => 0) := by subst hw0; exact new4_3 w _ _ _ _
  have hL : Below w.heap.size w w0 := by subst hw0; exact below4 w _ _ _ _
  change Code.wp _ _ _ _ ((((w.alloc (Obj.cells (byA 32 x) 22)).alloc (Obj.cells (byA 32 y) 22)).alloc (Obj.cells (bfA 32 (fun _ => 0)) 22)).alloc (Obj.cells (bfA 32 (fun _ => 0)) 41))
  rw [← hw0]
  clear hw0
  have hzl := hZ.lt
  refine wp_region_new2 2 (fun _ => false) (fun _ => none) (by kernel_rfl) (by kernel_rfl) (fun _ _ h => by cases h) rfl rfl (fun d h => by cases h; simp) (newS_alloc rfl (alloc_elt _ rfl)) (newS_alloc rfl (alloc_elt _ rfl)) ?_
  simp only [List.take, List.drop]
  refine wpVL_load (by rfl) _ _ rfl _ _ rfl _ _ (fun w hw => hw.range hA (by omega) rfl) hu rfl (hi _) ?_
  simp only [Act.put, List.setIfInBounds_toArray, List.set_cons_zero, List.set_cons_succ]
  refine wpVL_load (by rfl) _ _ rfl _ _ rfl _ _ (fun w hw => hw.range hB (by omega) rfl) hu rfl (hi _) ?_
  simp only [Act.put, List.setIfInBounds_toArray, List.set_cons_zero, List.set_cons_succ]
  refine wpVL_nil ?_
  intro b1 b2 hb1 hb2 hne _ _
  simp only [List.setIfInBounds_toArray, List.set_cons_zero, List.set_cons_succ]
  refine wpPL_row (by rfl) rfl _ _ _ rfl b1 _ rfl rfl (t := 41) (old := bfA 32 (fun _ => 0)) (by simp [updC, hne]) (fun h => by omega) (hi2 x) (by rw [bfA_size, byA_size]) (all_oneCell_toArray (byL_one 32 x)) ?_
  refine wpPL_row (by rfl) rfl _ _ _ rfl b2 _ rfl rfl (t := 41) (old := bfA 32 (fun _ => 0)) (by simp [updC, Ne.symm hne]) (fun h => by omega) (hi2 y) (by rw [bfA_size, byA_size]) (all_oneCell_toArray (byL_one 32 y)) ?_
  intro w1 hw1
  have hX : w1.heap[b1]? = some (.cells (byA 32 x) 41 (0, 0)) := hw1.held b1 _ (by simp [updC, hne])
  have hY : w1.heap[b2]? = some (.cells (byA 32 y) 41 (0, 0)) := hw1.held b2 _ (by simp [updC])
  have hZ1 : w1.heap[w.heap.size + 1 + 1 + 1]? = some (.cells (bfA 32 (fun _ => 0)) 41 (0, 0)) := (hw1.since.block _ (by omega) rfl).trans hZ
  have hR1 : w1.heap[w.heap.size + 1 + 1]? = some (.cells (bfA 32 (fun _ => 0)) 22 (0, 0)) := (hw1.since.block _ (by omega) rfl).trans hR
  have hL1 := hL.trans (hw1.since.below (B := w.heap.size) (by omega) (fun _ _ => rfl))
  have hs1 : w.heap.size + 1 + 1 + 1 < w1.heap.size := (Array.getElem?_eq_some_iff.1 hZ1).1
  clear hw1 hA hB hR hZ hL
  have H := Lib.hid (fpSub_any (iz := 0) (blk_zero hZ1) (by decide) rfl (blk_el hX).el hx (blk_el hY).el hy)
  have HR := Lib.hid hR1
  have HL := Lib.hid hL1
  have HS := Lib.hid hs1
  have HB1 := Lib.hid hb1
  clear hR1 hL1 hZ1 hX hY hs1 hb1 hb2 hne hzl
  have Hred := fun r hr => Lib.hid (reduced46 r hr)
  simp only [Exit.then]
  go_wp2_with fail
  refine H.out.mono ?_
  rintro e w2 ⟨r, hr, hrR, rfl, hB, hO⟩
  have hX : w2.heap[w.heap.size + 1 + 1 + 1]? = some (.cells (byA 32 r) 41 (0, 0)) := Blk.row hB
  have hR1 : w2.heap[w.heap.size + 1 + 1]? = some (.cells (bfA 32 (fun _ => 0)) 22 (0, 0)) := (hO.block _ (by have := HS.out; omega) (by omega)).trans HR.out
  have hL1 := HL.out.trans (hO.below (B := w.heap.size) (by omega) (by have := HS.out; omega))
  have HX := Lib.hid hX
  have HR1 := Lib.hid hR1
  have HL1 := Lib.hid hL1
  have HRR := Lib.hid hrR
  clear hX hR1 hL1 hB hO HR HL hrR H HS
  go_wp2_with (first
    | (refine wpList_load_row (o := ⟨some 11, _, _, _, _, _⟩) rfl 41 _ rfl _ rfl _ _ _ _ HX.out hu2 rfl (hi2 _) ?_)
    | (go_at_call 42; refine ((Hred r hr).out _).mono ?_; rintro e w3 ⟨rfl, hb3⟩; have HB3 := Lib.hid hb3; clear hb3)
    | (refine wpList_store_row (o := ⟨none, .store 22 _ _, _, _, _, _⟩) rfl 22 _ _ rfl _ _ rfl rfl _ _ ((HB3.out.block _ (Array.getElem?_eq_some_iff.1 HR1.out).1).trans HR1.out) (hi' _) (by rw [bfA_size, byA_size]) (all_oneCell_toArray (byL_one _ _)) ?_))
  (try simp only [Exit.inBlock, Exit.then])
  have hsz := (Array.getElem?_eq_some_iff.1 HR1.out).1
  have hR2 := (HB3.out.block _ hsz).trans HR1.out
  refine bodyPost_ret (results_cell_row rfl _ _ _ _ _ _ _ rfl (setRow_heap _ _ _ _ _ _ hR2) hu rfl (hi' _)) rfl ?_
  exact ⟨by rw [sub_eq HRR.out], (HL1.out.trans (HB3.out.mono (by omega))).trans ((only_setRow _ _ _).below (by omega) (by have := (Array.getElem?_eq_some_iff.1 hR2).1; omega))⟩
set_option maxRecDepth 100000 in
set_option maxHeartbeats 1600000 in
theorem implMul (x y : Nat) (hx : x < 2 ^ 256) (hy : y < 2 ^ 256) : Pure Tryd.prog 28 #[byV 32 x, byV 32 y] (byV 32 ((x * y) % p25)) := by
  intro w
  unfold byV
  have hu := Tryd.underlying22
  have hu2 := Tryd.underlying41
  have hi : ∀ f, (Tryd.prog.info? 22).map (·.size) = some (byL 32 f).length := by intro f; rw [byL_length]; kernel_rfl
  have hi' : ∀ f, (Tryd.prog.info? 22).map (·.size) = some (byA 32 f).size := by intro f; rw [byA_size]; kernel_rfl
  have hi2 : ∀ f, (Tryd.prog.info? 41).map (·.size) = some (byA 32 f).size := by intro f; rw [byA_size]; kernel_rfl
  go_enter Tryd.func28, Tryd.ntmps28
  go_wp2_with fail
  obtain ⟨w0, hw0⟩ : ∃ w0, w0 = ((((w.alloc (Obj.cells (byA 32 x) 22)).alloc (Obj.cells (byA 32 y) 22)).alloc (Obj.cells (bfA 32 (fun _ => 0)) 22)).alloc (Obj.cells (bfA 32 (fun _ => 0)) 41)) := ⟨_, rfl⟩
  have hA : w0.rangeAt w.heap.size 0 (byL 32 x) := by subst hw0; exact ByAt.range (f := byt x) (new4_0 w _ _ _ _)
  have hB : w0.rangeAt (w.heap.size + 1) 0 (byL 32 y) := by subst hw0; exact ByAt.range (f := byt y) (new4_1 w _ _ _ _)
  have hR : ByAt w0 (w.heap.size + 1 + 1) 32 22 (fun _ => 0) := by subst hw0; exact new4_2 w _ _ _ _
  have hZ : ByAt w0 (w.heap.size + 1 + 1 + 1) 32 41 (fun _ => 0) := by subst hw0; exact new4_3 w _ _ _ _
  have hL : Below w.heap.size w w0 := by subst hw0; exact below4 w _ _ _ _
  change Code.wp _ _ _ _ ((((w.alloc (Obj.cells (byA 32 x) 22)).alloc (Obj.cells (byA 32 y) 22)).alloc (Obj.cells (bfA 32 (fun _ => 0)) 22)).alloc (Obj.cells (bfA 32 (fun _ => 0)) 41))
  rw [← hw0]
  clear hw0
  have hzl := hZ.lt
  refine wp_region_new2 2 (fun _ => false) (fun _ => none) (by kernel_rfl) (by kernel_rfl) (fun _ _ h => by cases h) rfl rfl (fun d h => by cases h; simp) (newS_alloc rfl (alloc_elt _ rfl)) (newS_alloc rfl (alloc_elt _ rfl)) ?_
  simp only [List.take, List.drop]
  refine wpVL_load (by rfl) _ _ rfl _ _ rfl _ _ (fun w hw => hw.range hA (by omega) rfl) hu rfl (hi _) ?_
  simp only [Act.put, List.setIfInBounds_toArray, List.set_cons_zero, List.set_cons_succ]
  refine wpVL_load (by rfl) _ _ rfl _ _ rfl _ _ (fun w hw => hw.range hB (by omega) rfl) hu rfl (hi _) ?_
  simp only [Act.put, List.setIfInBounds_toArray, List.set_cons_zero, List.set_cons_succ]
  refine wpVL_nil ?_
  intro b1 b2 hb1 hb2 hne _ _
  simp only [List.setIfInBounds_toArray, List.set_cons_zero, List.set_cons_succ]
  refine wpPL_row (by rfl) rfl _ _ _ rfl b1 _ rfl rfl (t := 41) (old := bfA 32 (fun _ => 0)) (by simp [updC, hne]) (fun h => by omega) (hi2 x) (by rw [bfA_size, byA_size]) (all_oneCell_toArray (byL_one 32 x)) ?_
  refine wpPL_row (by rfl) rfl _ _ _ rfl b2 _ rfl rfl (t := 41) (old := bfA 32 (fun _ => 0)) (by simp [updC, Ne.symm hne]) (fun h => by omega) (hi2 y) (by rw [bfA_size, byA_size]) (all_oneCell_toArray (byL_one 32 y)) ?_
  intro w1 hw1
  have hX : w1.heap[b1]? = some (.cells (byA 32 x) 41 (0, 0)) := hw1.held b1 _ (by simp [updC, hne])
  have hY : w1.heap[b2]? = some (.cells (byA 32 y) 41 (0, 0)) := hw1.held b2 _ (by simp [updC])
  have hZ1 : w1.heap[w.heap.size + 1 + 1 + 1]? = some (.cells (bfA 32 (fun _ => 0)) 41 (0, 0)) := (hw1.since.block _ (by omega) rfl).trans hZ
  have hR1 : w1.heap[w.heap.size + 1 + 1]? = some (.cells (bfA 32 (fun _ => 0)) 22 (0, 0)) := (hw1.since.block _ (by omega) rfl).trans hR
  have hL1 := hL.trans (hw1.since.below (B := w.heap.size) (by omega) (fun _ _ => rfl))
  have hs1 : w.heap.size + 1 + 1 + 1 < w1.heap.size := (Array.getElem?_eq_some_iff.1 hZ1).1
  clear hw1 hA hB hR hZ hL
  have H := Lib.hid (fpMul_any (iz := 0) (blk_zero hZ1) (by decide) rfl (blk_el hX).el hx (blk_el hY).el hy)
  have HR := Lib.hid hR1
  have HL := Lib.hid hL1
  have HS := Lib.hid hs1
  have HB1 := Lib.hid hb1
  clear hR1 hL1 hZ1 hX hY hs1 hb1 hb2 hne hzl
  have Hred := fun r hr => Lib.hid (reduced46 r hr)
  simp only [Exit.then]
  go_wp2_with fail
  refine H.out.mono ?_
  rintro e w2 ⟨r, hr, hrR, rfl, hB, hO⟩
  have hX : w2.heap[w.heap.size + 1 + 1 + 1]? = some (.cells (byA 32 r) 41 (0, 0)) := Blk.row hB
  have hR1 : w2.heap[w.heap.size + 1 + 1]? = some (.cells (bfA 32 (fun _ => 0)) 22 (0, 0)) := (hO.block _ (by have := HS.out; omega) (by omega)).trans HR.out
  have hL1 := HL.out.trans (hO.below (B := w.heap.size) (by omega) (by have := HS.out; omega))
  have HX := Lib.hid hX
  have HR1 := Lib.hid hR1
  have HL1 := Lib.hid hL1
  have HRR := Lib.hid hrR
  clear hX hR1 hL1 hB hO HR HL hrR H HS
  go_wp2_with (first
    | (refine wpList_load_row (o := ⟨some 11, _, _, _, _, _⟩) rfl 41 _ rfl _ rfl _ _ _ _ HX.out hu2 rfl (hi2 _) ?_)
    | (go_at_call 42; refine ((Hred r hr).out _).mono ?_; rintro e w3 ⟨rfl, hb3⟩; have HB3 := Lib.hid hb3; clear hb3)
    | (refine wpList_store_row (o := ⟨none, .store 22 _ _, _, _, _, _⟩) rfl 22 _ _ rfl _ _ rfl rfl _ _ ((HB3.out.block _ (Array.getElem?_eq_some_iff.1 HR1.out).1).trans HR1.out) (hi' _) (by rw [bfA_size, byA_size]) (all_oneCell_toArray (byL_one _ _)) ?_))
  (try simp only [Exit.inBlock, Exit.then])
  have hsz := (Array.getElem?_eq_some_iff.1 HR1.out).1
  have hR2 := (HB3.out.block _ hsz).trans HR1.out
  refine bodyPost_ret (results_cell_row rfl _ _ _ _ _ _ _ rfl (setRow_heap _ _ _ _ _ _ hR2) hu rfl (hi' _)) rfl ?_
  exact ⟨by rw [HRR.out], (HL1.out.trans (HB3.out.mono (by omega))).trans ((only_setRow _ _ _).below (by omega) (by have := (Array.getElem?_eq_some_iff.1 hR2).1; omega))⟩
set_option maxRecDepth 100000 in
set_option maxHeartbeats 1600000 in
theorem implSqr (x : Nat) (hx : x < 2 ^ 256) : Pure Tryd.prog 27 #[byV 32 x] (byV 32 ((x * x) % p25)) := by
  intro w
  unfold byV
  have hu := Tryd.underlying22
  have hu2 := Tryd.underlying41
  have hi' : ∀ f, (Tryd.prog.info? 22).map (·.size) = some (byA 32 f).size := by intro f; rw [byA_size]; kernel_rfl
  have hi2 : ∀ f, (Tryd.prog.info? 41).map (·.size) = some (byA 32 f).size := by intro f; rw [byA_size]; kernel_rfl
  have Hred := fun r hr => Lib.hid (reduced46 r hr)
  go_enter Tryd.func27, Tryd.ntmps27
  go_wp2_with (first
    | (refine wpList_load_row (o := ⟨some 5, _, _, _, _, _⟩) rfl 22 _ rfl _ rfl _ _ _ _ (new3_0 w _ _ _) hu rfl (hi' _) ?_)
    | (refine wpList_store_row (o := ⟨none, .store 41 _ _, _, _, _, _⟩) rfl 41 _ _ rfl (w.heap.size + 1 + 1 + 1) _ rfl rfl _ _ (new4_3 w _ _ _ _) (hi2 _) rfl (all_oneCell_toArray (byL_one _ _)) ?_))
  generalize hw1 : World.setRow _ _ _ = w1
  have hX : w1.heap[w.heap.size + 1 + 1 + 1]? = some (.cells (byA 32 x) 41 (0, 0)) := by subst hw1; exact setRow_heap _ _ _ _ _ _ (new4_3 w _ _ _ _)
  have hZ1 : w1.heap[w.heap.size + 1 + 1]? = some (.cells (bfA 32 (fun _ => 0)) 41 (0, 0)) := by subst hw1; rw [setRow_other _ _ _ _ (by omega)]; exact new4_2 w _ _ _ _
  have hR1 : w1.heap[w.heap.size + 1]? = some (.cells (bfA 32 (fun _ => 0)) 22 (0, 0)) := by subst hw1; rw [setRow_other _ _ _ _ (by omega)]; exact new4_1 w _ _ _ _
  have hL1 : Below w.heap.size w w1 := by subst hw1; exact (below4 w _ _ _ _).trans ((only_setRow _ _ _).below (by omega) (by simp; omega))
  clear hw1
  have hs1 : w.heap.size + 1 + 1 + 1 < w1.heap.size := (Array.getElem?_eq_some_iff.1 hX).1
  have H := Lib.hid (fpSqr_any (iz := 0) (blk_zero hZ1) (by decide) rfl (blk_el hX).el hx)
  have HR := Lib.hid hR1
  have HL := Lib.hid hL1
  have HS := Lib.hid hs1
  clear hR1 hL1 hZ1 hX hs1
  refine H.out.mono ?_
  rintro e w2 ⟨r, hr, hrR, rfl, hB, hO⟩
  have hX : w2.heap[w.heap.size + 1 + 1]? = some (.cells (byA 32 r) 41 (0, 0)) := Blk.row hB
  have hR1 : w2.heap[w.heap.size + 1]? = some (.cells (bfA 32 (fun _ => 0)) 22 (0, 0)) := (hO.block _ (by have := HS.out; omega) (by omega)).trans HR.out
  have hL1 := HL.out.trans (hO.below (B := w.heap.size) (by omega) (by have := HS.out; omega))
  have HX := Lib.hid hX
  have HR1 := Lib.hid hR1
  have HL1 := Lib.hid hL1
  have HRR := Lib.hid hrR
  clear hX hR1 hL1 hB hO HR HL hrR H HS
  go_wp2_with (first
    | (refine wpList_load_row (o := ⟨some 7, _, _, _, _, _⟩) rfl 41 _ rfl _ rfl _ _ _ _ HX.out hu2 rfl (hi2 _) ?_)
    | (go_at_call 42; refine ((Hred r hr).out _).mono ?_; rintro e w3 ⟨rfl, hb3⟩; have HB3 := Lib.hid hb3; clear hb3)
    | (refine wpList_store_row (o := ⟨none, .store 22 _ _, _, _, _, _⟩) rfl 22 _ _ rfl _ _ rfl rfl _ _ ((HB3.out.block _ (Array.getElem?_eq_some_iff.1 HR1.out).1).trans HR1.out) (hi' _) (by rw [bfA_size, byA_size]) (all_oneCell_toArray (byL_one _ _)) ?_))
  (try simp only [Exit.inBlock, Exit.then])
  have hsz := (Array.getElem?_eq_some_iff.1 HR1.out).1
  have hR2 := (HB3.out.block _ hsz).trans HR1.out
  refine bodyPost_ret (results_cell_row rfl _ _ _ _ _ _ _ rfl (setRow_heap _ _ _ _ _ _ hR2) hu rfl (hi' _)) rfl ?_
  exact ⟨by rw [HRR.out], (HL1.out.trans (HB3.out.mono (by omega))).trans ((only_setRow _ _ _).below (by omega) (by have := (Array.getElem?_eq_some_iff.1 hR2).1; omega))⟩
end Go.Proofs.YteehdjkmjncehaaDoor
