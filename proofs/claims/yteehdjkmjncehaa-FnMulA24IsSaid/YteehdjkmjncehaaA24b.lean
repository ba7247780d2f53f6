/-
  mulA24, ZZMulA24, impl.MulA24: an element times 121666.
-/
import Derived.Test.YteehdjkmjncehaaA24
import Derived.Test.YteehdjkmjncehaaImplG
namespace Go.Proofs.Yteehdjkmjncehaa
open Go.RowKit
/-- A function that tells some element of which R holds. -/
def SomeEl (R : Nat → Prop) (w : World) (e : Ending) (w' : World) : Prop := ∃ r, r < 2 ^ 256 ∧ R r ∧ e = .returned (byV 32 r) ∧ Below w.heap.size w w'
theorem mulA24_any {bz oz Tz iz bx ox x : Nat} {zs : List Nat} {w : World} (hz0 : Blk w bz Tz zs) (hlz : 4 * iz + 3 < zs.length) (hoz : oz = 32 * iz) (hx0 : ElAt w bx ox x) (hx : x < 2 ^ 256) :
    Calls Try.prog 75 #[.pointer (some ⟨bz, oz, none⟩), .pointer (some ⟨bx, ox, none⟩)] w (ElR bz Tz iz zs (fun r => r % p25 = (x * 121666) % p25) w) := by
  have H := Lib.hid (mulA24Generic_any hz0 hlz hoz hx0 hx)
  clear hoz hz0 hlz hx0 hx
  go_enter Try.func75, Try.ntmps75
  go_wp2_with fail
  refine H.out.mono ?_
  rintro e w' ⟨r, hr, hR, rfl, hB, hO⟩
  have hR := Lib.hid hR
  go_wp2_with fail
  go_end0
  exact ⟨r, hr, hR.out, rfl, hB, hO⟩
set_option maxRecDepth 100000 in
set_option maxHeartbeats 1600000 in
theorem zzMulA24 (x : Nat) (hx : x < 2 ^ 256) (w : World) : Calls Try.prog 54 #[byV 32 x] w (SomeEl (fun r => r % p25 = (x * 121666) % p25) w) := by
  unfold byV
  have hu2 := Try.underlying59
  have hi2 : ∀ f, (Try.prog.info? 59).map (·.size) = some (byA 32 f).size := by intro f; rw [byA_size]; kernel_rfl
  have hZ : Blk ((w.alloc (.cells (byA 32 x) 59)).alloc (.cells (bfA 32 (fun _ => 0)) 59)) (w.heap.size + 1) 59 (elL 0) := blk_zero (heap_alloc2_new w _ _)
  have hX : Blk ((w.alloc (.cells (byA 32 x) 59)).alloc (.cells (bfA 32 (fun _ => 0)) 59)) w.heap.size 59 (elL x) := blk_el (heap_alloc2_old w _ _)
  have H := Lib.hid (mulA24_any (iz := 0) hZ (by simp [elL]) rfl hX.el hx)
  have HL := Lib.hid (below2 w (.cells (byA 32 x) 59) (.cells (bfA 32 (fun _ => 0)) 59))
  have hs : ((w.alloc (.cells (byA 32 x) 59)).alloc (.cells (bfA 32 (fun _ => 0)) 59)).heap.size = w.heap.size + 2 := by simp
  have HS := Lib.hid hs
  clear hZ hX hs
  go_enter Try.func54, Try.ntmps54
  go_wp2_with fail
  refine H.out.mono ?_
  rintro e w' ⟨r, hr, hR, rfl, hB, hO⟩
  have HR := Lib.hid hR
  have HX := Lib.hid (Blk.row (show Blk w' (w.heap.size + 1) 59 (elL r) from hB))
  have HL1 := Lib.hid (HL.out.trans (hO.below (B := w.heap.size) (by omega) (by rw [HS.out]; omega)))
  clear hR hB hO
  go_wp2_with fail
  (try simp only [Exit.inBlock, Exit.then])
  refine bodyPost_ret (results_cell_row rfl _ _ _ _ _ _ _ rfl HX.out hu2 rfl (hi2 _)) rfl ?_
  exact ⟨r, hr, HR.out, rfl, HL1.out⟩
set_option maxRecDepth 100000 in
set_option maxHeartbeats 1600000 in
theorem implMulA24 (x : Nat) (hx : x < 2 ^ 256) : Pure Try.prog 33 #[byV 32 x] (byV 32 (x * 121666 % p25)) := by
  intro w
  unfold byV
  have hu := Try.underlying22
  have hi' : ∀ f, (Try.prog.info? 22).map (·.size) = some (byA 32 f).size := by intro f; rw [byA_size]; kernel_rfl
  have Hz := fun w => Lib.hid (zzMulA24 x hx w)
  have HR := Lib.hid (heap_alloc2_new w (.cells (byA 32 x) 22) (.cells (bfA 32 (fun _ => 0)) 22))
  have Hred := fun r hr => Lib.hid (reduced46 r hr)
  go_enter Try.func33, Try.ntmps33
  go_wp2_with (first
    | (refine wpList_load_row (o := ⟨some 3, _, _, _, _, _⟩) rfl 22 _ rfl _ rfl _ _ _ _ (heap_alloc2_old w _ _) hu rfl (hi' _) ?_)
    | (go_at_call 54; refine (Hz _).out.mono ?_; rintro e w3 ⟨r, hr, hrR, rfl, hb3⟩; have HB3 := Lib.hid hb3; have HRR := Lib.hid hrR; clear hb3 hrR)
    | (go_at_call 46; refine ((Hred r hr).out _).mono ?_; rintro e w4 ⟨rfl, hb4⟩; have HB4 := Lib.hid (HB3.out.trans (hb4.mono HB3.out.size)); clear hb4)
    | (refine wpList_store_row (o := ⟨none, .store 22 _ _, _, _, _, _⟩) rfl 22 _ _ rfl (w.heap.size + 1) _ rfl rfl _ _ ((HB4.out.block _ (by simp)).trans HR.out) (hi' _) (by rw [bfA_size, byA_size]) (all_oneCell_toArray (byL_one _ _)) ?_))
  (try simp only [Exit.inBlock, Exit.then])
  have hR2 := (HB4.out.block _ (by simp)).trans HR.out
  refine bodyPost_ret (results_cell_row rfl _ _ _ _ _ _ _ rfl (setRow_heap _ _ _ _ _ _ hR2) hu rfl (hi' _)) rfl ?_
  exact ⟨by rw [HRR.out], ((below2 w _ _).trans (HB4.out.mono (by simp; omega))).trans ((only_setRow _ _ _).below (by omega) (by have := (Array.getElem?_eq_some_iff.1 hR2).1; omega))⟩
end Go.Proofs.Yteehdjkmjncehaa
