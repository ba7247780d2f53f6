/-
  impl.Inv (written by finvlaw.py).
-/
import Derived.Test.YteehdjkmjncehaaInv
namespace Go.Proofs.Yteehdjkmjncehaa
open Go.RowKit
theorem nd_ne {D : Nat → Bool} {w0 w : World} {η : List (Nat × Obj)} (hw : Hold D w0 η w) {i j b c : Nat} {ob oc : Obj} (hi : η[i]? = some (b, ob)) (hj : η[j]? = some (c, oc)) (hn : i ≠ j) : b ≠ c := fun e => by
  have n := List.pairwise_iff_getElem.1 hw.nd
  obtain ⟨li, gi⟩ := List.getElem?_eq_some_iff.1 hi
  obtain ⟨lj, gj⟩ := List.getElem?_eq_some_iff.1 hj
  rcases Nat.lt_or_gt_of_ne hn with h | h
  · exact n i j (by simpa using li) (by simpa using lj) h (by simp [gi, gj, e])
  · exact n j i (by simpa using lj) (by simpa using li) h (by simp [gi, gj, e])
theorem fpInvH (i j : Nat) {D : Nat → Bool} {w0 : World} {η : List (Nat × Obj)} {bz bx Tz Tx z x : Nat} (hi : η[i]? = some (bz, .cells (byA 32 z) Tz (0, 0))) (hj : η[j]? = some (bx, .cells (byA 32 x) Tx (0, 0))) (hD : w0.heap.size ≤ bz ∨ D bz = true) (hn : i ≠ j) (lx : x < 2 ^ 256) :
    ∀ w, Hold D w0 η w → Calls Try.prog 59 #[.pointer (some ⟨bz, 0, none⟩), .pointer (some ⟨bx, 0, none⟩)] w fun e w' => ∃ r, (r < 2 ^ 256 ∧ PowIs x r 57896044618658097711785492504343953926634992332820282019728792003956564819947) ∧ e = .returned (.tuple #[]) ∧ Hold D w0 (η.set i (bz, .cells (byA 32 r) Tz (0, 0))) w' := fun _ hw =>
  (fpInv_any (hw.at hi) (hw.at hj) (nd_ne hw hi hj hn) lx).mono fun _ _ ⟨r, hr, he, hh⟩ => ⟨r, hr, he, hw.lift1 hi hD hh (hh.at (i := 0) rfl)⟩
theorem invN_eq {x r : Nat} (h : PowIs x r 57896044618658097711785492504343953926634992332820282019728792003956564819947) : r % p25 = invN x := by
  unfold PowIs at h
  rw [h]; unfold invN
  rw [show p25 - 2 = 57896044618658097711785492504343953926634992332820282019728792003956564819947 by decide +kernel]
theorem red_inv {x : Nat} (r : Nat) (hr : r < 2 ^ 256) (h : PowIs x r 57896044618658097711785492504343953926634992332820282019728792003956564819947) : Pure Try.prog 46 #[byV 32 r] (byV 32 (invN x)) := by
  rw [← invN_eq h]; exact reduced46 r hr
set_option maxRecDepth 100000 in
theorem implInv (x : Nat) (hx : x < 2 ^ 256) : Pure Try.prog 39 #[byV 32 x] (byV 32 (invN x)) := by
  intro w
  refine calls_H (args := [byV 32 x]) noD [] Try.func39 rfl (m := 9) rfl rfl (hold_nil _ _) ?_
  refine HC.seq ?_
  refine HC.region ?_
  refine HL.new (New.box rfl) (by decide) ?_
  intro b1 hb1
  refine HL.new (New.alloc al22) (by decide) ?_
  intro b2 hb2
  refine HL.nil ?_
  refine HQ.next ?_
  refine HC.seq ?_
  refine HC.region ?_
  refine HL.new (New.alloc al59) (by decide) ?_
  intro b3 hb3
  refine HL.nil ?_
  refine HQ.next ?_
  refine HC.seq ?_
  refine HC.region ?_
  refine HL.val (Val.load_row rfl (fun w hw => hw.at (i := 2) rfl) Try.underlying22 rfl (sz22 _)) (by decide) ?_
  refine HL.new (New.alloc al59) (by decide) ?_
  intro b4 hb4
  refine HL.put 0 rfl (Put.row rfl rfl (sz59 _) (eqsz32 _ _) (one32 _)) (.inl hb4) ?_
  simp only [List.set_cons_zero]
  refine HL.nil ?_
  refine HQ.next ?_
  refine HC.seq ?_
  refine HC.region ?_
  refine HL.call (f := 59) en59 rfl (fpInvH 1 0 rfl rfl (.inl hb3) (by decide) hx) (by decide) ?_
  rintro r1 ⟨lr1, hr1⟩
  simp only [List.set_cons_zero, List.set_cons_succ]
  refine HL.nil ?_
  refine HQ.next ?_
  refine HC.seq ?_
  refine HC.region ?_
  refine HL.val (Val.load_row rfl (fun w hw => hw.at (i := 1) rfl) Try.underlying59 rfl (sz59 _)) (by decide) ?_
  refine HL.val (Val.call en46 (red_inv r1 lr1 hr1) rfl) (by decide) ?_
  refine HL.put 2 rfl (Put.row rfl rfl (sz22 _) (eqsz32 _ _) (one32 _)) (.inl hb2) ?_
  simp only [List.set_cons_zero, List.set_cons_succ]
  refine HL.nil ?_
  refine HQ.next ?_
  refine HC.ret ?_
  exact HQ.retc 2 rfl rfl rfl Try.underlying22 rfl (sz22 _) (pure_end rfl)
end Go.Proofs.Yteehdjkmjncehaa
