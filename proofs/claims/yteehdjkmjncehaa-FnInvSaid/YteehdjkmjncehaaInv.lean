/-
  fp25519.Inv: the power that inverts (written by finv.py).
-/
import Derived.Test.YteehdjkmjncehaaHE2
namespace Go.Proofs.Yteehdjkmjncehaa
open Go.RowKit
theorem ownZ (b : Nat) {w : World} : w.heap.size ≤ b ∨ (fun k => k == b) b = true := .inr (by simp)
theorem hold_two {w : World} {b c : Nat} {ob oc : Obj} {D : Nat → Bool} (h : w.heap[b]? = some ob) (h2 : w.heap[c]? = some oc) (hn : b ≠ c) : Hold D w [(b, ob), (c, oc)] w := ⟨Sn.refl _ _, (fun p hp => by
  rcases List.mem_cons.1 hp with rfl | hp
  · exact h
  · obtain rfl : p = (c, oc) := by simpa using hp
    exact h2), by simp [hn]⟩
set_option maxRecDepth 100000 in
set_option maxHeartbeats 1600000 in
theorem fpInv_any {bz bx Tz Tx z x : Nat} {w : World} (h0 : w.heap[bz]? = some (.cells (byA 32 z) Tz (0, 0))) (h1 : w.heap[bx]? = some (.cells (byA 32 x) Tx (0, 0))) (hn : bz ≠ bx) (lx : x < 2 ^ 256) :
    Calls Try.prog 59 #[.pointer (some ⟨bz, 0, none⟩), .pointer (some ⟨bx, 0, none⟩)] w fun e w' => ∃ r, (r < 2 ^ 256 ∧ PowIs x r 57896044618658097711785492504343953926634992332820282019728792003956564819947) ∧ e = .returned (.tuple #[]) ∧ Hold (fun k => k == bz) w [(bz, .cells (byA 32 r) Tz (0, 0))] w' := by
  refine calls_H (args := [.pointer (some ⟨bz, 0, none⟩), .pointer (some ⟨bx, 0, none⟩)]) (fun k => k == bz) [(bz, .cells (byA 32 z) Tz (0, 0)), (bx, .cells (byA 32 x) Tx (0, 0))] Try.func59 rfl (m := 148) rfl rfl (hold_two h0 h1 hn) ?_
  refine HC.seq ?_
  refine HC.region ?_
  refine HL.val (Val.build rfl bz59) (by decide) ?_
  refine HL.new (New.box rfl) (by decide) ?_
  intro b1 hb1
  refine HL.val (Val.build rfl bz59) (by decide) ?_
  refine HL.new (New.box rfl) (by decide) ?_
  intro b2 hb2
  refine HL.val (Val.build rfl bz59) (by decide) ?_
  refine HL.new (New.box rfl) (by decide) ?_
  intro b3 hb3
  refine HL.val (Val.assign rfl) (by decide) ?_
  refine HL.val (Val.assign rfl) (by decide) ?_
  refine HL.val (Val.assign rfl) (by decide) ?_
  refine HL.nil ?_
  refine HQ.next ?_
  refine HC.seq ?_
  refine HC.region ?_
  refine HL.val (Val.move rfl) (by decide) ?_
  refine HL.val (Val.move rfl) (by decide) ?_
  refine HL.call (f := 57) en57 rfl (sqrH (dst1 1 rfl (.inl hb2)) (elh1 4 rfl) lx) (by decide) ?_
  rintro r1 ⟨lr1, hr1⟩
  simp only [List.set_cons_zero, List.set_cons_succ]
  have pr1 : PowIs x r1 2 := PowIs.sqr 1 2 hr1 (PowIs.one x) (by decide)
  refine HL.nil ?_
  refine HQ.next ?_
  refine HC.seq ?_
  refine HC.region ?_
  refine HL.val (Val.move rfl) (by decide) ?_
  refine HL.val (Val.move rfl) (by decide) ?_
  refine HL.call (f := 57) en57 rfl (sqrH (dst1 2 rfl (.inl hb1)) (elh1 1 rfl) lr1) (by decide) ?_
  rintro r2 ⟨lr2, hr2⟩
  simp only [List.set_cons_zero, List.set_cons_succ]
  have pr2 : PowIs x r2 4 := PowIs.sqr 2 4 hr2 pr1 (by decide)
  refine HL.nil ?_
  refine HQ.next ?_
  refine HC.seq ?_
  refine HC.region ?_
  refine HL.val (Val.move rfl) (by decide) ?_
  refine HL.val (Val.move rfl) (by decide) ?_
  refine HL.call (f := 57) en57 rfl (sqrH (dst1 2 rfl (.inl hb1)) (elh1 2 rfl) lr2) (by decide) ?_
  rintro r3 ⟨lr3, hr3⟩
  simp only [List.set_cons_zero, List.set_cons_succ]
  have pr3 : PowIs x r3 8 := PowIs.sqr 4 8 hr3 pr2 (by decide)
  refine HL.nil ?_
  refine HQ.next ?_
  refine HC.seq ?_
  refine HC.region ?_
  refine HL.val (Val.move rfl) (by decide) ?_
  refine HL.val (Val.move rfl) (by decide) ?_
  refine HL.val (Val.move rfl) (by decide) ?_
  refine HL.call (f := 58) en58 rfl (mulH (dst1 2 rfl (.inl hb1)) (elh1 2 rfl) lr3 (elh1 4 rfl) lx) (by decide) ?_
  rintro r4 ⟨lr4, hr4⟩
  simp only [List.set_cons_zero, List.set_cons_succ]
  have pr4 : PowIs x r4 9 := PowIs.mul 8 1 9 hr4 pr3 (PowIs.one x) (by decide)
  refine HL.nil ?_
  refine HQ.next ?_
  refine HC.seq ?_
  refine HC.region ?_
  refine HL.val (Val.move rfl) (by decide) ?_
  refine HL.val (Val.move rfl) (by decide) ?_
  refine HL.val (Val.move rfl) (by decide) ?_
  refine HL.call (f := 58) en58 rfl (mulH (dst1 3 rfl (ownZ bz)) (elh1 2 rfl) lr4 (elh1 1 rfl) lr1) (by decide) ?_
  rintro r5 ⟨lr5, hr5⟩
  simp only [List.set_cons_zero, List.set_cons_succ]
  have pr5 : PowIs x r5 11 := PowIs.mul 9 2 11 hr5 pr4 pr1 (by decide)
  refine HL.nil ?_
  refine HQ.next ?_
  refine HC.seq ?_
  refine HC.region ?_
  refine HL.val (Val.move rfl) (by decide) ?_
  refine HL.val (Val.move rfl) (by decide) ?_
  refine HL.call (f := 57) en57 rfl (sqrH (dst1 1 rfl (.inl hb2)) (elh1 3 rfl) lr5) (by decide) ?_
  rintro r6 ⟨lr6, hr6⟩
  simp only [List.set_cons_zero, List.set_cons_succ]
  have pr6 : PowIs x r6 22 := PowIs.sqr 11 22 hr6 pr5 (by decide)
  refine HL.nil ?_
  refine HQ.next ?_
  refine HC.seq ?_
  refine HC.region ?_
  refine HL.val (Val.move rfl) (by decide) ?_
  refine HL.val (Val.move rfl) (by decide) ?_
  refine HL.val (Val.move rfl) (by decide) ?_
  refine HL.call (f := 58) en58 rfl (mulH (dst1 2 rfl (.inl hb1)) (elh1 2 rfl) lr4 (elh1 1 rfl) lr6) (by decide) ?_
  rintro r7 ⟨lr7, hr7⟩
  simp only [List.set_cons_zero, List.set_cons_succ]
  have pr7 : PowIs x r7 31 := PowIs.mul 9 22 31 hr7 pr4 pr6 (by decide)
  refine HL.nil ?_
  refine HQ.next ?_
  refine HC.seq ?_
  refine HC.region ?_
  refine HL.val (Val.move rfl) (by decide) ?_
  refine HL.val (Val.move rfl) (by decide) ?_
  refine HL.call (f := 57) en57 rfl (sqrH (dst1 1 rfl (.inl hb2)) (elh1 2 rfl) lr7) (by decide) ?_
  rintro r8 ⟨lr8, hr8⟩
  simp only [List.set_cons_zero, List.set_cons_succ]
  have pr8 : PowIs x r8 62 := PowIs.sqr 31 62 hr8 pr7 (by decide)
  refine HL.nil ?_
  refine HQ.next ?_
  refine HC.seq ?_
  refine HC.seq ?_
  refine HC.region ?_
  refine HL.val (Val.assign rfl) (by decide) ?_
  refine HL.nil ?_
  refine HQ.next ?_
  refine HC.block ?_
  refine HC.loop (ι := {p : Nat × Nat // p.1 ≤ 4 ∧ p.2 < 2 ^ 256 ∧ PowIs x p.2 (62 * 2 ^ p.1)}) (fun p => 4 - p.1.1) (fun p => [(7, .int .i64 (p.1.1 : Int)), (0, .pointer (some ⟨bz, 0, none⟩)), (1, .pointer (some ⟨bx, 0, none⟩)), (4, .pointer (some ⟨b1, 0, none⟩)), (5, .pointer (some ⟨b2, 0, none⟩)), (6, .pointer (some ⟨b3, 0, none⟩))]) (fun p => [(b3, .cells (byA 32 0) 59 (0, 0)), (b2, .cells (byA 32 p.1.2) 59 (0, 0)), (b1, .cells (byA 32 r7) 59 (0, 0)), (bz, .cells (byA 32 r5) Tz (0, 0)), (bx, .cells (byA 32 x) Tx (0, 0))]) ⟨(0, r8), Nat.zero_le _, lr8, pr8⟩ (fun a w ha hw => ⟨ha.subS ⟨rfl, rfl, rfl, rfl, rfl, rfl, trivial⟩, hw⟩) ?_
  rintro ⟨⟨k9, r9⟩, hk9, lr9, pr9⟩
  dsimp only at hk9 lr9 pr9 ⊢
  refine HC.seq ?_
  refine HC.seq ?_
  refine HC.region ?_
  refine HL.val (Val.move rfl) (by decide) ?_
  by_cases hlt9 : k9 < 4
  · refine HL.val ((Val.lss rfl rfl).as (congrArg Value.bool ((lssN k9 4).trans (decide_eq_true hlt9)))) (by decide) ?_
    refine HL.nil ?_
    refine HQ.next ?_
    refine HC.yes rfl ?_
    refine HC.skip ?_
    refine HQ.next ?_
    refine HC.seq ?_
    refine HC.block ?_
    refine HC.region ?_
    refine HL.val (Val.move rfl) (by decide) ?_
    refine HL.val (Val.move rfl) (by decide) ?_
    refine HL.call (f := 57) en57 rfl (sqrH (dst1 1 rfl (.inl hb2)) (elh1 1 rfl) lr9) (by decide) ?_
    rintro r10 ⟨lr10, hr10⟩
    simp only [List.set_cons_zero, List.set_cons_succ]
    refine HL.nil ?_
    refine HQ.blockNormal ?_
    refine HQ.next ?_
    refine HC.region ?_
    refine HL.val (Val.move rfl) (by decide) ?_
    refine HL.val ((Val.addI rfl rfl).as (congrArg (Value.int .i64) (wrap1 k9 (by omega)))) (by decide) ?_
    refine HL.val (Val.assign rfl) (by decide) ?_
    refine HL.nil ?_
    exact ⟨fun a w ha hw => ⟨⟨(k9 + 1, r10), by omega, lr10, PowIs.step _ _ hr10 pr9⟩, by dsimp only; omega, ha.subS ⟨rfl, rfl, rfl, rfl, rfl, rfl, trivial⟩, hw⟩⟩
  · refine HL.val ((Val.lss rfl rfl).as (congrArg Value.bool ((lssN k9 4).trans (decide_eq_false hlt9)))) (by decide) ?_
    refine HL.nil ?_
    refine HQ.next ?_
    refine HC.no rfl ?_
    refine HC.exit ?_
    obtain rfl : k9 = 4 := by omega
    have qr9 : PowIs x r9 992 := pr9
    refine HQ.thenExit ?_
    refine HQ.thenExit ?_
    refine HQ.blockExit ?_
    refine HQ.next ?_
    refine HC.seq ?_
    refine HC.region ?_
    refine HL.val (Val.move rfl) (by decide) ?_
    refine HL.val (Val.move rfl) (by decide) ?_
    refine HL.val (Val.move rfl) (by decide) ?_
    refine HL.call (f := 58) en58 rfl (mulH (dst1 2 rfl (.inl hb1)) (elh1 2 rfl) lr7 (elh1 1 rfl) lr9) (by decide) ?_
    rintro r10 ⟨lr10, hr10⟩
    simp only [List.set_cons_zero, List.set_cons_succ]
    have pr10 : PowIs x r10 1023 := PowIs.mul 31 992 1023 hr10 pr7 qr9 (by decide)
    refine HL.nil ?_
    refine HQ.next ?_
    refine HC.seq ?_
    refine HC.region ?_
    refine HL.val (Val.move rfl) (by decide) ?_
    refine HL.val (Val.move rfl) (by decide) ?_
    refine HL.call (f := 57) en57 rfl (sqrH (dst1 1 rfl (.inl hb2)) (elh1 2 rfl) lr10) (by decide) ?_
    rintro r11 ⟨lr11, hr11⟩
    simp only [List.set_cons_zero, List.set_cons_succ]
    have pr11 : PowIs x r11 2046 := PowIs.sqr 1023 2046 hr11 pr10 (by decide)
    refine HL.nil ?_
    refine HQ.next ?_
    refine HC.seq ?_
    refine HC.seq ?_
    refine HC.region ?_
    refine HL.val (Val.assign rfl) (by decide) ?_
    refine HL.nil ?_
    refine HQ.next ?_
    refine HC.block ?_
    refine HC.loop (ι := {p : Nat × Nat // p.1 ≤ 9 ∧ p.2 < 2 ^ 256 ∧ PowIs x p.2 (2046 * 2 ^ p.1)}) (fun p => 9 - p.1.1) (fun p => [(8, .int .i64 (p.1.1 : Int)), (0, .pointer (some ⟨bz, 0, none⟩)), (1, .pointer (some ⟨bx, 0, none⟩)), (4, .pointer (some ⟨b1, 0, none⟩)), (5, .pointer (some ⟨b2, 0, none⟩)), (6, .pointer (some ⟨b3, 0, none⟩))]) (fun p => [(b3, .cells (byA 32 0) 59 (0, 0)), (b2, .cells (byA 32 p.1.2) 59 (0, 0)), (b1, .cells (byA 32 r10) 59 (0, 0)), (bz, .cells (byA 32 r5) Tz (0, 0)), (bx, .cells (byA 32 x) Tx (0, 0))]) ⟨(0, r11), Nat.zero_le _, lr11, pr11⟩ (fun a w ha hw => ⟨ha.subS ⟨rfl, rfl, rfl, rfl, rfl, rfl, trivial⟩, hw⟩) ?_
    rintro ⟨⟨k12, r12⟩, hk12, lr12, pr12⟩
    dsimp only at hk12 lr12 pr12 ⊢
    refine HC.seq ?_
    refine HC.seq ?_
    refine HC.region ?_
    refine HL.val (Val.move rfl) (by decide) ?_
    by_cases hlt12 : k12 < 9
    · refine HL.val ((Val.lss rfl rfl).as (congrArg Value.bool ((lssN k12 9).trans (decide_eq_true hlt12)))) (by decide) ?_
      refine HL.nil ?_
      refine HQ.next ?_
      refine HC.yes rfl ?_
      refine HC.skip ?_
      refine HQ.next ?_
      refine HC.seq ?_
      refine HC.block ?_
      refine HC.region ?_
      refine HL.val (Val.move rfl) (by decide) ?_
      refine HL.val (Val.move rfl) (by decide) ?_
      refine HL.call (f := 57) en57 rfl (sqrH (dst1 1 rfl (.inl hb2)) (elh1 1 rfl) lr12) (by decide) ?_
      rintro r13 ⟨lr13, hr13⟩
      simp only [List.set_cons_zero, List.set_cons_succ]
      refine HL.nil ?_
      refine HQ.blockNormal ?_
      refine HQ.next ?_
      refine HC.region ?_
      refine HL.val (Val.move rfl) (by decide) ?_
      refine HL.val ((Val.addI rfl rfl).as (congrArg (Value.int .i64) (wrap1 k12 (by omega)))) (by decide) ?_
      refine HL.val (Val.assign rfl) (by decide) ?_
      refine HL.nil ?_
      exact ⟨fun a w ha hw => ⟨⟨(k12 + 1, r13), by omega, lr13, PowIs.step _ _ hr13 pr12⟩, by dsimp only; omega, ha.subS ⟨rfl, rfl, rfl, rfl, rfl, rfl, trivial⟩, hw⟩⟩
    · refine HL.val ((Val.lss rfl rfl).as (congrArg Value.bool ((lssN k12 9).trans (decide_eq_false hlt12)))) (by decide) ?_
      refine HL.nil ?_
      refine HQ.next ?_
      refine HC.no rfl ?_
      refine HC.exit ?_
      obtain rfl : k12 = 9 := by omega
      have qr12 : PowIs x r12 1047552 := (show 2046 * 2 ^ 9 = 1047552 by decide) ▸ pr12
      refine HQ.thenExit ?_
      refine HQ.thenExit ?_
      refine HQ.blockExit ?_
      refine HQ.next ?_
      refine HC.seq ?_
      refine HC.region ?_
      refine HL.val (Val.move rfl) (by decide) ?_
      refine HL.val (Val.move rfl) (by decide) ?_
      refine HL.val (Val.move rfl) (by decide) ?_
      refine HL.call (f := 58) en58 rfl (mulH (dst1 1 rfl (.inl hb2)) (elh1 1 rfl) lr12 (elh1 2 rfl) lr10) (by decide) ?_
      rintro r13 ⟨lr13, hr13⟩
      simp only [List.set_cons_zero, List.set_cons_succ]
      have pr13 : PowIs x r13 1048575 := PowIs.mul 1047552 1023 1048575 hr13 qr12 pr10 (by decide)
      refine HL.nil ?_
      refine HQ.next ?_
      refine HC.seq ?_
      refine HC.region ?_
      refine HL.val (Val.move rfl) (by decide) ?_
      refine HL.val (Val.move rfl) (by decide) ?_
      refine HL.call (f := 57) en57 rfl (sqrH (dst1 0 rfl (.inl hb3)) (elh1 1 rfl) lr13) (by decide) ?_
      rintro r14 ⟨lr14, hr14⟩
      simp only [List.set_cons_zero]
      have pr14 : PowIs x r14 2097150 := PowIs.sqr 1048575 2097150 hr14 pr13 (by decide)
      refine HL.nil ?_
      refine HQ.next ?_
      refine HC.seq ?_
      refine HC.seq ?_
      refine HC.region ?_
      refine HL.val (Val.assign rfl) (by decide) ?_
      refine HL.nil ?_
      refine HQ.next ?_
      refine HC.block ?_
      refine HC.loop (ι := {p : Nat × Nat // p.1 ≤ 19 ∧ p.2 < 2 ^ 256 ∧ PowIs x p.2 (2097150 * 2 ^ p.1)}) (fun p => 19 - p.1.1) (fun p => [(9, .int .i64 (p.1.1 : Int)), (0, .pointer (some ⟨bz, 0, none⟩)), (1, .pointer (some ⟨bx, 0, none⟩)), (4, .pointer (some ⟨b1, 0, none⟩)), (5, .pointer (some ⟨b2, 0, none⟩)), (6, .pointer (some ⟨b3, 0, none⟩))]) (fun p => [(b3, .cells (byA 32 p.1.2) 59 (0, 0)), (b2, .cells (byA 32 r13) 59 (0, 0)), (b1, .cells (byA 32 r10) 59 (0, 0)), (bz, .cells (byA 32 r5) Tz (0, 0)), (bx, .cells (byA 32 x) Tx (0, 0))]) ⟨(0, r14), Nat.zero_le _, lr14, pr14⟩ (fun a w ha hw => ⟨ha.subS ⟨rfl, rfl, rfl, rfl, rfl, rfl, trivial⟩, hw⟩) ?_
      rintro ⟨⟨k15, r15⟩, hk15, lr15, pr15⟩
      dsimp only at hk15 lr15 pr15 ⊢
      refine HC.seq ?_
      refine HC.seq ?_
      refine HC.region ?_
      refine HL.val (Val.move rfl) (by decide) ?_
      by_cases hlt15 : k15 < 19
      · refine HL.val ((Val.lss rfl rfl).as (congrArg Value.bool ((lssN k15 19).trans (decide_eq_true hlt15)))) (by decide) ?_
        refine HL.nil ?_
        refine HQ.next ?_
        refine HC.yes rfl ?_
        refine HC.skip ?_
        refine HQ.next ?_
        refine HC.seq ?_
        refine HC.block ?_
        refine HC.region ?_
        refine HL.val (Val.move rfl) (by decide) ?_
        refine HL.val (Val.move rfl) (by decide) ?_
        refine HL.call (f := 57) en57 rfl (sqrH (dst1 0 rfl (.inl hb3)) (elh1 0 rfl) lr15) (by decide) ?_
        rintro r16 ⟨lr16, hr16⟩
        simp only [List.set_cons_zero]
        refine HL.nil ?_
        refine HQ.blockNormal ?_
        refine HQ.next ?_
        refine HC.region ?_
        refine HL.val (Val.move rfl) (by decide) ?_
        refine HL.val ((Val.addI rfl rfl).as (congrArg (Value.int .i64) (wrap1 k15 (by omega)))) (by decide) ?_
        refine HL.val (Val.assign rfl) (by decide) ?_
        refine HL.nil ?_
        exact ⟨fun a w ha hw => ⟨⟨(k15 + 1, r16), by omega, lr16, PowIs.step _ _ hr16 pr15⟩, by dsimp only; omega, ha.subS ⟨rfl, rfl, rfl, rfl, rfl, rfl, trivial⟩, hw⟩⟩
      · refine HL.val ((Val.lss rfl rfl).as (congrArg Value.bool ((lssN k15 19).trans (decide_eq_false hlt15)))) (by decide) ?_
        refine HL.nil ?_
        refine HQ.next ?_
        refine HC.no rfl ?_
        refine HC.exit ?_
        obtain rfl : k15 = 19 := by omega
        have qr15 : PowIs x r15 1099510579200 := (show 2097150 * 2 ^ 19 = 1099510579200 by decide) ▸ pr15
        refine HQ.thenExit ?_
        refine HQ.thenExit ?_
        refine HQ.blockExit ?_
        refine HQ.next ?_
        refine HC.seq ?_
        refine HC.region ?_
        refine HL.val (Val.move rfl) (by decide) ?_
        refine HL.val (Val.move rfl) (by decide) ?_
        refine HL.val (Val.move rfl) (by decide) ?_
        refine HL.call (f := 58) en58 rfl (mulH (dst1 0 rfl (.inl hb3)) (elh1 0 rfl) lr15 (elh1 1 rfl) lr13) (by decide) ?_
        rintro r16 ⟨lr16, hr16⟩
        simp only [List.set_cons_zero]
        have pr16 : PowIs x r16 1099511627775 := PowIs.mul 1099510579200 1048575 1099511627775 hr16 qr15 pr13 (by decide)
        refine HL.nil ?_
        refine HQ.next ?_
        refine HC.seq ?_
        refine HC.seq ?_
        refine HC.region ?_
        refine HL.val (Val.assign rfl) (by decide) ?_
        refine HL.nil ?_
        refine HQ.next ?_
        refine HC.block ?_
        refine HC.loop (ι := {p : Nat × Nat // p.1 ≤ 10 ∧ p.2 < 2 ^ 256 ∧ PowIs x p.2 (1099511627775 * 2 ^ p.1)}) (fun p => 10 - p.1.1) (fun p => [(10, .int .i64 (p.1.1 : Int)), (0, .pointer (some ⟨bz, 0, none⟩)), (1, .pointer (some ⟨bx, 0, none⟩)), (4, .pointer (some ⟨b1, 0, none⟩)), (5, .pointer (some ⟨b2, 0, none⟩)), (6, .pointer (some ⟨b3, 0, none⟩))]) (fun p => [(b3, .cells (byA 32 p.1.2) 59 (0, 0)), (b2, .cells (byA 32 r13) 59 (0, 0)), (b1, .cells (byA 32 r10) 59 (0, 0)), (bz, .cells (byA 32 r5) Tz (0, 0)), (bx, .cells (byA 32 x) Tx (0, 0))]) ⟨(0, r16), Nat.zero_le _, lr16, pr16⟩ (fun a w ha hw => ⟨ha.subS ⟨rfl, rfl, rfl, rfl, rfl, rfl, trivial⟩, hw⟩) ?_
        rintro ⟨⟨k17, r17⟩, hk17, lr17, pr17⟩
        dsimp only at hk17 lr17 pr17 ⊢
        refine HC.seq ?_
        refine HC.seq ?_
        refine HC.region ?_
        refine HL.val (Val.move rfl) (by decide) ?_
        by_cases hlt17 : k17 < 10
        · refine HL.val ((Val.lss rfl rfl).as (congrArg Value.bool ((lssN k17 10).trans (decide_eq_true hlt17)))) (by decide) ?_
          refine HL.nil ?_
          refine HQ.next ?_
          refine HC.yes rfl ?_
          refine HC.skip ?_
          refine HQ.next ?_
          refine HC.seq ?_
          refine HC.block ?_
          refine HC.region ?_
          refine HL.val (Val.move rfl) (by decide) ?_
          refine HL.val (Val.move rfl) (by decide) ?_
          refine HL.call (f := 57) en57 rfl (sqrH (dst1 0 rfl (.inl hb3)) (elh1 0 rfl) lr17) (by decide) ?_
          rintro r18 ⟨lr18, hr18⟩
          simp only [List.set_cons_zero]
          refine HL.nil ?_
          refine HQ.blockNormal ?_
          refine HQ.next ?_
          refine HC.region ?_
          refine HL.val (Val.move rfl) (by decide) ?_
          refine HL.val ((Val.addI rfl rfl).as (congrArg (Value.int .i64) (wrap1 k17 (by omega)))) (by decide) ?_
          refine HL.val (Val.assign rfl) (by decide) ?_
          refine HL.nil ?_
          exact ⟨fun a w ha hw => ⟨⟨(k17 + 1, r18), by omega, lr18, PowIs.step _ _ hr18 pr17⟩, by dsimp only; omega, ha.subS ⟨rfl, rfl, rfl, rfl, rfl, rfl, trivial⟩, hw⟩⟩
        · refine HL.val ((Val.lss rfl rfl).as (congrArg Value.bool ((lssN k17 10).trans (decide_eq_false hlt17)))) (by decide) ?_
          refine HL.nil ?_
          refine HQ.next ?_
          refine HC.no rfl ?_
          refine HC.exit ?_
          obtain rfl : k17 = 10 := by omega
          have qr17 : PowIs x r17 1125899906841600 := (show 1099511627775 * 2 ^ 10 = 1125899906841600 by decide) ▸ pr17
          refine HQ.thenExit ?_
          refine HQ.thenExit ?_
          refine HQ.blockExit ?_
          refine HQ.next ?_
          refine HC.seq ?_
          refine HC.region ?_
          refine HL.val (Val.move rfl) (by decide) ?_
          refine HL.val (Val.move rfl) (by decide) ?_
          refine HL.val (Val.move rfl) (by decide) ?_
          refine HL.call (f := 58) en58 rfl (mulH (dst1 0 rfl (.inl hb3)) (elh1 0 rfl) lr17 (elh1 2 rfl) lr10) (by decide) ?_
          rintro r18 ⟨lr18, hr18⟩
          simp only [List.set_cons_zero]
          have pr18 : PowIs x r18 1125899906842623 := PowIs.mul 1125899906841600 1023 1125899906842623 hr18 qr17 pr10 (by decide)
          refine HL.nil ?_
          refine HQ.next ?_
          refine HC.seq ?_
          refine HC.region ?_
          refine HL.val (Val.move rfl) (by decide) ?_
          refine HL.val (Val.move rfl) (by decide) ?_
          refine HL.call (f := 57) en57 rfl (sqrH (dst1 2 rfl (.inl hb1)) (elh1 0 rfl) lr18) (by decide) ?_
          rintro r19 ⟨lr19, hr19⟩
          simp only [List.set_cons_zero, List.set_cons_succ]
          have pr19 : PowIs x r19 2251799813685246 := PowIs.sqr 1125899906842623 2251799813685246 hr19 pr18 (by decide)
          refine HL.nil ?_
          refine HQ.next ?_
          refine HC.seq ?_
          refine HC.seq ?_
          refine HC.region ?_
          refine HL.val (Val.assign rfl) (by decide) ?_
          refine HL.nil ?_
          refine HQ.next ?_
          refine HC.block ?_
          refine HC.loop (ι := {p : Nat × Nat // p.1 ≤ 49 ∧ p.2 < 2 ^ 256 ∧ PowIs x p.2 (2251799813685246 * 2 ^ p.1)}) (fun p => 49 - p.1.1) (fun p => [(11, .int .i64 (p.1.1 : Int)), (0, .pointer (some ⟨bz, 0, none⟩)), (1, .pointer (some ⟨bx, 0, none⟩)), (4, .pointer (some ⟨b1, 0, none⟩)), (5, .pointer (some ⟨b2, 0, none⟩)), (6, .pointer (some ⟨b3, 0, none⟩))]) (fun p => [(b3, .cells (byA 32 r18) 59 (0, 0)), (b2, .cells (byA 32 r13) 59 (0, 0)), (b1, .cells (byA 32 p.1.2) 59 (0, 0)), (bz, .cells (byA 32 r5) Tz (0, 0)), (bx, .cells (byA 32 x) Tx (0, 0))]) ⟨(0, r19), Nat.zero_le _, lr19, pr19⟩ (fun a w ha hw => ⟨ha.subS ⟨rfl, rfl, rfl, rfl, rfl, rfl, trivial⟩, hw⟩) ?_
          rintro ⟨⟨k20, r20⟩, hk20, lr20, pr20⟩
          dsimp only at hk20 lr20 pr20 ⊢
          refine HC.seq ?_
          refine HC.seq ?_
          refine HC.region ?_
          refine HL.val (Val.move rfl) (by decide) ?_
          by_cases hlt20 : k20 < 49
          · refine HL.val ((Val.lss rfl rfl).as (congrArg Value.bool ((lssN k20 49).trans (decide_eq_true hlt20)))) (by decide) ?_
            refine HL.nil ?_
            refine HQ.next ?_
            refine HC.yes rfl ?_
            refine HC.skip ?_
            refine HQ.next ?_
            refine HC.seq ?_
            refine HC.block ?_
            refine HC.region ?_
            refine HL.val (Val.move rfl) (by decide) ?_
            refine HL.val (Val.move rfl) (by decide) ?_
            refine HL.call (f := 57) en57 rfl (sqrH (dst1 2 rfl (.inl hb1)) (elh1 2 rfl) lr20) (by decide) ?_
            rintro r21 ⟨lr21, hr21⟩
            simp only [List.set_cons_zero, List.set_cons_succ]
            refine HL.nil ?_
            refine HQ.blockNormal ?_
            refine HQ.next ?_
            refine HC.region ?_
            refine HL.val (Val.move rfl) (by decide) ?_
            refine HL.val ((Val.addI rfl rfl).as (congrArg (Value.int .i64) (wrap1 k20 (by omega)))) (by decide) ?_
            refine HL.val (Val.assign rfl) (by decide) ?_
            refine HL.nil ?_
            exact ⟨fun a w ha hw => ⟨⟨(k20 + 1, r21), by omega, lr21, PowIs.step _ _ hr21 pr20⟩, by dsimp only; omega, ha.subS ⟨rfl, rfl, rfl, rfl, rfl, rfl, trivial⟩, hw⟩⟩
          · refine HL.val ((Val.lss rfl rfl).as (congrArg Value.bool ((lssN k20 49).trans (decide_eq_false hlt20)))) (by decide) ?_
            refine HL.nil ?_
            refine HQ.next ?_
            refine HC.no rfl ?_
            refine HC.exit ?_
            obtain rfl : k20 = 49 := by omega
            have qr20 : PowIs x r20 1267650600228228275596796362752 := (show 2251799813685246 * 2 ^ 49 = 1267650600228228275596796362752 by decide) ▸ pr20
            refine HQ.thenExit ?_
            refine HQ.thenExit ?_
            refine HQ.blockExit ?_
            refine HQ.next ?_
            refine HC.seq ?_
            refine HC.region ?_
            refine HL.val (Val.move rfl) (by decide) ?_
            refine HL.val (Val.move rfl) (by decide) ?_
            refine HL.val (Val.move rfl) (by decide) ?_
            refine HL.call (f := 58) en58 rfl (mulH (dst1 2 rfl (.inl hb1)) (elh1 2 rfl) lr20 (elh1 0 rfl) lr18) (by decide) ?_
            rintro r21 ⟨lr21, hr21⟩
            simp only [List.set_cons_zero, List.set_cons_succ]
            have pr21 : PowIs x r21 1267650600228229401496703205375 := PowIs.mul 1267650600228228275596796362752 1125899906842623 1267650600228229401496703205375 hr21 qr20 pr18 (by decide)
            refine HL.nil ?_
            refine HQ.next ?_
            refine HC.seq ?_
            refine HC.region ?_
            refine HL.val (Val.move rfl) (by decide) ?_
            refine HL.val (Val.move rfl) (by decide) ?_
            refine HL.call (f := 57) en57 rfl (sqrH (dst1 1 rfl (.inl hb2)) (elh1 2 rfl) lr21) (by decide) ?_
            rintro r22 ⟨lr22, hr22⟩
            simp only [List.set_cons_zero, List.set_cons_succ]
            have pr22 : PowIs x r22 2535301200456458802993406410750 := PowIs.sqr 1267650600228229401496703205375 2535301200456458802993406410750 hr22 pr21 (by decide)
            refine HL.nil ?_
            refine HQ.next ?_
            refine HC.seq ?_
            refine HC.seq ?_
            refine HC.region ?_
            refine HL.val (Val.assign rfl) (by decide) ?_
            refine HL.nil ?_
            refine HQ.next ?_
            refine HC.block ?_
            refine HC.loop (ι := {p : Nat × Nat // p.1 ≤ 99 ∧ p.2 < 2 ^ 256 ∧ PowIs x p.2 (2535301200456458802993406410750 * 2 ^ p.1)}) (fun p => 99 - p.1.1) (fun p => [(12, .int .i64 (p.1.1 : Int)), (0, .pointer (some ⟨bz, 0, none⟩)), (1, .pointer (some ⟨bx, 0, none⟩)), (4, .pointer (some ⟨b1, 0, none⟩)), (5, .pointer (some ⟨b2, 0, none⟩)), (6, .pointer (some ⟨b3, 0, none⟩))]) (fun p => [(b3, .cells (byA 32 r18) 59 (0, 0)), (b2, .cells (byA 32 p.1.2) 59 (0, 0)), (b1, .cells (byA 32 r21) 59 (0, 0)), (bz, .cells (byA 32 r5) Tz (0, 0)), (bx, .cells (byA 32 x) Tx (0, 0))]) ⟨(0, r22), Nat.zero_le _, lr22, pr22⟩ (fun a w ha hw => ⟨ha.subS ⟨rfl, rfl, rfl, rfl, rfl, rfl, trivial⟩, hw⟩) ?_
            rintro ⟨⟨k23, r23⟩, hk23, lr23, pr23⟩
            dsimp only at hk23 lr23 pr23 ⊢
            refine HC.seq ?_
            refine HC.seq ?_
            refine HC.region ?_
            refine HL.val (Val.move rfl) (by decide) ?_
            by_cases hlt23 : k23 < 99
            · refine HL.val ((Val.lss rfl rfl).as (congrArg Value.bool ((lssN k23 99).trans (decide_eq_true hlt23)))) (by decide) ?_
              refine HL.nil ?_
              refine HQ.next ?_
              refine HC.yes rfl ?_
              refine HC.skip ?_
              refine HQ.next ?_
              refine HC.seq ?_
              refine HC.block ?_
              refine HC.region ?_
              refine HL.val (Val.move rfl) (by decide) ?_
              refine HL.val (Val.move rfl) (by decide) ?_
              refine HL.call (f := 57) en57 rfl (sqrH (dst1 1 rfl (.inl hb2)) (elh1 1 rfl) lr23) (by decide) ?_
              rintro r24 ⟨lr24, hr24⟩
              simp only [List.set_cons_zero, List.set_cons_succ]
              refine HL.nil ?_
              refine HQ.blockNormal ?_
              refine HQ.next ?_
              refine HC.region ?_
              refine HL.val (Val.move rfl) (by decide) ?_
              refine HL.val ((Val.addI rfl rfl).as (congrArg (Value.int .i64) (wrap1 k23 (by omega)))) (by decide) ?_
              refine HL.val (Val.assign rfl) (by decide) ?_
              refine HL.nil ?_
              exact ⟨fun a w ha hw => ⟨⟨(k23 + 1, r24), by omega, lr24, PowIs.step _ _ hr24 pr23⟩, by dsimp only; omega, ha.subS ⟨rfl, rfl, rfl, rfl, rfl, rfl, trivial⟩, hw⟩⟩
            · refine HL.val ((Val.lss rfl rfl).as (congrArg Value.bool ((lssN k23 99).trans (decide_eq_false hlt23)))) (by decide) ?_
              refine HL.nil ?_
              refine HQ.next ?_
              refine HC.no rfl ?_
              refine HC.exit ?_
              obtain rfl : k23 = 99 := by omega
              have qr23 : PowIs x r23 1606938044258990275541962092339894951921974764381296132096000 := (show 2535301200456458802993406410750 * 2 ^ 99 = 1606938044258990275541962092339894951921974764381296132096000 by decide) ▸ pr23
              refine HQ.thenExit ?_
              refine HQ.thenExit ?_
              refine HQ.blockExit ?_
              refine HQ.next ?_
              refine HC.seq ?_
              refine HC.region ?_
              refine HL.val (Val.move rfl) (by decide) ?_
              refine HL.val (Val.move rfl) (by decide) ?_
              refine HL.val (Val.move rfl) (by decide) ?_
              refine HL.call (f := 58) en58 rfl (mulH (dst1 1 rfl (.inl hb2)) (elh1 1 rfl) lr23 (elh1 2 rfl) lr21) (by decide) ?_
              rintro r24 ⟨lr24, hr24⟩
              simp only [List.set_cons_zero, List.set_cons_succ]
              have pr24 : PowIs x r24 1606938044258990275541962092341162602522202993782792835301375 := PowIs.mul 1606938044258990275541962092339894951921974764381296132096000 1267650600228229401496703205375 1606938044258990275541962092341162602522202993782792835301375 hr24 qr23 pr21 (by decide)
              refine HL.nil ?_
              refine HQ.next ?_
              refine HC.seq ?_
              refine HC.seq ?_
              refine HC.region ?_
              refine HL.val (Val.assign rfl) (by decide) ?_
              refine HL.nil ?_
              refine HQ.next ?_
              refine HC.block ?_
              refine HC.loop (ι := {p : Nat × Nat // p.1 ≤ 50 ∧ p.2 < 2 ^ 256 ∧ PowIs x p.2 (1606938044258990275541962092341162602522202993782792835301375 * 2 ^ p.1)}) (fun p => 50 - p.1.1) (fun p => [(13, .int .i64 (p.1.1 : Int)), (0, .pointer (some ⟨bz, 0, none⟩)), (1, .pointer (some ⟨bx, 0, none⟩)), (4, .pointer (some ⟨b1, 0, none⟩)), (5, .pointer (some ⟨b2, 0, none⟩)), (6, .pointer (some ⟨b3, 0, none⟩))]) (fun p => [(b3, .cells (byA 32 r18) 59 (0, 0)), (b2, .cells (byA 32 p.1.2) 59 (0, 0)), (b1, .cells (byA 32 r21) 59 (0, 0)), (bz, .cells (byA 32 r5) Tz (0, 0)), (bx, .cells (byA 32 x) Tx (0, 0))]) ⟨(0, r24), Nat.zero_le _, lr24, pr24⟩ (fun a w ha hw => ⟨ha.subS ⟨rfl, rfl, rfl, rfl, rfl, rfl, trivial⟩, hw⟩) ?_
              rintro ⟨⟨k25, r25⟩, hk25, lr25, pr25⟩
              dsimp only at hk25 lr25 pr25 ⊢
              refine HC.seq ?_
              refine HC.seq ?_
              refine HC.region ?_
              refine HL.val (Val.move rfl) (by decide) ?_
              by_cases hlt25 : k25 < 50
              · refine HL.val ((Val.lss rfl rfl).as (congrArg Value.bool ((lssN k25 50).trans (decide_eq_true hlt25)))) (by decide) ?_
                refine HL.nil ?_
                refine HQ.next ?_
                refine HC.yes rfl ?_
                refine HC.skip ?_
                refine HQ.next ?_
                refine HC.seq ?_
                refine HC.block ?_
                refine HC.region ?_
                refine HL.val (Val.move rfl) (by decide) ?_
                refine HL.val (Val.move rfl) (by decide) ?_
                refine HL.call (f := 57) en57 rfl (sqrH (dst1 1 rfl (.inl hb2)) (elh1 1 rfl) lr25) (by decide) ?_
                rintro r26 ⟨lr26, hr26⟩
                simp only [List.set_cons_zero, List.set_cons_succ]
                refine HL.nil ?_
                refine HQ.blockNormal ?_
                refine HQ.next ?_
                refine HC.region ?_
                refine HL.val (Val.move rfl) (by decide) ?_
                refine HL.val ((Val.addI rfl rfl).as (congrArg (Value.int .i64) (wrap1 k25 (by omega)))) (by decide) ?_
                refine HL.val (Val.assign rfl) (by decide) ?_
                refine HL.nil ?_
                exact ⟨fun a w ha hw => ⟨⟨(k25 + 1, r26), by omega, lr26, PowIs.step _ _ hr26 pr25⟩, by dsimp only; omega, ha.subS ⟨rfl, rfl, rfl, rfl, rfl, rfl, trivial⟩, hw⟩⟩
              · refine HL.val ((Val.lss rfl rfl).as (congrArg Value.bool ((lssN k25 50).trans (decide_eq_false hlt25)))) (by decide) ?_
                refine HL.nil ?_
                refine HQ.next ?_
                refine HC.no rfl ?_
                refine HC.exit ?_
                obtain rfl : k25 = 50 := by omega
                have qr25 : PowIs x r25 1809251394333065553493296640760748560207343510400633813116523624223735808000 := (show 1606938044258990275541962092341162602522202993782792835301375 * 2 ^ 50 = 1809251394333065553493296640760748560207343510400633813116523624223735808000 by decide) ▸ pr25
                refine HQ.thenExit ?_
                refine HQ.thenExit ?_
                refine HQ.blockExit ?_
                refine HQ.next ?_
                refine HC.seq ?_
                refine HC.region ?_
                refine HL.val (Val.move rfl) (by decide) ?_
                refine HL.val (Val.move rfl) (by decide) ?_
                refine HL.val (Val.move rfl) (by decide) ?_
                refine HL.call (f := 58) en58 rfl (mulH (dst1 1 rfl (.inl hb2)) (elh1 1 rfl) lr25 (elh1 0 rfl) lr18) (by decide) ?_
                rintro r26 ⟨lr26, hr26⟩
                simp only [List.set_cons_zero, List.set_cons_succ]
                have pr26 : PowIs x r26 1809251394333065553493296640760748560207343510400633813116524750123642650623 := PowIs.mul 1809251394333065553493296640760748560207343510400633813116523624223735808000 1125899906842623 1809251394333065553493296640760748560207343510400633813116524750123642650623 hr26 qr25 pr18 (by decide)
                refine HL.nil ?_
                refine HQ.next ?_
                refine HC.seq ?_
                refine HC.seq ?_
                refine HC.region ?_
                refine HL.val (Val.assign rfl) (by decide) ?_
                refine HL.nil ?_
                refine HQ.next ?_
                refine HC.block ?_
                refine HC.loop (ι := {p : Nat × Nat // p.1 ≤ 5 ∧ p.2 < 2 ^ 256 ∧ PowIs x p.2 (1809251394333065553493296640760748560207343510400633813116524750123642650623 * 2 ^ p.1)}) (fun p => 5 - p.1.1) (fun p => [(14, .int .i64 (p.1.1 : Int)), (0, .pointer (some ⟨bz, 0, none⟩)), (1, .pointer (some ⟨bx, 0, none⟩)), (4, .pointer (some ⟨b1, 0, none⟩)), (5, .pointer (some ⟨b2, 0, none⟩)), (6, .pointer (some ⟨b3, 0, none⟩))]) (fun p => [(b3, .cells (byA 32 r18) 59 (0, 0)), (b2, .cells (byA 32 p.1.2) 59 (0, 0)), (b1, .cells (byA 32 r21) 59 (0, 0)), (bz, .cells (byA 32 r5) Tz (0, 0)), (bx, .cells (byA 32 x) Tx (0, 0))]) ⟨(0, r26), Nat.zero_le _, lr26, pr26⟩ (fun a w ha hw => ⟨ha.subS ⟨rfl, rfl, rfl, rfl, rfl, rfl, trivial⟩, hw⟩) ?_
                rintro ⟨⟨k27, r27⟩, hk27, lr27, pr27⟩
                dsimp only at hk27 lr27 pr27 ⊢
                refine HC.seq ?_
                refine HC.seq ?_
                refine HC.region ?_
                refine HL.val (Val.move rfl) (by decide) ?_
                by_cases hlt27 : k27 < 5
                · refine HL.val ((Val.lss rfl rfl).as (congrArg Value.bool ((lssN k27 5).trans (decide_eq_true hlt27)))) (by decide) ?_
                  refine HL.nil ?_
                  refine HQ.next ?_
                  refine HC.yes rfl ?_
                  refine HC.skip ?_
                  refine HQ.next ?_
                  refine HC.seq ?_
                  refine HC.block ?_
                  refine HC.region ?_
                  refine HL.val (Val.move rfl) (by decide) ?_
                  refine HL.val (Val.move rfl) (by decide) ?_
                  refine HL.call (f := 57) en57 rfl (sqrH (dst1 1 rfl (.inl hb2)) (elh1 1 rfl) lr27) (by decide) ?_
                  rintro r28 ⟨lr28, hr28⟩
                  simp only [List.set_cons_zero, List.set_cons_succ]
                  refine HL.nil ?_
                  refine HQ.blockNormal ?_
                  refine HQ.next ?_
                  refine HC.region ?_
                  refine HL.val (Val.move rfl) (by decide) ?_
                  refine HL.val ((Val.addI rfl rfl).as (congrArg (Value.int .i64) (wrap1 k27 (by omega)))) (by decide) ?_
                  refine HL.val (Val.assign rfl) (by decide) ?_
                  refine HL.nil ?_
                  exact ⟨fun a w ha hw => ⟨⟨(k27 + 1, r28), by omega, lr28, PowIs.step _ _ hr28 pr27⟩, by dsimp only; omega, ha.subS ⟨rfl, rfl, rfl, rfl, rfl, rfl, trivial⟩, hw⟩⟩
                · refine HL.val ((Val.lss rfl rfl).as (congrArg Value.bool ((lssN k27 5).trans (decide_eq_false hlt27)))) (by decide) ?_
                  refine HL.nil ?_
                  refine HQ.next ?_
                  refine HC.no rfl ?_
                  refine HC.exit ?_
                  obtain rfl : k27 = 5 := by omega
                  have qr27 : PowIs x r27 57896044618658097711785492504343953926634992332820282019728792003956564819936 := pr27
                  refine HQ.thenExit ?_
                  refine HQ.thenExit ?_
                  refine HQ.blockExit ?_
                  refine HQ.next ?_
                  refine HC.region ?_
                  refine HL.val (Val.move rfl) (by decide) ?_
                  refine HL.val (Val.move rfl) (by decide) ?_
                  refine HL.val (Val.move rfl) (by decide) ?_
                  refine HL.call (f := 58) en58 rfl (mulH (dst1 3 rfl (ownZ bz)) (elh1 3 rfl) lr5 (elh1 1 rfl) lr27) (by decide) ?_
                  rintro r28 ⟨lr28, hr28⟩
                  simp only [List.set_cons_zero, List.set_cons_succ]
                  have pr28 : PowIs x r28 57896044618658097711785492504343953926634992332820282019728792003956564819947 := PowIs.mul 11 57896044618658097711785492504343953926634992332820282019728792003956564819936 57896044618658097711785492504343953926634992332820282019728792003956564819947 hr28 pr5 qr27 (by decide)
                  refine HL.nil ?_
                  refine HQ.end0 rfl (fun w hw => ⟨r28, ⟨lr28, pr28⟩, rfl, ?_⟩)
                  exact hw.pick [3] (by simp)
end Go.Proofs.Yteehdjkmjncehaa
