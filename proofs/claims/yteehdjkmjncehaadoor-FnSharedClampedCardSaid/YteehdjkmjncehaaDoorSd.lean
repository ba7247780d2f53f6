/-
  The ladder in the program, and the shared key (written by gensh.py).
-/
import Derived.Test.YteehdjkmjncehaaDoorXs
import Derived.Test.YteehdjkmjncehaaDoorVa
namespace Go.Proofs.YteehdjkmjncehaaDoor
open Go.RowKit

set_option maxRecDepth 100000 in
set_option maxHeartbeats 1600000 in
theorem fpInv5 {bw T w0 c1 c2 c3 c4 : Nat} {w : World} (hb : w.heap[bw]? = some (obE [w0, c1, c2, c3, c4] T)) (l2 : c2 < 2 ^ 256) :
    Calls Tryd.prog 75 #[.pointer (some ⟨bw, 64, none⟩), .pointer (some ⟨bw, 64, none⟩)] w fun e w' => ∃ r, (r < 2 ^ 256 ∧ PowIs c2 r 57896044618658097711785492504343953926634992332820282019728792003956564819947) ∧ e = .returned (.tuple #[]) ∧ Hold (fun k => k == bw) w [(bw, obE [w0, c1, r, c3, c4] T)] w' := by
  refine calls_H (args := [.pointer (some ⟨bw, 64, none⟩), .pointer (some ⟨bw, 64, none⟩)]) (fun k => k == bw) [(bw, obE [w0, c1, c2, c3, c4] T)] Tryd.func75 rfl (m := 148) rfl rfl (hold_one hb) ?_
  refine HC.seq ?_
  refine HC.region ?_
  refine HL.val (Val.build rfl bz41) (by decide) ?_
  refine HL.new (New.box rfl) (by decide) ?_
  intro b1 hb1
  refine HL.val (Val.build rfl bz41) (by decide) ?_
  refine HL.new (New.box rfl) (by decide) ?_
  intro b2 hb2
  refine HL.val (Val.build rfl bz41) (by decide) ?_
  refine HL.new (New.box rfl) (by decide) ?_
  intro b3 hb3
  refine HL.val (Val.assign rfl) (by decide) ?_
  refine HL.val (Val.assign rfl) (by decide) ?_
  refine HL.val (Val.assign rfl) (by decide) ?_
  refine HL.nil ?_
  refine HQ.next ?_
  refine HC.seq ?_
  refine HC.region ?_
  refine HL.val (Val.move rfl) (by decide) ?_
  refine HL.val (Val.move rfl) (by decide) ?_
  refine HL.call (f := 47) en47 rfl (sqrH (dst1 1 rfl (.inl hb2)) (elh5 3 2 rfl rfl) l2) (by decide) ?_
  rintro r1 ⟨lr1, hr1⟩
  simp only [List.set_cons_zero, List.set_cons_succ]
  have pr1 : PowIs c2 r1 2 := PowIs.sqr 1 2 hr1 (PowIs.one c2) (by decide)
  refine HL.nil ?_
  refine HQ.next ?_
  refine HC.seq ?_
  refine HC.region ?_
  refine HL.val (Val.move rfl) (by decide) ?_
  refine HL.val (Val.move rfl) (by decide) ?_
  refine HL.call (f := 47) en47 rfl (sqrH (dst1 2 rfl (.inl hb1)) (elh1 1 rfl) lr1) (by decide) ?_
  rintro r2 ⟨lr2, hr2⟩
  simp only [List.set_cons_zero, List.set_cons_succ]
  have pr2 : PowIs c2 r2 4 := PowIs.sqr 2 4 hr2 pr1 (by decide)
  refine HL.nil ?_
  refine HQ.next ?_
  refine HC.seq ?_
  refine HC.region ?_
  refine HL.val (Val.move rfl) (by decide) ?_
  refine HL.val (Val.move rfl) (by decide) ?_
  refine HL.call (f := 47) en47 rfl (sqrH (dst1 2 rfl (.inl hb1)) (elh1 2 rfl) lr2) (by decide) ?_
  rintro r3 ⟨lr3, hr3⟩
  simp only [List.set_cons_zero, List.set_cons_succ]
  have pr3 : PowIs c2 r3 8 := PowIs.sqr 4 8 hr3 pr2 (by decide)
  refine HL.nil ?_
  refine HQ.next ?_
  refine HC.seq ?_
  refine HC.region ?_
  refine HL.val (Val.move rfl) (by decide) ?_
  refine HL.val (Val.move rfl) (by decide) ?_
  refine HL.val (Val.move rfl) (by decide) ?_
  refine HL.call (f := 48) en48 rfl (mulH (dst1 2 rfl (.inl hb1)) (elh1 2 rfl) lr3 (elh5 3 2 rfl rfl) l2) (by decide) ?_
  rintro r4 ⟨lr4, hr4⟩
  simp only [List.set_cons_zero, List.set_cons_succ]
  have pr4 : PowIs c2 r4 9 := PowIs.mul 8 1 9 hr4 pr3 (PowIs.one c2) (by decide)
  refine HL.nil ?_
  refine HQ.next ?_
  refine HC.seq ?_
  refine HC.region ?_
  refine HL.val (Val.move rfl) (by decide) ?_
  refine HL.val (Val.move rfl) (by decide) ?_
  refine HL.val (Val.move rfl) (by decide) ?_
  refine HL.call (f := 48) en48 rfl (mulH (dst5 3 2 rfl (show 2 < 5 from by decide) (ownB bw)) (elh1 2 rfl) lr4 (elh1 1 rfl) lr1) (by decide) ?_
  rintro r5 ⟨lr5, hr5⟩
  simp only [List.set_cons_zero, List.set_cons_succ]
  have pr5 : PowIs c2 r5 11 := PowIs.mul 9 2 11 hr5 pr4 pr1 (by decide)
  refine HL.nil ?_
  refine HQ.next ?_
  refine HC.seq ?_
  refine HC.region ?_
  refine HL.val (Val.move rfl) (by decide) ?_
  refine HL.val (Val.move rfl) (by decide) ?_
  refine HL.call (f := 47) en47 rfl (sqrH (dst1 1 rfl (.inl hb2)) (elh5 3 2 rfl rfl) lr5) (by decide) ?_
  rintro r6 ⟨lr6, hr6⟩
  simp only [List.set_cons_zero, List.set_cons_succ]
  have pr6 : PowIs c2 r6 22 := PowIs.sqr 11 22 hr6 pr5 (by decide)
  refine HL.nil ?_
  refine HQ.next ?_
  refine HC.seq ?_
  refine HC.region ?_
  refine HL.val (Val.move rfl) (by decide) ?_
  refine HL.val (Val.move rfl) (by decide) ?_
  refine HL.val (Val.move rfl) (by decide) ?_
  refine HL.call (f := 48) en48 rfl (mulH (dst1 2 rfl (.inl hb1)) (elh1 2 rfl) lr4 (elh1 1 rfl) lr6) (by decide) ?_
  rintro r7 ⟨lr7, hr7⟩
  simp only [List.set_cons_zero, List.set_cons_succ]
  have pr7 : PowIs c2 r7 31 := PowIs.mul 9 22 31 hr7 pr4 pr6 (by decide)
  refine HL.nil ?_
  refine HQ.next ?_
  refine HC.seq ?_
  refine HC.region ?_
  refine HL.val (Val.move rfl) (by decide) ?_
  refine HL.val (Val.move rfl) (by decide) ?_
  refine HL.call (f := 47) en47 rfl (sqrH (dst1 1 rfl (.inl hb2)) (elh1 2 rfl) lr7) (by decide) ?_
  rintro r8 ⟨lr8, hr8⟩
  simp only [List.set_cons_zero, List.set_cons_succ]
  have pr8 : PowIs c2 r8 62 := PowIs.sqr 31 62 hr8 pr7 (by decide)
  refine HL.nil ?_
  refine HQ.next ?_
  refine HC.seq ?_
  refine HC.seq ?_
  refine HC.region ?_
  refine HL.val (Val.assign rfl) (by decide) ?_
  refine HL.nil ?_
  refine HQ.next ?_
  refine HC.block ?_
  refine HC.loop (ι := {p : Nat × Nat // p.1 ≤ 4 ∧ p.2 < 2 ^ 256 ∧ PowIs c2 p.2 (62 * 2 ^ p.1)}) (fun p => 4 - p.1.1) (fun p => [(7, .int .i64 (p.1.1 : Int)), (0, .pointer (some ⟨bw, 64, none⟩)), (1, .pointer (some ⟨bw, 64, none⟩)), (4, .pointer (some ⟨b1, 0, none⟩)), (5, .pointer (some ⟨b2, 0, none⟩)), (6, .pointer (some ⟨b3, 0, none⟩))]) (fun p => [(b3, .cells (byA 32 0) 41 (0, 0)), (b2, .cells (byA 32 p.1.2) 41 (0, 0)), (b1, .cells (byA 32 r7) 41 (0, 0)), (bw, obE [w0, c1, r5, c3, c4] T)]) ⟨(0, r8), Nat.zero_le _, lr8, pr8⟩ (fun a w ha hw => ⟨ha.subS ⟨rfl, rfl, rfl, rfl, rfl, rfl, trivial⟩, hw⟩) ?_
  rintro ⟨⟨k9, r9⟩, hk9, lr9, pr9⟩
  dsimp only at hk9 lr9 pr9 ⊢
  refine HC.seq ?_
  refine HC.seq ?_
  refine HC.region ?_
  refine HL.val (Val.move rfl) (by decide) ?_
  by_cases hlt9 : k9 < 4
  · refine HL.val ((Val.lss rfl rfl).as (congrArg Value.bool ((lssN k9 4).trans (decide_eq_true hlt9)))) (by decide) ?_
    refine HL.nil ?_
    refine HQ.next ?_
    refine HC.yes rfl ?_
    refine HC.skip ?_
    refine HQ.next ?_
    refine HC.seq ?_
    refine HC.block ?_
    refine HC.region ?_
    refine HL.val (Val.move rfl) (by decide) ?_
    refine HL.val (Val.move rfl) (by decide) ?_
    refine HL.call (f := 47) en47 rfl (sqrH (dst1 1 rfl (.inl hb2)) (elh1 1 rfl) lr9) (by decide) ?_
    rintro r10 ⟨lr10, hr10⟩
    simp only [List.set_cons_zero, List.set_cons_succ]
    refine HL.nil ?_
    refine HQ.blockNormal ?_
    refine HQ.next ?_
    refine HC.region ?_
    refine HL.val (Val.move rfl) (by decide) ?_
    refine HL.val ((Val.addI rfl rfl).as (congrArg (Value.int .i64) (wrap1 k9 (by omega)))) (by decide) ?_
    refine HL.val (Val.assign rfl) (by decide) ?_
    refine HL.nil ?_
    exact ⟨fun a w ha hw => ⟨⟨(k9 + 1, r10), by omega, lr10, PowIs.step _ _ hr10 pr9⟩, by dsimp only; omega, ha.subS ⟨rfl, rfl, rfl, rfl, rfl, rfl, trivial⟩, hw⟩⟩
  · refine HL.val ((Val.lss rfl rfl).as (congrArg Value.bool ((lssN k9 4).trans (decide_eq_false hlt9)))) (by decide) ?_
    refine HL.nil ?_
    refine HQ.next ?_
    refine HC.no rfl ?_
    refine HC.exit ?_
    obtain rfl : k9 = 4 := by omega
    have qr9 : PowIs c2 r9 992 := pr9
    refine HQ.thenExit ?_
    refine HQ.thenExit ?_
    refine HQ.blockExit ?_
    refine HQ.next ?_
    refine HC.seq ?_
    refine HC.region ?_
    refine HL.val (Val.move rfl) (by decide) ?_
    refine HL.val (Val.move rfl) (by decide) ?_
    refine HL.val (Val.move rfl) (by decide) ?_
    refine HL.call (f := 48) en48 rfl (mulH (dst1 2 rfl (.inl hb1)) (elh1 2 rfl) lr7 (elh1 1 rfl) lr9) (by decide) ?_
    rintro r10 ⟨lr10, hr10⟩
    simp only [List.set_cons_zero, List.set_cons_succ]
    have pr10 : PowIs c2 r10 1023 := PowIs.mul 31 992 1023 hr10 pr7 qr9 (by decide)
    refine HL.nil ?_
    refine HQ.next ?_
    refine HC.seq ?_
    refine HC.region ?_
    refine HL.val (Val.move rfl) (by decide) ?_
    refine HL.val (Val.move rfl) (by decide) ?_
    refine HL.call (f := 47) en47 rfl (sqrH (dst1 1 rfl (.inl hb2)) (elh1 2 rfl) lr10) (by decide) ?_
    rintro r11 ⟨lr11, hr11⟩
    simp only [List.set_cons_zero, List.set_cons_succ]
    have pr11 : PowIs c2 r11 2046 := PowIs.sqr 1023 2046 hr11 pr10 (by decide)
    refine HL.nil ?_
    refine HQ.next ?_
    refine HC.seq ?_
    refine HC.seq ?_
    refine HC.region ?_
    refine HL.val (Val.assign rfl) (by decide) ?_
    refine HL.nil ?_
    refine HQ.next ?_
    refine HC.block ?_
    refine HC.loop (ι := {p : Nat × Nat // p.1 ≤ 9 ∧ p.2 < 2 ^ 256 ∧ PowIs c2 p.2 (2046 * 2 ^ p.1)}) (fun p => 9 - p.1.1) (fun p => [(8, .int .i64 (p.1.1 : Int)), (0, .pointer (some ⟨bw, 64, none⟩)), (1, .pointer (some ⟨bw, 64, none⟩)), (4, .pointer (some ⟨b1, 0, none⟩)), (5, .pointer (some ⟨b2, 0, none⟩)), (6, .pointer (some ⟨b3, 0, none⟩))]) (fun p => [(b3, .cells (byA 32 0) 41 (0, 0)), (b2, .cells (byA 32 p.1.2) 41 (0, 0)), (b1, .cells (byA 32 r10) 41 (0, 0)), (bw, obE [w0, c1, r5, c3, c4] T)]) ⟨(0, r11), Nat.zero_le _, lr11, pr11⟩ (fun a w ha hw => ⟨ha.subS ⟨rfl, rfl, rfl, rfl, rfl, rfl, trivial⟩, hw⟩) ?_
    rintro ⟨⟨k12, r12⟩, hk12, lr12, pr12⟩
    dsimp only at hk12 lr12 pr12 ⊢
    refine HC.seq ?_
    refine HC.seq ?_
    refine HC.region ?_
    refine HL.val (Val.move rfl) (by decide) ?_
    by_cases hlt12 : k12 < 9
    · refine HL.val ((Val.lss rfl rfl).as (congrArg Value.bool ((lssN k12 9).trans (decide_eq_true hlt12)))) (by decide) ?_
      refine HL.nil ?_
      refine HQ.next ?_
      refine HC.yes rfl ?_
      refine HC.skip ?_
      refine HQ.next ?_
      refine HC.seq ?_
      refine HC.block ?_
      refine HC.region ?_
      refine HL.val (Val.move rfl) (by decide) ?_
      refine HL.val (Val.move rfl) (by decide) ?_
      refine HL.call (f := 47) en47 rfl (sqrH (dst1 1 rfl (.inl hb2)) (elh1 1 rfl) lr12) (by decide) ?_
      rintro r13 ⟨lr13, hr13⟩
      simp only [List.set_cons_zero, List.set_cons_succ]
      refine HL.nil ?_
      refine HQ.blockNormal ?_
      refine HQ.next ?_
      refine HC.region ?_
      refine HL.val (Val.move rfl) (by decide) ?_
      refine HL.val ((Val.addI rfl rfl).as (congrArg (Value.int .i64) (wrap1 k12 (by omega)))) (by decide) ?_
      refine HL.val (Val.assign rfl) (by decide) ?_
      refine HL.nil ?_
      exact ⟨fun a w ha hw => ⟨⟨(k12 + 1, r13), by omega, lr13, PowIs.step _ _ hr13 pr12⟩, by dsimp only; omega, ha.subS ⟨rfl, rfl, rfl, rfl, rfl, rfl, trivial⟩, hw⟩⟩
    · refine HL.val ((Val.lss rfl rfl).as (congrArg Value.bool ((lssN k12 9).trans (decide_eq_false hlt12)))) (by decide) ?_
      refine HL.nil ?_
      refine HQ.next ?_
      refine HC.no rfl ?_
      refine HC.exit ?_
      obtain rfl : k12 = 9 := by omega
      have qr12 : PowIs c2 r12 1047552 := (show 2046 * 2 ^ 9 = 1047552 by decide) ▸ pr12
      refine HQ.thenExit ?_
      refine HQ.thenExit ?_
      refine HQ.blockExit ?_
      refine HQ.next ?_
      refine HC.seq ?_
      refine HC.region ?_
      refine HL.val (Val.move rfl) (by decide) ?_
      refine HL.val (Val.move rfl) (by decide) ?_
      refine HL.val (Val.move rfl) (by decide) ?_
      refine HL.call (f := 48) en48 rfl (mulH (dst1 1 rfl (.inl hb2)) (elh1 1 rfl) lr12 (elh1 2 rfl) lr10) (by decide) ?_
      rintro r13 ⟨lr13, hr13⟩
      simp only [List.set_cons_zero, List.set_cons_succ]
      have pr13 : PowIs c2 r13 1048575 := PowIs.mul 1047552 1023 1048575 hr13 qr12 pr10 (by decide)
      refine HL.nil ?_
      refine HQ.next ?_
      refine HC.seq ?_
      refine HC.region ?_
      refine HL.val (Val.move rfl) (by decide) ?_
      refine HL.val (Val.move rfl) (by decide) ?_
      refine HL.call (f := 47) en47 rfl (sqrH (dst1 0 rfl (.inl hb3)) (elh1 1 rfl) lr13) (by decide) ?_
      rintro r14 ⟨lr14, hr14⟩
      simp only [List.set_cons_zero]
      have pr14 : PowIs c2 r14 2097150 := PowIs.sqr 1048575 2097150 hr14 pr13 (by decide)
      refine HL.nil ?_
      refine HQ.next ?_
      refine HC.seq ?_
      refine HC.seq ?_
      refine HC.region ?_
      refine HL.val (Val.assign rfl) (by decide) ?_
      refine HL.nil ?_
      refine HQ.next ?_
      refine HC.block ?_
      refine HC.loop (ι := {p : Nat × Nat // p.1 ≤ 19 ∧ p.2 < 2 ^ 256 ∧ PowIs c2 p.2 (2097150 * 2 ^ p.1)}) (fun p => 19 - p.1.1) (fun p => [(9, .int .i64 (p.1.1 : Int)), (0, .pointer (some ⟨bw, 64, none⟩)), (1, .pointer (some ⟨bw, 64, none⟩)), (4, .pointer (some ⟨b1, 0, none⟩)), (5, .pointer (some ⟨b2, 0, none⟩)), (6, .pointer (some ⟨b3, 0, none⟩))]) (fun p => [(b3, .cells (byA 32 p.1.2) 41 (0, 0)), (b2, .cells (byA 32 r13) 41 (0, 0)), (b1, .cells (byA 32 r10) 41 (0, 0)), (bw, obE [w0, c1, r5, c3, c4] T)]) ⟨(0, r14), Nat.zero_le _, lr14, pr14⟩ (fun a w ha hw => ⟨ha.subS ⟨rfl, rfl, rfl, rfl, rfl, rfl, trivial⟩, hw⟩) ?_
      rintro ⟨⟨k15, r15⟩, hk15, lr15, pr15⟩
      dsimp only at hk15 lr15 pr15 ⊢
      refine HC.seq ?_
      refine HC.seq ?_
      refine HC.region ?_
      refine HL.val (Val.move rfl) (by decide) ?_
      by_cases hlt15 : k15 < 19
      · refine HL.val ((Val.lss rfl rfl).as (congrArg Value.bool ((lssN k15 19).trans (decide_eq_true hlt15)))) (by decide) ?_
        refine HL.nil ?_
        refine HQ.next ?_
        refine HC.yes rfl ?_
        refine HC.skip ?_
        refine HQ.next ?_
        refine HC.seq ?_
        refine HC.block ?_
        refine HC.region ?_
        refine HL.val (Val.move rfl) (by decide) ?_
        refine HL.val (Val.move rfl) (by decide) ?_
        refine HL.call (f := 47) en47 rfl (sqrH (dst1 0 rfl (.inl hb3)) (elh1 0 rfl) lr15) (by decide) ?_
        rintro r16 ⟨lr16, hr16⟩
        simp only [List.set_cons_zero]
        refine HL.nil ?_
        refine HQ.blockNormal ?_
        refine HQ.next ?_
        refine HC.region ?_
        refine HL.val (Val.move rfl) (by decide) ?_
        refine HL.val ((Val.addI rfl rfl).as (congrArg (Value.int .i64) (wrap1 k15 (by omega)))) (by decide) ?_
        refine HL.val (Val.assign rfl) (by decide) ?_
        refine HL.nil ?_
        exact ⟨fun a w ha hw => ⟨⟨(k15 + 1, r16), by omega, lr16, PowIs.step _ _ hr16 pr15⟩, by dsimp only; omega, ha.subS ⟨rfl, rfl, rfl, rfl, rfl, rfl, trivial⟩, hw⟩⟩
      · refine HL.val ((Val.lss rfl rfl).as (congrArg Value.bool ((lssN k15 19).trans (decide_eq_false hlt15)))) (by decide) ?_
        refine HL.nil ?_
        refine HQ.next ?_
        refine HC.no rfl ?_
        refine HC.exit ?_
        obtain rfl : k15 = 19 := by omega
        have qr15 : PowIs c2 r15 1099510579200 := (show 2097150 * 2 ^ 19 = 1099510579200 by decide) ▸ pr15
        refine HQ.thenExit ?_
        refine HQ.thenExit ?_
        refine HQ.blockExit ?_
        refine HQ.next ?_
        refine HC.seq ?_
        refine HC.region ?_
        refine HL.val (Val.move rfl) (by decide) ?_
        refine HL.val (Val.move rfl) (by decide) ?_
        refine HL.val (Val.move rfl) (by decide) ?_
        refine HL.call (f := 48) en48 rfl (mulH (dst1 0 rfl (.inl hb3)) (elh1 0 rfl) lr15 (elh1 1 rfl) lr13) (by decide) ?_
        rintro r16 ⟨lr16, hr16⟩
        simp only [List.set_cons_zero]
        have pr16 : PowIs c2 r16 1099511627775 := PowIs.mul 1099510579200 1048575 1099511627775 hr16 qr15 pr13 (by decide)
        refine HL.nil ?_
        refine HQ.next ?_
        refine HC.seq ?_
        refine HC.seq ?_
        refine HC.region ?_
        refine HL.val (Val.assign rfl) (by decide) ?_
        refine HL.nil ?_
        refine HQ.next ?_
        refine HC.block ?_
        refine HC.loop (ι := {p : Nat × Nat // p.1 ≤ 10 ∧ p.2 < 2 ^ 256 ∧ PowIs c2 p.2 (1099511627775 * 2 ^ p.1)}) (fun p => 10 - p.1.1) (fun p => [(10, .int .i64 (p.1.1 : Int)), (0, .pointer (some ⟨bw, 64, none⟩)), (1, .pointer (some ⟨bw, 64, none⟩)), (4, .pointer (some ⟨b1, 0, none⟩)), (5, .pointer (some ⟨b2, 0, none⟩)), (6, .pointer (some ⟨b3, 0, none⟩))]) (fun p => [(b3, .cells (byA 32 p.1.2) 41 (0, 0)), (b2, .cells (byA 32 r13) 41 (0, 0)), (b1, .cells (byA 32 r10) 41 (0, 0)), (bw, obE [w0, c1, r5, c3, c4] T)]) ⟨(0, r16), Nat.zero_le _, lr16, pr16⟩ (fun a w ha hw => ⟨ha.subS ⟨rfl, rfl, rfl, rfl, rfl, rfl, trivial⟩, hw⟩) ?_
        rintro ⟨⟨k17, r17⟩, hk17, lr17, pr17⟩
        dsimp only at hk17 lr17 pr17 ⊢
        refine HC.seq ?_
        refine HC.seq ?_
        refine HC.region ?_
        refine HL.val (Val.move rfl) (by decide) ?_
        by_cases hlt17 : k17 < 10
        · refine HL.val ((Val.lss rfl rfl).as (congrArg Value.bool ((lssN k17 10).trans (decide_eq_true hlt17)))) (by decide) ?_
          refine HL.nil ?_
          refine HQ.next ?_
          refine HC.yes rfl ?_
          refine HC.skip ?_
          refine HQ.next ?_
          refine HC.seq ?_
          refine HC.block ?_
          refine HC.region ?_
          refine HL.val (Val.move rfl) (by decide) ?_
          refine HL.val (Val.move rfl) (by decide) ?_
          refine HL.call (f := 47) en47 rfl (sqrH (dst1 0 rfl (.inl hb3)) (elh1 0 rfl) lr17) (by decide) ?_
          rintro r18 ⟨lr18, hr18⟩
          simp only [List.set_cons_zero]
          refine HL.nil ?_
          refine HQ.blockNormal ?_
          refine HQ.next ?_
          refine HC.region ?_
          refine HL.val (Val.move rfl) (by decide) ?_
          refine HL.val ((Val.addI rfl rfl).as (congrArg (Value.int .i64) (wrap1 k17 (by omega)))) (by decide) ?_
          refine HL.val (Val.assign rfl) (by decide) ?_
          refine HL.nil ?_
          exact ⟨fun a w ha hw => ⟨⟨(k17 + 1, r18), by omega, lr18, PowIs.step _ _ hr18 pr17⟩, by dsimp only; omega, ha.subS ⟨rfl, rfl, rfl, rfl, rfl, rfl, trivial⟩, hw⟩⟩
        · refine HL.val ((Val.lss rfl rfl).as (congrArg Value.bool ((lssN k17 10).trans (decide_eq_false hlt17)))) (by decide) ?_
          refine HL.nil ?_
          refine HQ.next ?_
          refine HC.no rfl ?_
          refine HC.exit ?_
          obtain rfl : k17 = 10 := by omega
          have qr17 : PowIs c2 r17 1125899906841600 := (show 1099511627775 * 2 ^ 10 = 1125899906841600 by decide) ▸ pr17
          refine HQ.thenExit ?_
          refine HQ.thenExit ?_
          refine HQ.blockExit ?_
          refine HQ.next ?_
          refine HC.seq ?_
          refine HC.region ?_
          refine HL.val (Val.move rfl) (by decide) ?_
          refine HL.val (Val.move rfl) (by decide) ?_
          refine HL.val (Val.move rfl) (by decide) ?_
          refine HL.call (f := 48) en48 rfl (mulH (dst1 0 rfl (.inl hb3)) (elh1 0 rfl) lr17 (elh1 2 rfl) lr10) (by decide) ?_
          rintro r18 ⟨lr18, hr18⟩
          simp only [List.set_cons_zero]
          have pr18 : PowIs c2 r18 1125899906842623 := PowIs.mul 1125899906841600 1023 1125899906842623 hr18 qr17 pr10 (by decide)
          refine HL.nil ?_
          refine HQ.next ?_
          refine HC.seq ?_
          refine HC.region ?_
          refine HL.val (Val.move rfl) (by decide) ?_
          refine HL.val (Val.move rfl) (by decide) ?_
          refine HL.call (f := 47) en47 rfl (sqrH (dst1 2 rfl (.inl hb1)) (elh1 0 rfl) lr18) (by decide) ?_
          rintro r19 ⟨lr19, hr19⟩
          simp only [List.set_cons_zero, List.set_cons_succ]
          have pr19 : PowIs c2 r19 2251799813685246 := PowIs.sqr 1125899906842623 2251799813685246 hr19 pr18 (by decide)
          refine HL.nil ?_
          refine HQ.next ?_
          refine HC.seq ?_
          refine HC.seq ?_
          refine HC.region ?_
          refine HL.val (Val.assign rfl) (by decide) ?_
          refine HL.nil ?_
          refine HQ.next ?_
          refine HC.block ?_
          refine HC.loop (ι := {p : Nat × Nat // p.1 ≤ 49 ∧ p.2 < 2 ^ 256 ∧ PowIs c2 p.2 (2251799813685246 * 2 ^ p.1)}) (fun p => 49 - p.1.1) (fun p => [(11, .int .i64 (p.1.1 : Int)), (0, .pointer (some ⟨bw, 64, none⟩)), (1, .pointer (some ⟨bw, 64, none⟩)), (4, .pointer (some ⟨b1, 0, none⟩)), (5, .pointer (some ⟨b2, 0, none⟩)), (6, .pointer (some ⟨b3, 0, none⟩))]) (fun p => [(b3, .cells (byA 32 r18) 41 (0, 0)), (b2, .cells (byA 32 r13) 41 (0, 0)), (b1, .cells (byA 32 p.1.2) 41 (0, 0)), (bw, obE [w0, c1, r5, c3, c4] T)]) ⟨(0, r19), Nat.zero_le _, lr19, pr19⟩ (fun a w ha hw => ⟨ha.subS ⟨rfl, rfl, rfl, rfl, rfl, rfl, trivial⟩, hw⟩) ?_
          rintro ⟨⟨k20, r20⟩, hk20, lr20, pr20⟩
          dsimp only at hk20 lr20 pr20 ⊢
          refine HC.seq ?_
          refine HC.seq ?_
          refine HC.region ?_
          refine HL.val (Val.move rfl) (by decide) ?_
          by_cases hlt20 : k20 < 49
          · refine HL.val ((Val.lss rfl rfl).as (congrArg Value.bool ((lssN k20 49).trans (decide_eq_true hlt20)))) (by decide) ?_
            refine HL.nil ?_
            refine HQ.next ?_
            refine HC.yes rfl ?_
            refine HC.skip ?_
            refine HQ.next ?_
            refine HC.seq ?_
            refine HC.block ?_
            refine HC.region ?_
            refine HL.val (Val.move rfl) (by decide) ?_
            refine HL.val (Val.move rfl) (by decide) ?_
            refine HL.call (f := 47) en47 rfl (sqrH (dst1 2 rfl (.inl hb1)) (elh1 2 rfl) lr20) (by decide) ?_
            rintro r21 ⟨lr21, hr21⟩
            simp only [List.set_cons_zero, List.set_cons_succ]
            refine HL.nil ?_
            refine HQ.blockNormal ?_
            refine HQ.next ?_
            refine HC.region ?_
            refine HL.val (Val.move rfl) (by decide) ?_
            refine HL.val ((Val.addI rfl rfl).as (congrArg (Value.int .i64) (wrap1 k20 (by omega)))) (by decide) ?_
            refine HL.val (Val.assign rfl) (by decide) ?_
            refine HL.nil ?_
            exact ⟨fun a w ha hw => ⟨⟨(k20 + 1, r21), by omega, lr21, PowIs.step _ _ hr21 pr20⟩, by dsimp only; omega, ha.subS ⟨rfl, rfl, rfl, rfl, rfl, rfl, trivial⟩, hw⟩⟩
          · refine HL.val ((Val.lss rfl rfl).as (congrArg Value.bool ((lssN k20 49).trans (decide_eq_false hlt20)))) (by decide) ?_
            refine HL.nil ?_
            refine HQ.next ?_
            refine HC.no rfl ?_
            refine HC.exit ?_
            obtain rfl : k20 = 49 := by omega
            have qr20 : PowIs c2 r20 1267650600228228275596796362752 := (show 2251799813685246 * 2 ^ 49 = 1267650600228228275596796362752 by decide) ▸ pr20
            refine HQ.thenExit ?_
            refine HQ.thenExit ?_
            refine HQ.blockExit ?_
            refine HQ.next ?_
            refine HC.seq ?_
            refine HC.region ?_
            refine HL.val (Val.move rfl) (by decide) ?_
            refine HL.val (Val.move rfl) (by decide) ?_
            refine HL.val (Val.move rfl) (by decide) ?_
            refine HL.call (f := 48) en48 rfl (mulH (dst1 2 rfl (.inl hb1)) (elh1 2 rfl) lr20 (elh1 0 rfl) lr18) (by decide) ?_
            rintro r21 ⟨lr21, hr21⟩
            simp only [List.set_cons_zero, List.set_cons_succ]
            have pr21 : PowIs c2 r21 1267650600228229401496703205375 := PowIs.mul 1267650600228228275596796362752 1125899906842623 1267650600228229401496703205375 hr21 qr20 pr18 (by decide)
            refine HL.nil ?_
            refine HQ.next ?_
            refine HC.seq ?_
            refine HC.region ?_
            refine HL.val (Val.move rfl) (by decide) ?_
            refine HL.val (Val.move rfl) (by decide) ?_
            refine HL.call (f := 47) en47 rfl (sqrH (dst1 1 rfl (.inl hb2)) (elh1 2 rfl) lr21) (by decide) ?_
            rintro r22 ⟨lr22, hr22⟩
            simp only [List.set_cons_zero, List.set_cons_succ]
            have pr22 : PowIs c2 r22 2535301200456458802993406410750 := PowIs.sqr 1267650600228229401496703205375 2535301200456458802993406410750 hr22 pr21 (by decide)
            refine HL.nil ?_
            refine HQ.next ?_
            refine HC.seq ?_
            refine HC.seq ?_
            refine HC.region ?_
            refine HL.val (Val.assign rfl) (by decide) ?_
            refine HL.nil ?_
            refine HQ.next ?_
            refine HC.block ?_
            refine HC.loop (ι := {p : Nat × Nat // p.1 ≤ 99 ∧ p.2 < 2 ^ 256 ∧ PowIs c2 p.2 (2535301200456458802993406410750 * 2 ^ p.1)}) (fun p => 99 - p.1.1) (fun p => [(12, .int .i64 (p.1.1 : Int)), (0, .pointer (some ⟨bw, 64, none⟩)), (1, .pointer (some ⟨bw, 64, none⟩)), (4, .pointer (some ⟨b1, 0, none⟩)), (5, .pointer (some ⟨b2, 0, none⟩)), (6, .pointer (some ⟨b3, 0, none⟩))]) (fun p => [(b3, .cells (byA 32 r18) 41 (0, 0)), (b2, .cells (byA 32 p.1.2) 41 (0, 0)), (b1, .cells (byA 32 r21) 41 (0, 0)), (bw, obE [w0, c1, r5, c3, c4] T)]) ⟨(0, r22), Nat.zero_le _, lr22, pr22⟩ (fun a w ha hw => ⟨ha.subS ⟨rfl, rfl, rfl, rfl, rfl, rfl, trivial⟩, hw⟩) ?_
            rintro ⟨⟨k23, r23⟩, hk23, lr23, pr23⟩
            dsimp only at hk23 lr23 pr23 ⊢
            refine HC.seq ?_
            refine HC.seq ?_
            refine HC.region ?_
            refine HL.val (Val.move rfl) (by decide) ?_
            by_cases hlt23 : k23 < 99
            · refine HL.val ((Val.lss rfl rfl).as (congrArg Value.bool ((lssN k23 99).trans (decide_eq_true hlt23)))) (by decide) ?_
              refine HL.nil ?_
              refine HQ.next ?_
              refine HC.yes rfl ?_
              refine HC.skip ?_
              refine HQ.next ?_
              refine HC.seq ?_
              refine HC.block ?_
              refine HC.region ?_
              refine HL.val (Val.move rfl) (by decide) ?_
              refine HL.val (Val.move rfl) (by decide) ?_
              refine HL.call (f := 47) en47 rfl (sqrH (dst1 1 rfl (.inl hb2)) (elh1 1 rfl) lr23) (by decide) ?_
              rintro r24 ⟨lr24, hr24⟩
              simp only [List.set_cons_zero, List.set_cons_succ]
              refine HL.nil ?_
              refine HQ.blockNormal ?_
              refine HQ.next ?_
              refine HC.region ?_
              refine HL.val (Val.move rfl) (by decide) ?_
              refine HL.val ((Val.addI rfl rfl).as (congrArg (Value.int .i64) (wrap1 k23 (by omega)))) (by decide) ?_
              refine HL.val (Val.assign rfl) (by decide) ?_
              refine HL.nil ?_
              exact ⟨fun a w ha hw => ⟨⟨(k23 + 1, r24), by omega, lr24, PowIs.step _ _ hr24 pr23⟩, by dsimp only; omega, ha.subS ⟨rfl, rfl, rfl, rfl, rfl, rfl, trivial⟩, hw⟩⟩
            · refine HL.val ((Val.lss rfl rfl).as (congrArg Value.bool ((lssN k23 99).trans (decide_eq_false hlt23)))) (by decide) ?_
              refine HL.nil ?_
              refine HQ.next ?_
              refine HC.no rfl ?_
              refine HC.exit ?_
              obtain rfl : k23 = 99 := by omega
              have qr23 : PowIs c2 r23 1606938044258990275541962092339894951921974764381296132096000 := (show 2535301200456458802993406410750 * 2 ^ 99 = 1606938044258990275541962092339894951921974764381296132096000 by decide) ▸ pr23
              refine HQ.thenExit ?_
              refine HQ.thenExit ?_
              refine HQ.blockExit ?_
              refine HQ.next ?_
              refine HC.seq ?_
              refine HC.region ?_
              refine HL.val (Val.move rfl) (by decide) ?_
              refine HL.val (Val.move rfl) (by decide) ?_
              refine HL.val (Val.move rfl) (by decide) ?_
              refine HL.call (f := 48) en48 rfl (mulH (dst1 1 rfl (.inl hb2)) (elh1 1 rfl) lr23 (elh1 2 rfl) lr21) (by decide) ?_
              rintro r24 ⟨lr24, hr24⟩
              simp only [List.set_cons_zero, List.set_cons_succ]
              have pr24 : PowIs c2 r24 1606938044258990275541962092341162602522202993782792835301375 := PowIs.mul 1606938044258990275541962092339894951921974764381296132096000 1267650600228229401496703205375 1606938044258990275541962092341162602522202993782792835301375 hr24 qr23 pr21 (by decide)
              refine HL.nil ?_
              refine HQ.next ?_
              refine HC.seq ?_
              refine HC.seq ?_
              refine HC.region ?_
              refine HL.val (Val.assign rfl) (by decide) ?_
              refine HL.nil ?_
              refine HQ.next ?_
              refine HC.block ?_
              refine HC.loop (ι := {p : Nat × Nat // p.1 ≤ 50 ∧ p.2 < 2 ^ 256 ∧ PowIs c2 p.2 (1606938044258990275541962092341162602522202993782792835301375 * 2 ^ p.1)}) (fun p => 50 - p.1.1) (fun p => [(13, .int .i64 (p.1.1 : Int)), (0, .pointer (some ⟨bw, 64, none⟩)), (1, .pointer (some ⟨bw, 64, none⟩)), (4, .pointer (some ⟨b1, 0, none⟩)), (5, .pointer (some ⟨b2, 0, none⟩)), (6, .pointer (some ⟨b3, 0, none⟩))]) (fun p => [(b3, .cells (byA 32 r18) 41 (0, 0)), (b2, .cells (byA 32 p.1.2) 41 (0, 0)), (b1, .cells (byA 32 r21) 41 (0, 0)), (bw, obE [w0, c1, r5, c3, c4] T)]) ⟨(0, r24), Nat.zero_le _, lr24, pr24⟩ (fun a w ha hw => ⟨ha.subS ⟨rfl, rfl, rfl, rfl, rfl, rfl, trivial⟩, hw⟩) ?_
              rintro ⟨⟨k25, r25⟩, hk25, lr25, pr25⟩
              dsimp only at hk25 lr25 pr25 ⊢
              refine HC.seq ?_
              refine HC.seq ?_
              refine HC.region ?_
              refine HL.val (Val.move rfl) (by decide) ?_
              by_cases hlt25 : k25 < 50
              · refine HL.val ((Val.lss rfl rfl).as (congrArg Value.bool ((lssN k25 50).trans (decide_eq_true hlt25)))) (by decide) ?_
                refine HL.nil ?_
                refine HQ.next ?_
                refine HC.yes rfl ?_
                refine HC.skip ?_
                refine HQ.next ?_
                refine HC.seq ?_
                refine HC.block ?_
                refine HC.region ?_
                refine HL.val (Val.move rfl) (by decide) ?_
                refine HL.val (Val.move rfl) (by decide) ?_
                refine HL.call (f := 47) en47 rfl (sqrH (dst1 1 rfl (.inl hb2)) (elh1 1 rfl) lr25) (by decide) ?_
                rintro r26 ⟨lr26, hr26⟩
                simp only [List.set_cons_zero, List.set_cons_succ]
                refine HL.nil ?_
                refine HQ.blockNormal ?_
                refine HQ.next ?_
                refine HC.region ?_
                refine HL.val (Val.move rfl) (by decide) ?_
                refine HL.val ((Val.addI rfl rfl).as (congrArg (Value.int .i64) (wrap1 k25 (by omega)))) (by decide) ?_
                refine HL.val (Val.assign rfl) (by decide) ?_
                refine HL.nil ?_
                exact ⟨fun a w ha hw => ⟨⟨(k25 + 1, r26), by omega, lr26, PowIs.step _ _ hr26 pr25⟩, by dsimp only; omega, ha.subS ⟨rfl, rfl, rfl, rfl, rfl, rfl, trivial⟩, hw⟩⟩
              · refine HL.val ((Val.lss rfl rfl).as (congrArg Value.bool ((lssN k25 50).trans (decide_eq_false hlt25)))) (by decide) ?_
                refine HL.nil ?_
                refine HQ.next ?_
                refine HC.no rfl ?_
                refine HC.exit ?_
                obtain rfl : k25 = 50 := by omega
                have qr25 : PowIs c2 r25 1809251394333065553493296640760748560207343510400633813116523624223735808000 := (show 1606938044258990275541962092341162602522202993782792835301375 * 2 ^ 50 = 1809251394333065553493296640760748560207343510400633813116523624223735808000 by decide) ▸ pr25
                refine HQ.thenExit ?_
                refine HQ.thenExit ?_
                refine HQ.blockExit ?_
                refine HQ.next ?_
                refine HC.seq ?_
                refine HC.region ?_
                refine HL.val (Val.move rfl) (by decide) ?_
                refine HL.val (Val.move rfl) (by decide) ?_
                refine HL.val (Val.move rfl) (by decide) ?_
                refine HL.call (f := 48) en48 rfl (mulH (dst1 1 rfl (.inl hb2)) (elh1 1 rfl) lr25 (elh1 0 rfl) lr18) (by decide) ?_
                rintro r26 ⟨lr26, hr26⟩
                simp only [List.set_cons_zero, List.set_cons_succ]
                have pr26 : PowIs c2 r26 1809251394333065553493296640760748560207343510400633813116524750123642650623 := PowIs.mul 1809251394333065553493296640760748560207343510400633813116523624223735808000 1125899906842623 1809251394333065553493296640760748560207343510400633813116524750123642650623 hr26 qr25 pr18 (by decide)
                refine HL.nil ?_
                refine HQ.next ?_
                refine HC.seq ?_
                refine HC.seq ?_
                refine HC.region ?_
                refine HL.val (Val.assign rfl) (by decide) ?_
                refine HL.nil ?_
                refine HQ.next ?_
                refine HC.block ?_
                refine HC.loop (ι := {p : Nat × Nat // p.1 ≤ 5 ∧ p.2 < 2 ^ 256 ∧ PowIs c2 p.2 (1809251394333065553493296640760748560207343510400633813116524750123642650623 * 2 ^ p.1)}) (fun p => 5 - p.1.1) (fun p => [(14, .int .i64 (p.1.1 : Int)), (0, .pointer (some ⟨bw, 64, none⟩)), (1, .pointer (some ⟨bw, 64, none⟩)), (4, .pointer (some ⟨b1, 0, none⟩)), (5, .pointer (some ⟨b2, 0, none⟩)), (6, .pointer (some ⟨b3, 0, none⟩))]) (fun p => [(b3, .cells (byA 32 r18) 41 (0, 0)), (b2, .cells (byA 32 p.1.2) 41 (0, 0)), (b1, .cells (byA 32 r21) 41 (0, 0)), (bw, obE [w0, c1, r5, c3, c4] T)]) ⟨(0, r26), Nat.zero_le _, lr26, pr26⟩ (fun a w ha hw => ⟨ha.subS ⟨rfl, rfl, rfl, rfl, rfl, rfl, trivial⟩, hw⟩) ?_
                rintro ⟨⟨k27, r27⟩, hk27, lr27, pr27⟩
                dsimp only at hk27 lr27 pr27 ⊢
                refine HC.seq ?_
                refine HC.seq ?_
                refine HC.region ?_
                refine HL.val (Val.move rfl) (by decide) ?_
                by_cases hlt27 : k27 < 5
                · refine HL.val ((Val.lss rfl rfl).as (congrArg Value.bool ((lssN k27 5).trans (decide_eq_true hlt27)))) (by decide) ?_
                  refine HL.nil ?_
                  refine HQ.next ?_
                  refine HC.yes rfl ?_
                  refine HC.skip ?_
                  refine HQ.next ?_
                  refine HC.seq ?_
                  refine HC.block ?_
                  refine HC.region ?_
                  refine HL.val (Val.move rfl) (by decide) ?_
                  refine HL.val (Val.move rfl) (by decide) ?_
                  refine HL.call (f := 47) en47 rfl (sqrH (dst1 1 rfl (.inl hb2)) (elh1 1 rfl) lr27) (by decide) ?_
                  rintro r28 ⟨lr28, hr28⟩
                  simp only [List.set_cons_zero, List.set_cons_succ]
                  refine HL.nil ?_
                  refine HQ.blockNormal ?_
                  refine HQ.next ?_
                  refine HC.region ?_
                  refine HL.val (Val.move rfl) (by decide) ?_
                  refine HL.val ((Val.addI rfl rfl).as (congrArg (Value.int .i64) (wrap1 k27 (by omega)))) (by decide) ?_
                  refine HL.val (Val.assign rfl) (by decide) ?_
                  refine HL.nil ?_
                  exact ⟨fun a w ha hw => ⟨⟨(k27 + 1, r28), by omega, lr28, PowIs.step _ _ hr28 pr27⟩, by dsimp only; omega, ha.subS ⟨rfl, rfl, rfl, rfl, rfl, rfl, trivial⟩, hw⟩⟩
                · refine HL.val ((Val.lss rfl rfl).as (congrArg Value.bool ((lssN k27 5).trans (decide_eq_false hlt27)))) (by decide) ?_
                  refine HL.nil ?_
                  refine HQ.next ?_
                  refine HC.no rfl ?_
                  refine HC.exit ?_
                  obtain rfl : k27 = 5 := by omega
                  have qr27 : PowIs c2 r27 57896044618658097711785492504343953926634992332820282019728792003956564819936 := pr27
                  refine HQ.thenExit ?_
                  refine HQ.thenExit ?_
                  refine HQ.blockExit ?_
                  refine HQ.next ?_
                  refine HC.region ?_
                  refine HL.val (Val.move rfl) (by decide) ?_
                  refine HL.val (Val.move rfl) (by decide) ?_
                  refine HL.val (Val.move rfl) (by decide) ?_
                  refine HL.call (f := 48) en48 rfl (mulH (dst5 3 2 rfl (show 2 < 5 from by decide) (ownB bw)) (elh5 3 2 rfl rfl) lr5 (elh1 1 rfl) lr27) (by decide) ?_
                  rintro r28 ⟨lr28, hr28⟩
                  simp only [List.set_cons_zero, List.set_cons_succ]
                  have pr28 : PowIs c2 r28 57896044618658097711785492504343953926634992332820282019728792003956564819947 := PowIs.mul 11 57896044618658097711785492504343953926634992332820282019728792003956564819936 57896044618658097711785492504343953926634992332820282019728792003956564819947 hr28 pr5 qr27 (by decide)
                  refine HL.nil ?_
                  exact HQ.end0 rfl (fun w hw => ⟨r28, ⟨lr28, pr28⟩, rfl, hw.pick [3] (by simp)⟩)
theorem fpInv5H (i : Nat) {D : Nat → Bool} {u0 : World} {η : List (Nat × Obj)} {bw T w0 c1 c2 c3 c4 : Nat} (hi : η[i]? = some (bw, obE [w0, c1, c2, c3, c4] T)) (hD : u0.heap.size ≤ bw ∨ D bw = true) (l2 : c2 < 2 ^ 256) :
    ∀ w, Hold D u0 η w → Calls Tryd.prog 75 #[.pointer (some ⟨bw, 64, none⟩), .pointer (some ⟨bw, 64, none⟩)] w fun e w' => ∃ r, (r < 2 ^ 256 ∧ PowIs c2 r 57896044618658097711785492504343953926634992332820282019728792003956564819947) ∧ e = .returned (.tuple #[]) ∧ Hold D u0 (η.set i (bw, obE [w0, c1, r, c3, c4] T)) w' := fun _ hw =>
  (fpInv5 (hw.at hi) l2).mono fun _ _ ⟨r, hr, he, hh⟩ => ⟨r, hr, he, hw.lift1 hi hD hh (hh.at (i := 0) rfl)⟩

set_option maxRecDepth 100000 in
theorem fpToBytes5 {bs bw Ts T w0 c1 c2 c3 c4 : Nat} {cs : Array Value} {w : World} (h0 : w.heap[bs]? = some (.cells cs Ts (0, 0))) (hcs : cs.size = 32) (h1 : w.heap[bw]? = some (obE [w0, c1, c2, c3, c4] T)) (hn : bs ≠ bw) (l1 : c1 < 2 ^ 256) :
    Calls Tryd.prog 76 #[.slice (some ⟨bs, 0, none⟩) 32 32, .pointer (some ⟨bw, 32, none⟩)] w fun e w' => e = .returned .nilIface ∧ Hold (fun k => k == bs || k == bw) w [(bs, .cells (byA 32 (c1 % p25)) Ts (0, 0)), (bw, obE [w0, c1 % p25, c2, c3, c4] T)] w' := by
  refine calls_H (args := [.slice (some ⟨bs, 0, none⟩) 32 32, .pointer (some ⟨bw, 32, none⟩)]) (fun k => k == bs || k == bw) [(bs, .cells cs Ts (0, 0)), (bw, obE [w0, c1, c2, c3, c4] T)] Tryd.func76 rfl (m := 16) rfl rfl (hold_two' h0 h1 hn) ?_
  refine HC.seq ?_
  refine HC.region ?_
  refine HL.val (Val.assign rfl) (by decide) ?_
  refine HL.nil ?_
  refine HQ.next ?_
  refine HC.seq ?_
  refine HC.seq ?_
  refine HC.region ?_
  refine HL.val (Val.move rfl) (by decide) ?_
  refine HL.val (Val.lenS rfl rfl Tryd.underlying66) (by decide) ?_
  refine HL.val (Val.neqI rfl rfl) (by decide) ?_
  refine HL.nil ?_
  refine HQ.next ?_
  refine HC.no rfl ?_
  refine HC.skip ?_
  refine HQ.next ?_
  refine HC.seq ?_
  refine HC.region ?_
  refine HL.val (Val.move rfl) (by decide) ?_
  refine HL.call (f := 50) en50 rfl (modpH (dst5 1 1 rfl (show 1 < 5 from by decide) (.inr (by simp))) (elh5 1 1 rfl rfl) l1) (by decide) ?_
  rintro _ ⟨_, rfl⟩
  simp only [List.set_cons_zero, List.set_cons_succ]
  refine HL.nil ?_
  refine HQ.next ?_
  refine HC.seq ?_
  refine HC.region ?_
  refine HL.val (Val.move rfl) (by decide) ?_
  refine HL.val (Val.move rfl) (by decide) ?_
  refine HL.val (Val.nilCheck rfl) (by decide) ?_
  refine HL.val (Val.sliceAll (s := 1) rfl Tryd.underlying41 (by kernel_rfl)) (by decide) ?_
  refine HL.copyAll 0 (byA 32 ((c1 % p25))) rfl rfl Tryd.underlying66 (by kernel_rfl) rfl hcs (byA_size _ _) (fun w hw j v hj => cell_part (q := 32) (ps := byA 32 ((c1 % p25))) (hw.at (i := 1) rfl) (elA_get 1 rfl) j v hj) (byL_oneA _ _) (.inr (by simp)) (by decide) ?_
  simp only [List.set_cons_zero]
  refine HL.nil ?_
  refine HQ.next ?_
  refine HC.seq ?_
  refine HC.region ?_
  refine HL.val (Val.assign rfl) (by decide) ?_
  refine HL.nil ?_
  refine HQ.next ?_
  refine HC.ret ?_
  exact HQ.ret1 rfl rfl (fun w hw => ⟨rfl, hw⟩)
theorem fpToBytes5H (i j : Nat) {D : Nat → Bool} {u0 : World} {η : List (Nat × Obj)} {bs bw Ts T w0 c1 c2 c3 c4 : Nat} {cs : Array Value} (hi : η[i]? = some (bs, .cells cs Ts (0, 0))) (hj : η[j]? = some (bw, obE [w0, c1, c2, c3, c4] T)) (hcs : cs.size = 32) (hn : i ≠ j) (hD : u0.heap.size ≤ bs ∨ D bs = true) (hE : u0.heap.size ≤ bw ∨ D bw = true) (l1 : c1 < 2 ^ 256) :
    ∀ w, Hold D u0 η w → Calls Tryd.prog 76 #[.slice (some ⟨bs, 0, none⟩) 32 32, .pointer (some ⟨bw, 32, none⟩)] w fun e w' => e = .returned .nilIface ∧ Hold D u0 ((η.set i (bs, .cells (byA 32 (c1 % p25)) Ts (0, 0))).set j (bw, obE [w0, c1 % p25, c2, c3, c4] T)) w' := fun w hw =>
  (fpToBytes5 (hw.at hi) hcs (hw.at hj) (nd_ne3 hw hi hj hn) l1).mono fun e w' ⟨he, hh⟩ => ⟨he, hw.put2 hi hj hn hD hE hh.sn.os hh.sn.tape hh.sn.output hh.sn.size (fun k hk h1 h2 => hh.sn.block k hk (by simp [h1, h2])) (hh.at (i := 0) rfl) (hh.at (i := 1) rfl) rfl⟩

theorem p25_2 : p25 - 2 = 57896044618658097711785492504343953926634992332820282019728792003956564819947 := by decide +kernel
theorem aff_val {r1 r2 i p : Nat} (hi : PowIs r2 i 57896044618658097711785492504343953926634992332820282019728792003956564819947) (hp : p % p25 = r1 * i % p25) : p % p25 = r1 * powN r2 (p25 - 2) % p25 := by
  unfold PowIs at hi
  rw [hp, powN_eq, p25_2, ← hi, Nat.mul_mod_mod]
set_option maxRecDepth 100000 in
theorem toAffine_any {bk bw Tk T w0 c1 c2 c3 c4 : Nat} {cs : Array Value} {w : World} (h0 : w.heap[bk]? = some (.cells cs Tk (0, 0))) (hcs : cs.size = 32) (h1 : w.heap[bw]? = some (obE [w0, c1, c2, c3, c4] T)) (hn : bk ≠ bw) (l1 : c1 < 2 ^ 256) (l2 : c2 < 2 ^ 256) :
    Calls Tryd.prog 66 #[.pointer (some ⟨bk, 0, none⟩), .pointer (some ⟨bw, 32, none⟩), .pointer (some ⟨bw, 64, none⟩)] w fun e w' => e = .returned (.tuple #[]) ∧ Hold (fun k => k == bk || k == bw) w [(bk, .cells (byA 32 (c1 * powN c2 (p25 - 2) % p25)) Tk (0, 0))] w' := by
  refine calls_H (args := [.pointer (some ⟨bk, 0, none⟩), .pointer (some ⟨bw, 32, none⟩), .pointer (some ⟨bw, 64, none⟩)]) (fun k => k == bk || k == bw) [(bk, .cells cs Tk (0, 0)), (bw, obE [w0, c1, c2, c3, c4] T)] Tryd.func66 rfl (m := 18) rfl rfl (hold_two' h0 h1 hn) ?_
  refine HC.seq ?_
  refine HC.region ?_
  refine HL.val (Val.move rfl) (by decide) ?_
  refine HL.val (Val.move rfl) (by decide) ?_
  refine HL.call (f := 75) en75 rfl (fpInv5H 1 rfl (.inr (by simp)) l2) (by decide) ?_
  rintro r1 ⟨lr1, hr1⟩
  simp only [List.set_cons_zero, List.set_cons_succ]
  refine HL.nil ?_
  refine HQ.next ?_
  refine HC.seq ?_
  refine HC.region ?_
  refine HL.val (Val.move rfl) (by decide) ?_
  refine HL.val (Val.move rfl) (by decide) ?_
  refine HL.val (Val.move rfl) (by decide) ?_
  refine HL.call (f := 48) en48 rfl (mulH (dst5 1 1 rfl (show 1 < 5 from by decide) (.inr (by simp))) (elh5 1 1 rfl rfl) l1 (elh5 1 2 rfl rfl) lr1) (by decide) ?_
  rintro r2 ⟨lr2, hr2⟩
  simp only [List.set_cons_zero, List.set_cons_succ]
  refine HL.nil ?_
  refine HQ.next ?_
  refine HC.region ?_
  refine HL.val (Val.move rfl) (by decide) ?_
  refine HL.val (Val.nilCheck rfl) (by decide) ?_
  refine HL.val (Val.sliceAll (s := 1) rfl Tryd.underlying22 (by kernel_rfl)) (by decide) ?_
  refine HL.val (Val.move rfl) (by decide) ?_
  refine HL.callD en76 rfl (fpToBytes5H 0 1 rfl rfl hcs (by decide) (.inr (by simp)) (.inr (by simp)) lr2) (by decide) ?_
  simp only [List.set_cons_zero, List.set_cons_succ]
  refine HL.nil ?_
  rw [aff_val hr1 hr2] ; exact HQ.end0 rfl (fun w hw => ⟨rfl, hw.pick [0] (by simp)⟩)

theorem toAffineH (i j : Nat) {D : Nat → Bool} {u0 w : World} {η : List (Nat × Obj)} {bk bw Tk T w0 c1 c2 c3 c4 : Nat} {cs : Array Value} (hi : η[i]? = some (bk, .cells cs Tk (0, 0))) (hcs : cs.size = 32) (hj : η[j]? = some (bw, obE [w0, c1, c2, c3, c4] T)) (hn : i ≠ j) (hD : u0.heap.size ≤ bk ∨ D bk = true) (hE : u0.heap.size ≤ bw ∨ D bw = true) (l1 : c1 < 2 ^ 256) (l2 : c2 < 2 ^ 256) (hw : Hold D u0 η w) :
    Calls Tryd.prog 66 #[.pointer (some ⟨bk, 0, none⟩), .pointer (some ⟨bw, 32, none⟩), .pointer (some ⟨bw, 64, none⟩)] w fun e w' => e = .returned (.tuple #[]) ∧ Hold D u0 [(bk, .cells (byA 32 (c1 * powN c2 (p25 - 2) % p25)) Tk (0, 0))] w' :=
  (toAffine_any (hw.at hi) hcs (hw.at hj) (nd_ne3 hw hi hj hn) l1 l2).mono fun _ w' ⟨he, hh⟩ => ⟨he, ⟨hh.sn.os.trans hw.sn.os, hh.sn.tape.trans hw.sn.tape, hh.sn.output.trans hw.sn.output, Nat.le_trans hw.sn.size hh.sn.size, fun k hk hd => by
    have e1 : k ≠ bk := fun e => by
      subst e
      rcases hD with h | h
      · omega
      · rw [h] at hd; cases hd
    have e2 : k ≠ bw := fun e => by
      subst e
      rcases hE with h | h
      · omega
      · rw [h] at hd; cases hd
    exact (hh.sn.block k (Nat.lt_of_lt_of_le hk hw.sn.size) (by simp [e1, e2])).trans (hw.sn.block k hk hd)⟩, hh.held, hh.nd⟩
/-- What the program's ladder keeps. -/
structure LR (u K j a b c d : Nat) : Prop where
  l1 : a < 2 ^ 256
  l2 : b < 2 ^ 256
  l3 : c < 2 ^ 256
  l4 : d < 2 ^ 256
  e1 : a % p25 = (ldr u K j).x2 % p25
  e2 : b % p25 = (ldr u K j).z2 % p25
  e3 : c % p25 = (ldr u K j).x3 % p25
  e4 : d % p25 = (ldr u K j).z3 % p25
theorem lr_next {u K q U a b c d x z v y m : Nat} (hq : q < 255) (hU : U % p25 = u % p25) (h : LR u K (254 - q) a b c d) (hm : m = bN (Bool.xor (ldr u K (254 - q)).last (K.testBit q))) (hs : StepR m U a b c d x z v y) : LR u K (255 - q) x z v y := by
  obtain ⟨g1, g2, g3, g4⟩ := ldr_step hq hU h.e1 h.e2 h.e3 h.e4 (m := m) (by rw [hm, Bool.xor_comm])
  refine ⟨hs.l1, hs.l2, hs.l3, hs.l4, ?_, ?_, ?_, ?_⟩
  · rw [← g1, ← hs.e1, Nat.mod_mod]
  · rw [← g2, ← hs.e2, Nat.mod_mod]
  · rw [← g3, ← hs.e3, Nat.mod_mod]
  · rw [← g4, ← hs.e4, Nat.mod_mod]
theorem lr_end {u K a b c d : Nat} (h : LR u K 255 a b c d) : a * powN b (p25 - 2) % p25 = ladV u K := by
  unfold ladV
  rw [powN_eq, powN_eq, Nat.mul_mod, h.e1, Nat.pow_mod, h.e2, ← Nat.pow_mod, ← Nat.mul_mod]
theorem byte_bit (K q : Nat) : K / 256 ^ (q / 8) % 256 / 2 ^ (q % 8) % 2 = bN (K.testBit q) := by
  rw [← bit_bN]
  have hm : q % 8 < 8 := Nat.mod_lt _ (by decide)
  have e1 : (256 : Nat) = 2 ^ (q % 8) * 2 ^ (8 - q % 8) := by rw [← Nat.pow_add, show q % 8 + (8 - q % 8) = 8 by omega]
  have e2 : 2 ^ (8 - q % 8) = 2 * 2 ^ (7 - q % 8) := by rw [show 8 - q % 8 = (7 - q % 8) + 1 by omega, Nat.pow_succ, Nat.mul_comm]
  have e3 : 256 ^ (q / 8) * 2 ^ (q % 8) = 2 ^ q := by
    rw [show (256 : Nat) = 2 ^ 8 by decide, ← Nat.pow_mul, ← Nat.pow_add, Nat.div_add_mod]
  have e4 : ∀ X : Nat, X % 256 / 2 ^ (q % 8) % 2 = X / 2 ^ (q % 8) % 2 := fun X => by
    rw [e1, Nat.mod_mul_right_div_self, e2, Nat.mod_mul_right_mod]
  rw [e4, Nat.div_div_eq_div_mul, e3]
theorem and1_8 (x : Nat) (hx : x < 256) : bits .and .u8 (x : Int) 1 = ((x % 2 : Nat) : Int) := by
  have h := u8_and_nat x 1 hx (by decide)
  rw [Nat.and_one_is_mod] at h
  exact h
theorem wrapS (x : Nat) (h : x < 1000) : IntKind.u64.wrap (x : Int) = (x : Int) := by rw [IntKind.wrap_u64]; omega
set_option maxRecDepth 100000 in
theorem bz64 : Tryd.prog.built 64 [] = some (elA [0, 0, 0, 0, 0]) := by kernel_rfl

theorem lr_start {u K U : Nat} (lU : U < 2 ^ 256) (hU : U % p25 = u % p25) : LR u K (255 - 255) 1 0 U 1 := by
  rw [Nat.sub_self]
  refine ⟨by decide, by decide, lU, by decide, ?_, ?_, ?_, ?_⟩
  all_goals rw [ldr_0]
  exact hU
set_option maxRecDepth 100000 in
theorem ladder_any {bk bx Tk Tx K U u : Nat} {w : World} (h0 : w.heap[bk]? = some (.cells (byA 32 K) Tk (0, 0))) (h1 : w.heap[bx]? = some (.cells (byA 32 U) Tx (0, 0))) (hn : bk ≠ bx) (lU : U < 2 ^ 256) (hU : U % p25 = u % p25) :
    Calls Tryd.prog 56 #[.pointer (some ⟨bk, 0, none⟩), .pointer (some ⟨bx, 0, none⟩)] w fun e w' => e = .returned (.tuple #[]) ∧ Hold (fun k => k == bk) w [(bk, .cells (byA 32 (ladV u K)) Tk (0, 0))] w' := by
  refine calls_H (args := [.pointer (some ⟨bk, 0, none⟩), .pointer (some ⟨bx, 0, none⟩)]) (fun k => k == bk) [(bk, .cells (byA 32 K) Tk (0, 0)), (bx, .cells (byA 32 U) Tx (0, 0))] Tryd.func56 rfl (m := 50) rfl rfl (hold_two' h0 h1 hn) ?_
  refine HC.seq ?_
  refine HC.region ?_
  refine HL.val (Val.build rfl bz64) (by decide) ?_
  refine HL.new (New.alloc al64) (by decide) ?_
  intro b1 hb1
  refine HL.put 0 rfl (Put.row rfl rfl (sz64 _ _ _ _ _) (eqsz5 _ _ _ _ _ _ _ _ _ _) (elA_oneC _)) (.inl hb1) ?_
  simp only [List.set_cons_zero]
  refine HL.nil ?_
  refine HQ.next ?_
  refine HC.seq ?_
  refine HC.region ?_
  refine HL.val (Val.move rfl) (by decide) ?_
  refine HL.val (Val.nilCheck rfl) (by decide) ?_
  refine HL.val (Val.load_row rfl (fun w hw => hw.at (i := 2) rfl) Tryd.underlying41 rfl (sz41 _)) (by decide) ?_
  refine HL.val (Val.ixAddrQ 0 (i := 0) (m := 5) (s := 32) (e := 41) rfl rfl Tryd.underlying64 (by kernel_rfl) (by decide) (by decide)) (by decide) ?_
  refine HL.put 0 rfl (Put.mid (new := elA ([0, 0, 0, 0, 0].set 0 U)) rfl rfl (sz41 _) (leE 0 _ (show 0 < 5 from by decide)) (one32 _) (elA_set_size _ _ _) (elA_put _ 0 _ (show 0 < 5 from by decide))) (.inl hb1) ?_
  simp only [List.set_cons_zero]
  refine HL.nil ?_
  refine HQ.next ?_
  refine HC.seq ?_
  refine HC.region ?_
  refine HL.val (Val.ixAddrQ 32 (i := 1) (m := 5) (s := 32) (e := 41) rfl rfl Tryd.underlying64 (by kernel_rfl) (by decide) (by decide)) (by decide) ?_
  refine HL.call (f := 32) en32 rfl (setOneH (dst5 0 1 rfl (show 1 < 5 from by decide) (.inl hb1))) (by decide) ?_
  rintro _ ⟨_, rfl⟩
  simp only [List.set_cons_zero, List.set_cons_succ]
  refine HL.nil ?_
  refine HQ.next ?_
  refine HC.seq ?_
  refine HC.region ?_
  refine HL.val (Val.move rfl) (by decide) ?_
  refine HL.val (Val.nilCheck rfl) (by decide) ?_
  refine HL.val (Val.load_row rfl (fun w hw => hw.at (i := 2) rfl) Tryd.underlying41 rfl (sz41 _)) (by decide) ?_
  refine HL.val (Val.ixAddrQ 96 (i := 3) (m := 5) (s := 32) (e := 41) rfl rfl Tryd.underlying64 (by kernel_rfl) (by decide) (by decide)) (by decide) ?_
  refine HL.put 0 rfl (Put.mid (new := elA ([U, 1, 0, 0, 0].set 3 U)) rfl rfl (sz41 _) (leE 3 _ (show 3 < 5 from by decide)) (one32 _) (elA_set_size _ _ _) (elA_put _ 3 _ (show 3 < 5 from by decide))) (.inl hb1) ?_
  simp only [List.set_cons_zero, List.set_cons_succ]
  refine HL.nil ?_
  refine HQ.next ?_
  refine HC.seq ?_
  refine HC.region ?_
  refine HL.val (Val.ixAddrQ 128 (i := 4) (m := 5) (s := 32) (e := 41) rfl rfl Tryd.underlying64 (by kernel_rfl) (by decide) (by decide)) (by decide) ?_
  refine HL.call (f := 32) en32 rfl (setOneH (dst5 0 4 rfl (show 4 < 5 from by decide) (.inl hb1))) (by decide) ?_
  rintro _ ⟨_, rfl⟩
  simp only [List.set_cons_zero, List.set_cons_succ]
  refine HL.nil ?_
  refine HQ.next ?_
  refine HC.seq ?_
  refine HC.region ?_
  refine HL.val (Val.assign rfl) (by decide) ?_
  refine HL.nil ?_
  refine HQ.next ?_
  refine HC.seq ?_
  refine HC.seq ?_
  refine HC.region ?_
  refine HL.val (Val.assign rfl) (by decide) ?_
  refine HL.nil ?_
  refine HQ.next ?_
  refine HC.block ?_
  refine HC.loop (ι := {p : Nat × Nat × Nat × Nat × Nat // p.1 ≤ 255 ∧ LR u K (255 - p.1) p.2.1 p.2.2.1 p.2.2.2.1 p.2.2.2.2}) (fun p => p.1.1) (fun p => [(6, .int .i64 (idxI p.1.1)), (5, .int .u64 ((bN (ldr u K (255 - p.1.1)).last : Nat) : Int)), (0, .pointer (some ⟨bk, 0, none⟩)), (4, .pointer (some ⟨b1, 0, none⟩))]) (fun p => [(b1, obE [U, p.1.2.1, p.1.2.2.1, p.1.2.2.2.1, p.1.2.2.2.2] 64), (bk, .cells (byA 32 K) Tk (0, 0))]) ⟨(255, 1, 0, U, 1), Nat.le_refl _, lr_start lU hU⟩ (fun ac wc ha hw => ⟨by dsimp only; rw [Nat.sub_self, ldr_0, idx_last]; exact ha.subS ⟨rfl, rfl, rfl, rfl, trivial⟩, hw.pick [0, 1] (by simp)⟩) ?_
  rintro ⟨⟨q, a, b, c, d⟩, hq, hL⟩
  dsimp only at hq hL ⊢
  rcases (show q = 0 ∨ ∃ r, q = r + 1 ∧ r < 255 from by rcases q with _ | q; exact .inl rfl; exact .inr ⟨q, rfl, by omega⟩) with rfl | ⟨q, rfl, hm⟩
  · rw [idxI_0]
    rw [Nat.sub_zero] at hL
    refine HC.seq ?_
    refine HC.seq ?_
    refine HC.region ?_
    refine HL.val (Val.move rfl) (by decide) ?_
    refine HL.val ((Val.geq rfl rfl).as (v := .bool false) rfl) (by decide) ?_
    refine HL.nil ?_
    refine HQ.next ?_
    refine HC.no rfl ?_
    refine HC.exit ?_
    refine HQ.thenExit ?_
    refine HQ.thenExit ?_
    refine HQ.blockExit ?_
    refine HQ.next ?_
    refine HC.region ?_
    refine HL.val (Val.move rfl) (by decide) ?_
    refine HL.val (Val.ixAddrQ 32 (i := 1) (m := 5) (s := 32) (e := 41) rfl rfl Tryd.underlying64 (by kernel_rfl) (by decide) (by decide)) (by decide) ?_
    refine HL.val (Val.ixAddrQ 64 (i := 2) (m := 5) (s := 32) (e := 41) rfl rfl Tryd.underlying64 (by kernel_rfl) (by decide) (by decide)) (by decide) ?_
    refine HL.callD en66 rfl (fun w hw => toAffineH 1 0 rfl (byA_size _ _) rfl (by decide) (ownB bk) (.inl hb1) hL.l1 hL.l2 hw) (by decide) ?_
    refine HL.nil ?_
    rw [lr_end hL]
    exact HQ.end0 rfl (fun w hw => ⟨rfl, hw⟩)
  · rw [idxI_s, show 255 - (q + 1) = 254 - q by omega]
    rw [show 255 - (q + 1) = 254 - q by omega] at hL
    refine HC.seq ?_
    refine HC.seq ?_
    refine HC.region ?_
    refine HL.val (Val.move rfl) (by decide) ?_
    refine HL.val ((Val.geq rfl rfl).as (congrArg Value.bool (geqI q))) (by decide) ?_
    refine HL.nil ?_
    refine HQ.next ?_
    refine HC.yes rfl ?_
    refine HC.skip ?_
    refine HQ.next ?_
    refine HC.seq ?_
    refine HC.block ?_
    refine HC.seq ?_
    refine HC.region ?_
    refine HL.val (Val.move rfl) (by decide) ?_
    refine HL.val (Val.quoN q 8 rfl rfl rfl (by decide) (by omega)) (by decide) ?_
    refine HL.val (Val.assign rfl) (by decide) ?_
    refine HL.nil ?_
    refine HQ.next ?_
    refine HC.seq ?_
    refine HC.region ?_
    refine HL.val (Val.move rfl) (by decide) ?_
    refine HL.val (Val.remN q 8 rfl rfl rfl (by decide)) (by decide) ?_
    refine HL.val (Val.assign rfl) (by decide) ?_
    refine HL.nil ?_
    refine HQ.next ?_
    refine HC.seq ?_
    refine HC.region ?_
    refine HL.val (Val.move rfl) (by decide) ?_
    refine HL.val (Val.move rfl) (by decide) ?_
    refine HL.val (Val.nilCheck rfl) (by decide) ?_
    refine HL.val (Val.ixAddrQ (q / 8) (i := q / 8) (m := 32) (s := 1) (e := 5) rfl rfl Tryd.underlying47 (by kernel_rfl) (by omega) (by omega)) (by decide) ?_
    refine HL.val (Val.load_cell rfl (fun w hw => hw.at (i := 1) rfl) (byA_get (n := 32) (v := K) (show q / 8 < 32 by omega)) Tryd.underlying5 rfl) (by decide) ?_
    refine HL.val (Val.move rfl) (by decide) ?_
    refine HL.val ((Val.convI rfl rfl Tryd.underlying67).as (congrArg (Value.int .u64) (wrapS (q % 8) (by omega)))) (by decide) ?_
    refine HL.val ((Val.shrI rfl rfl (Int.natCast_nonneg _) (show ((q % 8 : Nat) : Int) ≤ 8 by omega)).as (congrArg (Value.int .u8) (shrNat (K / 256 ^ (q / 8) % 256) (q % 8)))) (by decide) ?_
    refine HL.val (((Val.andI rfl rfl).as (congrArg (Value.int .u8) (and1_8 ((K / 256 ^ (q / 8) % 256) / 2 ^ (q % 8)) (Nat.lt_of_le_of_lt (Nat.div_le_self _ _) (Nat.mod_lt _ (by decide)))))).as (congrArg (fun z : Nat => Value.int .u8 (z : Int)) (byte_bit K q))) (by decide) ?_
    refine HL.val ((Val.convI rfl rfl Tryd.underlying67).as (congrArg (Value.int .u64) (wrapS (bN (K.testBit q)) (by have := bN_le (K.testBit q); omega)))) (by decide) ?_
    refine HL.val (Val.assign rfl) (by decide) ?_
    refine HL.nil ?_
    refine HQ.next ?_
    refine HC.seq ?_
    refine HC.region ?_
    refine HL.val (Val.move rfl) (by decide) ?_
    refine HL.val (Val.move rfl) (by decide) ?_
    refine HL.val ((Val.xorI rfl rfl).as (congrArg (Value.int .u64) (xor_bN (ldr u K (254 - q)).last (K.testBit q)))) (by decide) ?_
    refine HL.call (f := 65) en65 rfl (lsH 0 rfl (.inl hb1) lU hL.l1 hL.l2 hL.l3 hL.l4 (bN_le _)) (by decide) ?_
    rintro ⟨x3, z3, u3, v3⟩ hs3
    dsimp only at hs3 ⊢
    simp only [List.set_cons_zero]
    refine HL.nil ?_
    refine HQ.next ?_
    refine HC.region ?_
    refine HL.val (Val.move rfl) (by decide) ?_
    refine HL.val (Val.assign rfl) (by decide) ?_
    refine HL.nil ?_
    refine HQ.blockNormal ?_
    refine HQ.next ?_
    refine HC.region ?_
    refine HL.val (Val.move rfl) (by decide) ?_
    refine HL.val ((Val.subI rfl rfl).as (congrArg (Value.int .i64) (idxI_wrap (q := q) (by omega)))) (by decide) ?_
    refine HL.val (Val.assign rfl) (by decide) ?_
    refine HL.nil ?_
    exact ⟨fun ac wc ha hw => ⟨⟨(q, x3, z3, u3, v3), by omega, lr_next hm hU hL rfl hs3⟩, by dsimp only; omega, by dsimp only; rw [ldr_last hm]; exact ha.subS ⟨rfl, rfl, rfl, rfl, trivial⟩, hw.pick [0, 1] (by simp)⟩⟩

theorem clampH (i j : Nat) {D : Nat → Bool} {u0 w : World} {η : List (Nat × Obj)} {bz bk Tz Tk z v : Nat} (hi : η[i]? = some (bz, .cells (byA 32 z) Tz (0, 0))) (hj : η[j]? = some (bk, .cells (byA 32 v) Tk (0, 0))) (hD : u0.heap.size ≤ bz ∨ D bz = true) (hw : Hold D u0 η w) :
    Calls Tryd.prog 57 #[.pointer (some ⟨bz, 0, none⟩), .pointer (some ⟨bk, 0, none⟩)] w fun e w' => e = .returned (.pointer (some ⟨bz, 0, none⟩)) ∧ Hold D u0 (η.set i (bz, .cells (byA 32 (clampN v)) Tz (0, 0))) w' :=
  (clamp66 v (hw.at hi) (byA_size _ _) (hw.at hj)).mono fun _ _ ⟨he, hb, hO⟩ => ⟨he, hw.put hi hD hO.os hO.tape hO.output hO.size hO.block hb⟩

theorem hold_three {w : World} {b c d : Nat} {ob oc od : Obj} {D : Nat → Bool} (h : w.heap[b]? = some ob) (h2 : w.heap[c]? = some oc) (h3 : w.heap[d]? = some od) (hn : b ≠ c) (hn2 : b ≠ d) (hn3 : c ≠ d) : Hold D w [(b, ob), (c, oc), (d, od)] w := ⟨Sn.refl _ _, (fun p hp => by
  rcases List.mem_cons.1 hp with rfl | hp
  · exact h
  · rcases List.mem_cons.1 hp with rfl | hp
    · exact h2
    · obtain rfl : p = (d, od) := by simpa using hp
      exact h3), by simp [hn, hn2, hn3]⟩
set_option maxRecDepth 100000 in
theorem shared_any {bz bk bp Tz Tk Tp z k u : Nat} {w : World} (hl : LG w) (hg : (fun k => k == bz) 1 = false) (h0 : w.heap[bz]? = some (.cells (byA 32 z) Tz (0, 0))) (h1 : w.heap[bk]? = some (.cells (byA 32 k) Tk (0, 0))) (h2 : w.heap[bp]? = some (.cells (byA 32 u) Tp (0, 0))) (n1 : bz ≠ bk) (n2 : bz ≠ bp) (n3 : bk ≠ bp) :
    Calls Tryd.prog 40 #[.pointer (some ⟨bz, 0, none⟩), .pointer (some ⟨bk, 0, none⟩), .pointer (some ⟨bp, 0, none⟩)] w fun e w' => e = .returned (.bool (vld (topN u % p25))) ∧ Hold (fun k => k == bz) w [(bz, .cells (byA 32 (ladV (topN u) (clampN k))) Tz (0, 0))] w' := by
  refine calls_H (args := [.pointer (some ⟨bz, 0, none⟩), .pointer (some ⟨bk, 0, none⟩), .pointer (some ⟨bp, 0, none⟩)]) (fun k => k == bz) [(bz, .cells (byA 32 z) Tz (0, 0)), (bk, .cells (byA 32 k) Tk (0, 0)), (bp, .cells (byA 32 u) Tp (0, 0))] Tryd.func40 rfl (m := 22) rfl rfl (hold_three h0 h1 h2 n1 n2 n3) ?_
  refine HC.seq ?_
  refine HC.region ?_
  refine HL.val (Val.assign rfl) (by decide) ?_
  refine HL.nil ?_
  refine HQ.next ?_
  refine HC.seq ?_
  refine HC.region ?_
  refine HL.val (Val.move rfl) (by decide) ?_
  refine HL.val (Val.nilCheck rfl) (by decide) ?_
  refine HL.val (Val.load_row rfl (fun w hw => hw.at (i := 2) rfl) Tryd.underlying47 rfl (sz47 _)) (by decide) ?_
  refine HL.new (New.alloc al47) (by decide) ?_
  intro b1 hb1
  refine HL.put 0 rfl (Put.row rfl rfl (sz47 _) (eqsz32 _ _) (one32 _)) (.inl hb1) ?_
  simp only [List.set_cons_zero]
  refine HL.nil ?_
  refine HQ.next ?_
  refine HC.seq ?_
  refine HC.region ?_
  refine HL.val (Val.ixAddrQ 31 (i := 31) (m := 32) (s := 1) (e := 5) rfl rfl Tryd.underlying47 (by kernel_rfl) (by decide) (by decide)) (by decide) ?_
  refine HL.val (Val.load_cell rfl (fun w hw => hw.at (i := 0) rfl) (byA_get (n := 32) (v := u) (i := 31) (by decide)) Tryd.underlying5 rfl) (by decide) ?_
  refine HL.val ((Val.andI rfl rfl).as (congrArg (Value.int .u8) (bits_and127 (u / 256 ^ 31 % 256) (Nat.mod_lt _ (by decide))))) (by decide) ?_
  refine HL.val (Val.ixAddrQ 31 (i := 31) (m := 32) (s := 1) (e := 5) rfl rfl Tryd.underlying47 (by kernel_rfl) (by decide) (by decide)) (by decide) ?_
  refine HL.put 0 rfl ((Put.cell rfl rfl (by kernel_rfl) (by rw [byA_size]; decide) rfl).to (congrArg (fun z => Obj.cells z 47 (0, 0)) (top_arr u))) (.inl hb1) ?_
  simp only [List.set_cons_zero]
  refine HL.nil ?_
  refine HQ.next ?_
  refine HC.seq ?_
  refine HC.region ?_
  refine HL.callD en51 rfl (fun w hw => isValidH 0 hl hg rfl hb1 (topN_lt u) hw) (by decide) ?_
  simp only [List.set_cons_zero]
  refine HL.val (Val.assign rfl) (by decide) ?_
  refine HL.nil ?_
  refine HQ.next ?_
  refine HC.seq ?_
  refine HC.region ?_
  refine HL.val (Val.move rfl) (by decide) ?_
  refine HL.val (Val.move rfl) (by decide) ?_
  refine HL.callD en57 rfl (fun w hw => clampH 1 2 rfl rfl (ownB bz) hw) (by decide) ?_
  simp only [List.set_cons_zero, List.set_cons_succ]
  refine HL.callD en56 rfl (fun w hw => lift_one hw (i := 1) rfl (ownB bz) (ladder_any (u := topN u) (hw.at (i := 1) rfl) (hw.at (i := 0) rfl) (nd_ne3 hw (i := 1) (j := 0) rfl rfl (by decide)) (lt256 _) (Nat.mod_mod _ _))) (by decide) ?_
  simp only [List.set_cons_zero, List.set_cons_succ]
  refine HL.nil ?_
  refine HQ.next ?_
  refine HC.seq ?_
  refine HC.region ?_
  refine HL.val (Val.move rfl) (by decide) ?_
  refine HL.val (Val.assign rfl) (by decide) ?_
  refine HL.nil ?_
  refine HQ.next ?_
  refine HC.ret ?_
  exact HQ.ret1 rfl rfl (fun w hw => ⟨rfl, hw.pick [1] (by simp)⟩)

set_option maxRecDepth 100000 in
theorem implShared {k u : Nat} {w : World} (hl : LG w) : Calls Tryd.prog 21 #[byV 32 k, byV 32 u] w fun e w' => e = .returned (.tuple #[byV 32 (ladV (topN u) (clampN k)), .bool (vld (topN u % p25))]) ∧ Below w.heap.size w w' := by
  refine calls_H (args := [byV 32 k, byV 32 u]) noD [] Tryd.func21 rfl (m := 15) rfl rfl (hold_nil _ _) ?_
  refine HC.seq ?_
  refine HC.region ?_
  refine HL.new (New.box rfl) (by decide) ?_
  intro b1 hb1
  refine HL.new (New.box rfl) (by decide) ?_
  intro b2 hb2
  refine HL.new (New.alloc al22) (by decide) ?_
  intro b3 hb3
  refine HL.val (Val.assign rfl) (by decide) ?_
  refine HL.nil ?_
  refine HQ.next ?_
  refine HC.seq ?_
  refine HC.region ?_
  refine HL.new (New.alloc al47) (by decide) ?_
  intro b4 hb4
  refine HL.nil ?_
  refine HQ.next ?_
  refine HC.seq ?_
  refine HC.draw2s 2 (by kernel_rfl) (by kernel_rfl) rfl rfl rfl (by decide) al47 al47 ?_
  simp only [List.take]
  refine HV.val (Val.load_row rfl (fun w hw => hw.at (i := 3) rfl) Tryd.underlying22 rfl (sz22 _)) (by decide) ?_
  refine HV.val (Val.load_row rfl (fun w hw => hw.at (i := 2) rfl) Tryd.underlying22 rfl (sz22 _)) (by decide) ?_
  refine HV.tail2s (by decide) (by decide) (fun _ _ => Put.row rfl rfl (sz47 _) (eqsz32 _ _) (one32 _)) (fun _ _ => Put.row rfl rfl (sz47 _) (eqsz32 _ _) (one32 _)) ?_
  intro b5 b6 hb5 hb6
  refine HQ.next ?_
  refine HC.seq ?_
  refine HC.region ?_
  refine HL.callD en40 rfl (fun w hw => lift_one hw (i := 2) rfl (.inl hb4) (shared_any (hl.sn hw.sn rfl) (by have := hl.lt; simp; omega) (hw.at (i := 2) rfl) (hw.at (i := 1) rfl) (hw.at (i := 0) rfl) (nd_ne3 hw (i := 2) (j := 1) rfl rfl (by decide)) (nd_ne3 hw (i := 2) (j := 0) rfl rfl (by decide)) (nd_ne3 hw (i := 1) (j := 0) rfl rfl (by decide)))) (by decide) ?_
  simp only [List.set_cons_zero, List.set_cons_succ]
  refine HL.val (Val.assign rfl) (by decide) ?_
  refine HL.nil ?_
  refine HQ.next ?_
  refine HC.seq ?_
  refine HC.region ?_
  refine HL.val (Val.load_row rfl (fun w hw => hw.at (i := 2) rfl) Tryd.underlying47 rfl (sz47 _)) (by decide) ?_
  refine HL.val (Val.move rfl) (by decide) ?_
  refine HL.put 3 rfl (Put.row rfl rfl (sz22 _) (eqsz32 _ _) (one32 _)) (.inl hb3) ?_
  simp only [List.set_cons_zero, List.set_cons_succ]
  refine HL.val (Val.assign rfl) (by decide) ?_
  refine HL.nil ?_
  refine HQ.next ?_
  refine HC.ret ?_
  exact HQ.retct 3 rfl rfl rfl rfl Tryd.underlying22 rfl (sz22 _) (pure_end rfl)
end Go.Proofs.YteehdjkmjncehaaDoor
