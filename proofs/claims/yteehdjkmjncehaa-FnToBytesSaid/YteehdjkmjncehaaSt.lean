/-
  The ladder's step in the program (written by genst.py).
-/
import Derived.Test.YteehdjkmjncehaaSb
import Derived.Test.YteehdjkmjncehaaHR
namespace Go.Proofs.Yteehdjkmjncehaa
open Go.RowKit
/-- What a step leaves. -/
structure StepR (m w0 w1 w2 w3 w4 x z u v : Nat) : Prop where
  l1 : x < 2 ^ 256
  l2 : z < 2 ^ 256
  l3 : u < 2 ^ 256
  l4 : v < 2 ^ 256
  e1 : x % p25 = (dN m w1 w2 w3 w4).1
  e2 : z % p25 = (dN m w1 w2 w3 w4).2
  e3 : u % p25 = (aN m w0 w1 w2 w3 w4).1
  e4 : v % p25 = (aN m w0 w1 w2 w3 w4).2
theorem ownB (b : Nat) {w : World} : w.heap.size ≤ b ∨ (fun k => k == b) b = true := .inr (by simp)
theorem hold_one {w : World} {b : Nat} {ob : Obj} {D : Nat → Bool} (h : w.heap[b]? = some ob) : Hold D w [(b, ob)] w := ⟨Sn.refl _ _, (fun p hp => by
  obtain rfl : p = (b, ob) := by simpa using hp
  exact h), by simp⟩

set_option maxRecDepth 100000 in
theorem ladderStepGeneric_any {bw T w0 w1 w2 w3 w4 m : Nat} {w : World} (hb : w.heap[bw]? = some (obE [w0, w1, w2, w3, w4] T)) (h0 : w0 < 2 ^ 256) (h1 : w1 < 2 ^ 256) (h2 : w2 < 2 ^ 256) (h3 : w3 < 2 ^ 256) (h4 : w4 < 2 ^ 256) (hm : m ≤ 1) :
    Calls Try.prog 93 #[.pointer (some ⟨bw, 0, none⟩), .int .u64 (m : Nat)] w fun e w' => ∃ r : Nat × Nat × Nat × Nat, StepR m w0 w1 w2 w3 w4 r.1 r.2.1 r.2.2.1 r.2.2.2 ∧ e = .returned (.tuple #[]) ∧ Hold (fun k => k == bw) w [(bw, obE [w0, r.1, r.2.1, r.2.2.1, r.2.2.2] T)] w' := by
  refine calls_H (args := [.pointer (some ⟨bw, 0, none⟩), .int .u64 (m : Nat)]) (fun k => k == bw) [(bw, obE [w0, w1, w2, w3, w4] T)] Try.func93 rfl (m := 90) rfl rfl (hold_one hb) ?_
  refine HC.seq ?_
  refine HC.draw0 19 (by kernel_rfl) (by kernel_rfl) ?_
  simp only [List.take, List.drop]
  refine HV.val (Val.move rfl) (by decide) ?_
  refine HV.val (Val.nilCheck rfl) (by decide) ?_
  refine HV.val (Val.ixAddrQ 0 (i := 0) (m := 5) (s := 32) (e := 59) rfl rfl Try.underlying72 (by kernel_rfl) (by decide) (by decide)) (by decide) ?_
  refine HV.val (Val.move rfl) (by decide) ?_
  refine HV.val (Val.nilCheck rfl) (by decide) ?_
  refine HV.val (Val.ixAddrQ 32 (i := 1) (m := 5) (s := 32) (e := 59) rfl rfl Try.underlying72 (by kernel_rfl) (by decide) (by decide)) (by decide) ?_
  refine HV.val (Val.move rfl) (by decide) ?_
  refine HV.val (Val.nilCheck rfl) (by decide) ?_
  refine HV.val (Val.ixAddrQ 64 (i := 2) (m := 5) (s := 32) (e := 59) rfl rfl Try.underlying72 (by kernel_rfl) (by decide) (by decide)) (by decide) ?_
  refine HV.val (Val.move rfl) (by decide) ?_
  refine HV.val (Val.nilCheck rfl) (by decide) ?_
  refine HV.val (Val.ixAddrQ 96 (i := 3) (m := 5) (s := 32) (e := 59) rfl rfl Try.underlying72 (by kernel_rfl) (by decide) (by decide)) (by decide) ?_
  refine HV.val (Val.move rfl) (by decide) ?_
  refine HV.val (Val.nilCheck rfl) (by decide) ?_
  refine HV.val (Val.ixAddrQ 128 (i := 4) (m := 5) (s := 32) (e := 59) rfl rfl Try.underlying72 (by kernel_rfl) (by decide) (by decide)) (by decide) ?_
  refine HV.val (Val.assign rfl) (by decide) ?_
  refine HV.val (Val.assign rfl) (by decide) ?_
  refine HV.val (Val.assign rfl) (by decide) ?_
  refine HV.val (Val.assign rfl) (by decide) ?_
  refine HV.tail0 ?_
  refine HL.val (Val.assign rfl) (by decide) ?_
  refine HL.nil ?_
  refine HQ.next ?_
  refine HC.seq ?_
  refine HC.region ?_
  refine HL.val (Val.build rfl bz59) (by decide) ?_
  refine HL.new (New.box rfl) (by decide) ?_
  intro b1 hb1
  refine HL.val (Val.assign rfl) (by decide) ?_
  refine HL.nil ?_
  refine HQ.next ?_
  refine HC.seq ?_
  refine HC.region ?_
  refine HL.val (Val.build rfl bz59) (by decide) ?_
  refine HL.new (New.box rfl) (by decide) ?_
  intro b2 hb2
  refine HL.val (Val.assign rfl) (by decide) ?_
  refine HL.nil ?_
  refine HQ.next ?_
  refine HC.seq ?_
  refine HC.region ?_
  refine HL.val (Val.move rfl) (by decide) ?_
  refine HL.val (Val.move rfl) (by decide) ?_
  refine HL.call (f := 56) en56 rfl (asH5 2 1 2 rfl rfl rfl (ownB bw) h1 h2) (by decide) ?_
  rintro ⟨r1, s1⟩ ⟨lr1, ls1, hr1, hs1⟩
  dsimp only at lr1 ls1 hr1 hs1 ⊢
  simp only [List.set_cons_zero, List.set_cons_succ]
  refine HL.nil ?_
  refine HQ.next ?_
  refine HC.seq ?_
  refine HC.region ?_
  refine HL.val (Val.move rfl) (by decide) ?_
  refine HL.val (Val.move rfl) (by decide) ?_
  refine HL.call (f := 56) en56 rfl (asH5 2 3 4 rfl rfl rfl (ownB bw) h3 h4) (by decide) ?_
  rintro ⟨r2, s2⟩ ⟨lr2, ls2, hr2, hs2⟩
  dsimp only at lr2 ls2 hr2 hs2 ⊢
  simp only [List.set_cons_zero, List.set_cons_succ]
  refine HL.nil ?_
  refine HQ.next ?_
  refine HC.seq ?_
  refine HC.region ?_
  refine HL.val (Val.move rfl) (by decide) ?_
  refine HL.val (Val.move rfl) (by decide) ?_
  refine HL.val (Val.move rfl) (by decide) ?_
  refine HL.call (f := 58) en58 rfl (mulH (dst1 1 rfl (.inl hb1)) (elh5 2 1 rfl rfl) lr1 (elh5 2 4 rfl rfl) ls2) (by decide) ?_
  rintro r3 ⟨lr3, hr3⟩
  simp only [List.set_cons_zero, List.set_cons_succ]
  refine HL.nil ?_
  refine HQ.next ?_
  refine HC.seq ?_
  refine HC.region ?_
  refine HL.val (Val.move rfl) (by decide) ?_
  refine HL.val (Val.move rfl) (by decide) ?_
  refine HL.val (Val.move rfl) (by decide) ?_
  refine HL.call (f := 58) en58 rfl (mulH (dst1 0 rfl (.inl hb2)) (elh5 2 3 rfl rfl) lr2 (elh5 2 2 rfl rfl) ls1) (by decide) ?_
  rintro r4 ⟨lr4, hr4⟩
  simp only [List.set_cons_zero]
  refine HL.nil ?_
  refine HQ.next ?_
  refine HC.seq ?_
  refine HC.region ?_
  refine HL.val (Val.move rfl) (by decide) ?_
  refine HL.val (Val.move rfl) (by decide) ?_
  refine HL.call (f := 56) en56 rfl (asH2 1 0 rfl rfl (by decide) (.inl hb1) (.inl hb2) lr3 lr4) (by decide) ?_
  rintro ⟨r5, s5⟩ ⟨lr5, ls5, hr5, hs5⟩
  dsimp only at lr5 ls5 hr5 hs5 ⊢
  simp only [List.set_cons_zero, List.set_cons_succ]
  refine HL.nil ?_
  refine HQ.next ?_
  refine HC.seq ?_
  refine HC.region ?_
  refine HL.val (Val.move rfl) (by decide) ?_
  refine HL.val (Val.move rfl) (by decide) ?_
  refine HL.val (Val.move rfl) (by decide) ?_
  refine HL.call (f := 50) en50 rfl (cmovH (dst5 2 1 rfl (show 1 < 5 from by decide) (ownB bw)) (elh5 2 1 rfl rfl) (elh5 2 3 rfl rfl) lr1 lr2 hm) (by decide) ?_
  rintro r6 ⟨lr6, hr6⟩
  simp only [List.set_cons_zero, List.set_cons_succ]
  refine HL.nil ?_
  refine HQ.next ?_
  refine HC.seq ?_
  refine HC.region ?_
  refine HL.val (Val.move rfl) (by decide) ?_
  refine HL.val (Val.move rfl) (by decide) ?_
  refine HL.val (Val.move rfl) (by decide) ?_
  refine HL.call (f := 50) en50 rfl (cmovH (dst5 2 2 rfl (show 2 < 5 from by decide) (ownB bw)) (elh5 2 2 rfl rfl) (elh5 2 4 rfl rfl) ls1 ls2 hm) (by decide) ?_
  rintro r7 ⟨lr7, hr7⟩
  simp only [List.set_cons_zero, List.set_cons_succ]
  refine HL.nil ?_
  refine HQ.next ?_
  refine HC.seq ?_
  refine HC.region ?_
  refine HL.val (Val.move rfl) (by decide) ?_
  refine HL.val (Val.move rfl) (by decide) ?_
  refine HL.call (f := 57) en57 rfl (sqrH (dst5 2 3 rfl (show 3 < 5 from by decide) (ownB bw)) (elh1 1 rfl) lr5) (by decide) ?_
  rintro r8 ⟨lr8, hr8⟩
  simp only [List.set_cons_zero, List.set_cons_succ]
  refine HL.nil ?_
  refine HQ.next ?_
  refine HC.seq ?_
  refine HC.region ?_
  refine HL.val (Val.move rfl) (by decide) ?_
  refine HL.val (Val.move rfl) (by decide) ?_
  refine HL.call (f := 57) en57 rfl (sqrH (dst5 2 4 rfl (show 4 < 5 from by decide) (ownB bw)) (elh1 0 rfl) ls5) (by decide) ?_
  rintro r9 ⟨lr9, hr9⟩
  simp only [List.set_cons_zero, List.set_cons_succ]
  refine HL.nil ?_
  refine HQ.next ?_
  refine HC.seq ?_
  refine HC.region ?_
  refine HL.val (Val.move rfl) (by decide) ?_
  refine HL.val (Val.move rfl) (by decide) ?_
  refine HL.val (Val.move rfl) (by decide) ?_
  refine HL.call (f := 58) en58 rfl (mulH (dst5 2 4 rfl (show 4 < 5 from by decide) (ownB bw)) (elh5 2 0 rfl rfl) h0 (elh5 2 4 rfl rfl) lr9) (by decide) ?_
  rintro r10 ⟨lr10, hr10⟩
  simp only [List.set_cons_zero, List.set_cons_succ]
  refine HL.nil ?_
  refine HQ.next ?_
  refine HC.seq ?_
  refine HC.region ?_
  refine HL.val (Val.move rfl) (by decide) ?_
  refine HL.val (Val.move rfl) (by decide) ?_
  refine HL.call (f := 57) en57 rfl (sqrH (dst5 2 1 rfl (show 1 < 5 from by decide) (ownB bw)) (elh5 2 1 rfl rfl) lr6) (by decide) ?_
  rintro r11 ⟨lr11, hr11⟩
  simp only [List.set_cons_zero, List.set_cons_succ]
  refine HL.nil ?_
  refine HQ.next ?_
  refine HC.seq ?_
  refine HC.region ?_
  refine HL.val (Val.move rfl) (by decide) ?_
  refine HL.val (Val.move rfl) (by decide) ?_
  refine HL.call (f := 57) en57 rfl (sqrH (dst5 2 2 rfl (show 2 < 5 from by decide) (ownB bw)) (elh5 2 2 rfl rfl) lr7) (by decide) ?_
  rintro r12 ⟨lr12, hr12⟩
  simp only [List.set_cons_zero, List.set_cons_succ]
  refine HL.nil ?_
  refine HQ.next ?_
  refine HC.seq ?_
  refine HC.region ?_
  refine HL.val (Val.move rfl) (by decide) ?_
  refine HL.val (Val.move rfl) (by decide) ?_
  refine HL.val (Val.move rfl) (by decide) ?_
  refine HL.call (f := 52) en52 rfl (subH (dst1 1 rfl (.inl hb1)) (elh5 2 1 rfl rfl) lr11 (elh5 2 2 rfl rfl) lr12) (by decide) ?_
  rintro r13 ⟨lr13, hr13⟩
  simp only [List.set_cons_zero, List.set_cons_succ]
  refine HL.nil ?_
  refine HQ.next ?_
  refine HC.seq ?_
  refine HC.region ?_
  refine HL.val (Val.move rfl) (by decide) ?_
  refine HL.val (Val.move rfl) (by decide) ?_
  refine HL.call (f := 88) en88 rfl (a24H (dst1 0 rfl (.inl hb2)) (elh1 1 rfl) lr13) (by decide) ?_
  rintro r14 ⟨lr14, hr14⟩
  simp only [List.set_cons_zero]
  refine HL.nil ?_
  refine HQ.next ?_
  refine HC.seq ?_
  refine HC.region ?_
  refine HL.val (Val.move rfl) (by decide) ?_
  refine HL.val (Val.move rfl) (by decide) ?_
  refine HL.val (Val.move rfl) (by decide) ?_
  refine HL.call (f := 51) en51 rfl (addH (dst1 0 rfl (.inl hb2)) (elh1 0 rfl) lr14 (elh5 2 2 rfl rfl) lr12) (by decide) ?_
  rintro r15 ⟨lr15, hr15⟩
  simp only [List.set_cons_zero]
  refine HL.nil ?_
  refine HQ.next ?_
  refine HC.seq ?_
  refine HC.region ?_
  refine HL.val (Val.move rfl) (by decide) ?_
  refine HL.val (Val.move rfl) (by decide) ?_
  refine HL.val (Val.move rfl) (by decide) ?_
  refine HL.call (f := 58) en58 rfl (mulH (dst5 2 1 rfl (show 1 < 5 from by decide) (ownB bw)) (elh5 2 1 rfl rfl) lr11 (elh5 2 2 rfl rfl) lr12) (by decide) ?_
  rintro r16 ⟨lr16, hr16⟩
  simp only [List.set_cons_zero, List.set_cons_succ]
  refine HL.nil ?_
  refine HQ.next ?_
  refine HC.region ?_
  refine HL.val (Val.move rfl) (by decide) ?_
  refine HL.val (Val.move rfl) (by decide) ?_
  refine HL.val (Val.move rfl) (by decide) ?_
  refine HL.call (f := 58) en58 rfl (mulH (dst5 2 2 rfl (show 2 < 5 from by decide) (ownB bw)) (elh1 1 rfl) lr13 (elh1 0 rfl) lr15) (by decide) ?_
  rintro r17 ⟨lr17, hr17⟩
  simp only [List.set_cons_zero, List.set_cons_succ]
  refine HL.nil ?_
  obtain ⟨q1, q2, q3, q4⟩ := step_law hm hr1 hs1 hr2 hs2 hr3 hr4 hr5 hs5 hr6 hr7 hr8 hr9 hr10 hr11 hr12 hr13 hr14 hr15 hr16 hr17
  exact HQ.end0 rfl (fun w hw => ⟨(r16, r17, r8, r10), ⟨lr16, lr17, lr8, lr10, q1, q2, q3, q4⟩, rfl, hw.pick [2] (by simp)⟩)

theorem lsgH (i : Nat) {D : Nat → Bool} {u0 : World} {η : List (Nat × Obj)} {bw T w0 w1 w2 w3 w4 m : Nat} (hi : η[i]? = some (bw, obE [w0, w1, w2, w3, w4] T)) (hD : u0.heap.size ≤ bw ∨ D bw = true) (h0 : w0 < 2 ^ 256) (h1 : w1 < 2 ^ 256) (h2 : w2 < 2 ^ 256) (h3 : w3 < 2 ^ 256) (h4 : w4 < 2 ^ 256) (hm : m ≤ 1) :
    ∀ w, Hold D u0 η w → Calls Try.prog 93 #[.pointer (some ⟨bw, 0, none⟩), .int .u64 (m : Nat)] w fun e w' => ∃ r : Nat × Nat × Nat × Nat, StepR m w0 w1 w2 w3 w4 r.1 r.2.1 r.2.2.1 r.2.2.2 ∧ e = .returned (.tuple #[]) ∧ Hold D u0 (η.set i (bw, obE [w0, r.1, r.2.1, r.2.2.1, r.2.2.2] T)) w' := fun _ hw =>
  (ladderStepGeneric_any (hw.at hi) h0 h1 h2 h3 h4 hm).mono fun _ _ ⟨r, hr, he, hh⟩ => ⟨r, hr, he, hw.lift1 hi hD hh (hh.at (i := 0) rfl)⟩

set_option maxRecDepth 100000 in
theorem ladderStep_any {bw T w0 w1 w2 w3 w4 m : Nat} {w : World} (hb : w.heap[bw]? = some (obE [w0, w1, w2, w3, w4] T)) (h0 : w0 < 2 ^ 256) (h1 : w1 < 2 ^ 256) (h2 : w2 < 2 ^ 256) (h3 : w3 < 2 ^ 256) (h4 : w4 < 2 ^ 256) (hm : m ≤ 1) :
    Calls Try.prog 80 #[.pointer (some ⟨bw, 0, none⟩), .int .u64 (m : Nat)] w fun e w' => ∃ r : Nat × Nat × Nat × Nat, StepR m w0 w1 w2 w3 w4 r.1 r.2.1 r.2.2.1 r.2.2.2 ∧ e = .returned (.tuple #[]) ∧ Hold (fun k => k == bw) w [(bw, obE [w0, r.1, r.2.1, r.2.2.1, r.2.2.2] T)] w' := by
  refine calls_H (args := [.pointer (some ⟨bw, 0, none⟩), .int .u64 (m : Nat)]) (fun k => k == bw) [(bw, obE [w0, w1, w2, w3, w4] T)] Try.func80 rfl (m := 7) rfl rfl (hold_one hb) ?_
  refine HC.region ?_
  refine HL.val (Val.move rfl) (by decide) ?_
  refine HL.val (Val.move rfl) (by decide) ?_
  refine HL.call (f := 93) en93 rfl (lsgH 0 rfl (ownB bw) h0 h1 h2 h3 h4 hm) (by decide) ?_
  rintro ⟨x1, z1, u1, v1⟩ hs1
  dsimp only at hs1 ⊢
  simp only [List.set_cons_zero]
  refine HL.nil ?_
  exact HQ.end0 rfl (fun w hw => ⟨(x1, z1, u1, v1), hs1, rfl, hw.pick [0] (by simp)⟩)

theorem lsH (i : Nat) {D : Nat → Bool} {u0 : World} {η : List (Nat × Obj)} {bw T w0 w1 w2 w3 w4 m : Nat} (hi : η[i]? = some (bw, obE [w0, w1, w2, w3, w4] T)) (hD : u0.heap.size ≤ bw ∨ D bw = true) (h0 : w0 < 2 ^ 256) (h1 : w1 < 2 ^ 256) (h2 : w2 < 2 ^ 256) (h3 : w3 < 2 ^ 256) (h4 : w4 < 2 ^ 256) (hm : m ≤ 1) :
    ∀ w, Hold D u0 η w → Calls Try.prog 80 #[.pointer (some ⟨bw, 0, none⟩), .int .u64 (m : Nat)] w fun e w' => ∃ r : Nat × Nat × Nat × Nat, StepR m w0 w1 w2 w3 w4 r.1 r.2.1 r.2.2.1 r.2.2.2 ∧ e = .returned (.tuple #[]) ∧ Hold D u0 (η.set i (bw, obE [w0, r.1, r.2.1, r.2.2.1, r.2.2.2] T)) w' := fun _ hw =>
  (ladderStep_any (hw.at hi) h0 h1 h2 h3 h4 hm).mono fun _ _ ⟨r, hr, he, hh⟩ => ⟨r, hr, he, hw.lift1 hi hD hh (hh.at (i := 0) rfl)⟩

set_option maxRecDepth 100000 in
theorem zzLadderStep (w0 w1 w2 w3 w4 m : Nat) (h0 : w0 < 2 ^ 256) (h1 : w1 < 2 ^ 256) (h2 : w2 < 2 ^ 256) (h3 : w3 < 2 ^ 256) (h4 : w4 < 2 ^ 256) (hm : m ≤ 1) (w : World) :
    Calls Try.prog 61 #[.agg (elA [w0, w1, w2, w3, w4]), .int .u64 (m : Nat)] w fun e w' => ∃ r : Nat × Nat × Nat × Nat, StepR m w0 w1 w2 w3 w4 r.1 r.2.1 r.2.2.1 r.2.2.2 ∧ e = .returned (.agg (elA [w0, r.1, r.2.1, r.2.2.1, r.2.2.2])) ∧ Below w.heap.size w w' := by
  refine calls_H (args := [.agg (elA [w0, w1, w2, w3, w4]), .int .u64 (m : Nat)]) noD [] Try.func61 rfl (m := 8) rfl rfl (hold_nil _ _) ?_
  refine HC.seq ?_
  refine HC.region ?_
  refine HL.new (New.box rfl) (by decide) ?_
  intro b1 hb1
  refine HL.new (New.alloc al72) (by decide) ?_
  intro b2 hb2
  refine HL.nil ?_
  refine HQ.next ?_
  refine HC.seq ?_
  refine HC.region ?_
  refine HL.val (Val.move rfl) (by decide) ?_
  refine HL.call (f := 80) en80 rfl (lsH 1 rfl (.inl hb1) h0 h1 h2 h3 h4 hm) (by decide) ?_
  rintro ⟨x1, z1, u1, v1⟩ hs1
  dsimp only at hs1 ⊢
  simp only [List.set_cons_zero, List.set_cons_succ]
  refine HL.nil ?_
  refine HQ.next ?_
  refine HC.seq ?_
  refine HC.region ?_
  refine HL.val (Val.load_row rfl (fun w hw => hw.at (i := 1) rfl) Try.underlying72 rfl (sz72 _ _ _ _ _)) (by decide) ?_
  refine HL.put 0 rfl (Put.row rfl rfl (sz72 _ _ _ _ _) (eqsz5 _ _ _ _ _ _ _ _ _ _) (elA_oneC _)) (.inl hb2) ?_
  simp only [List.set_cons_zero]
  refine HL.nil ?_
  refine HQ.next ?_
  refine HC.ret ?_
  exact HQ.retc 0 rfl rfl rfl Try.underlying72 rfl (sz72 _ _ _ _ _) (fun _ hw => ⟨(x1, z1, u1, v1), hs1, rfl, hw.sn.pure⟩)

theorem zzH {D : Nat → Bool} {u0 : World} {η : List (Nat × Obj)} {w0 w1 w2 w3 w4 m : Nat} (h0 : w0 < 2 ^ 256) (h1 : w1 < 2 ^ 256) (h2 : w2 < 2 ^ 256) (h3 : w3 < 2 ^ 256) (h4 : w4 < 2 ^ 256) (hm : m ≤ 1) :
    ∀ w, Hold D u0 η w → Calls Try.prog 61 #[.agg (elA [w0, w1, w2, w3, w4]), .int .u64 (m : Nat)] w fun e w' => ∃ r : Nat × Nat × Nat × Nat, StepR m w0 w1 w2 w3 w4 r.1 r.2.1 r.2.2.1 r.2.2.2 ∧ e = .returned (.agg (elA [w0, r.1, r.2.1, r.2.2.1, r.2.2.2])) ∧ Hold D u0 η w' := fun w hw =>
  (zzLadderStep w0 w1 w2 w3 w4 m h0 h1 h2 h3 h4 hm w).mono fun _ _ ⟨r, hr, he, hb⟩ => ⟨r, hr, he, hw.on hb⟩
theorem red_to {r v : Nat} (hr : r < 2 ^ 256) (h : r % p25 = v) : Pure Try.prog 46 #[byV 32 r] (byV 32 v) := by subst h; exact reduced46 r hr

set_option maxRecDepth 100000 in
set_option maxHeartbeats 1600000 in
theorem implStep (w0 w1 w2 w3 w4 m : Nat) (h0 : w0 < 2 ^ 256) (h1 : w1 < 2 ^ 256) (h2 : w2 < 2 ^ 256) (h3 : w3 < 2 ^ 256) (h4 : w4 < 2 ^ 256) (hm : m ≤ 1) :
    Pure Try.prog 42 #[.agg (elA [w0, w1, w2, w3, w4]), .int .u64 (m : Nat)] (.agg (elA [(w0 % p25), (dN m w1 w2 w3 w4).1, (dN m w1 w2 w3 w4).2, (aN m w0 w1 w2 w3 w4).1, (aN m w0 w1 w2 w3 w4).2])) := by
  intro w
  refine calls_H (args := [.agg (elA [w0, w1, w2, w3, w4]), .int .u64 (m : Nat)]) noD [] Try.func42 rfl (m := 31) rfl rfl (hold_nil _ _) ?_
  refine HC.seq ?_
  refine HC.region ?_
  refine HL.new (New.box rfl) (by decide) ?_
  intro b1 hb1
  refine HL.new (New.alloc al50) (by decide) ?_
  intro b2 hb2
  refine HL.nil ?_
  refine HQ.next ?_
  refine HC.seq ?_
  refine HC.region ?_
  refine HL.new (New.alloc al72) (by decide) ?_
  intro b3 hb3
  refine HL.nil ?_
  refine HQ.next ?_
  refine HC.seq ?_
  refine HC.seq ?_
  refine HC.region ?_
  refine HL.val (Val.move rfl) (by decide) ?_
  refine HL.nil ?_
  refine HQ.next ?_
  refine HC.block ?_
  refine HC.loopN 5 ?_
  refine HC.seq ?_
  refine HC.region ?_
  refine HL.val (Val.lss rfl rfl) (by decide) ?_
  refine HL.nil ?_
  refine HQ.next ?_
  refine HC.seq ?_
  refine HC.yes rfl ?_
  refine HC.skip ?_
  refine HQ.next ?_
  refine HC.seq ?_
  refine HC.block ?_
  refine HC.seq ?_
  refine HC.region ?_
  refine HL.val (Val.move rfl) (by decide) ?_
  refine HL.val (Val.assign rfl) (by decide) ?_
  refine HL.nil ?_
  refine HQ.next ?_
  refine HC.region ?_
  refine HL.val (Val.move rfl) (by decide) ?_
  refine HL.val (Val.move rfl) (by decide) ?_
  refine HL.val (Val.ixAddrQ 0 (i := 0) (m := 5) (s := 32) (e := 22) rfl rfl Try.underlying50 (by kernel_rfl) (by decide) (by decide)) (by decide) ?_
  refine HL.val (Val.load_mid rfl (fun w hw => hw.at (i := 2) rfl) (byA 32 w0) (elA_get 0 rfl) Try.underlying22 rfl (sz22 _)) (by decide) ?_
  refine HL.val (Val.ixAddrQ 0 (i := 0) (m := 5) (s := 32) (e := 59) rfl rfl Try.underlying72 (by kernel_rfl) (by decide) (by decide)) (by decide) ?_
  refine HL.put 0 rfl (Put.mid (new := elA ([0, 0, 0, 0, 0].set 0 w0)) rfl rfl (sz59 _) (leE 0 _ (show 0 < 5 from by decide)) (one32 _) (elA_set_size _ _ _) (elA_put _ 0 _ (show 0 < 5 from by decide))) (.inl hb3) ?_
  simp only [List.set_cons_zero]
  refine HL.nil ?_
  refine HQ.blockNormal ?_
  refine HQ.next ?_
  refine HC.region ?_
  refine HL.val ((Val.addI rfl rfl).as (v := .int .i64 1) rfl) (by decide) ?_
  refine HL.val (Val.move rfl) (by decide) ?_
  refine HL.nil ?_
  refine HQ.againN ?_
  refine HC.seq ?_
  refine HC.region ?_
  refine HL.val (Val.lss rfl rfl) (by decide) ?_
  refine HL.nil ?_
  refine HQ.next ?_
  refine HC.seq ?_
  refine HC.yes rfl ?_
  refine HC.skip ?_
  refine HQ.next ?_
  refine HC.seq ?_
  refine HC.block ?_
  refine HC.seq ?_
  refine HC.region ?_
  refine HL.val (Val.move rfl) (by decide) ?_
  refine HL.val (Val.assign rfl) (by decide) ?_
  refine HL.nil ?_
  refine HQ.next ?_
  refine HC.region ?_
  refine HL.val (Val.move rfl) (by decide) ?_
  refine HL.val (Val.move rfl) (by decide) ?_
  refine HL.val (Val.ixAddrQ 32 (i := 1) (m := 5) (s := 32) (e := 22) rfl rfl Try.underlying50 (by kernel_rfl) (by decide) (by decide)) (by decide) ?_
  refine HL.val (Val.load_mid rfl (fun w hw => hw.at (i := 2) rfl) (byA 32 w1) (elA_get 1 rfl) Try.underlying22 rfl (sz22 _)) (by decide) ?_
  refine HL.val (Val.ixAddrQ 32 (i := 1) (m := 5) (s := 32) (e := 59) rfl rfl Try.underlying72 (by kernel_rfl) (by decide) (by decide)) (by decide) ?_
  refine HL.put 0 rfl (Put.mid (new := elA ([w0, 0, 0, 0, 0].set 1 w1)) rfl rfl (sz59 _) (leE 1 _ (show 1 < 5 from by decide)) (one32 _) (elA_set_size _ _ _) (elA_put _ 1 _ (show 1 < 5 from by decide))) (.inl hb3) ?_
  simp only [List.set_cons_zero, List.set_cons_succ]
  refine HL.nil ?_
  refine HQ.blockNormal ?_
  refine HQ.next ?_
  refine HC.region ?_
  refine HL.val ((Val.addI rfl rfl).as (v := .int .i64 2) rfl) (by decide) ?_
  refine HL.val (Val.move rfl) (by decide) ?_
  refine HL.nil ?_
  refine HQ.againN ?_
  refine HC.seq ?_
  refine HC.region ?_
  refine HL.val (Val.lss rfl rfl) (by decide) ?_
  refine HL.nil ?_
  refine HQ.next ?_
  refine HC.seq ?_
  refine HC.yes rfl ?_
  refine HC.skip ?_
  refine HQ.next ?_
  refine HC.seq ?_
  refine HC.block ?_
  refine HC.seq ?_
  refine HC.region ?_
  refine HL.val (Val.move rfl) (by decide) ?_
  refine HL.val (Val.assign rfl) (by decide) ?_
  refine HL.nil ?_
  refine HQ.next ?_
  refine HC.region ?_
  refine HL.val (Val.move rfl) (by decide) ?_
  refine HL.val (Val.move rfl) (by decide) ?_
  refine HL.val (Val.ixAddrQ 64 (i := 2) (m := 5) (s := 32) (e := 22) rfl rfl Try.underlying50 (by kernel_rfl) (by decide) (by decide)) (by decide) ?_
  refine HL.val (Val.load_mid rfl (fun w hw => hw.at (i := 2) rfl) (byA 32 w2) (elA_get 2 rfl) Try.underlying22 rfl (sz22 _)) (by decide) ?_
  refine HL.val (Val.ixAddrQ 64 (i := 2) (m := 5) (s := 32) (e := 59) rfl rfl Try.underlying72 (by kernel_rfl) (by decide) (by decide)) (by decide) ?_
  refine HL.put 0 rfl (Put.mid (new := elA ([w0, w1, 0, 0, 0].set 2 w2)) rfl rfl (sz59 _) (leE 2 _ (show 2 < 5 from by decide)) (one32 _) (elA_set_size _ _ _) (elA_put _ 2 _ (show 2 < 5 from by decide))) (.inl hb3) ?_
  simp only [List.set_cons_zero, List.set_cons_succ]
  refine HL.nil ?_
  refine HQ.blockNormal ?_
  refine HQ.next ?_
  refine HC.region ?_
  refine HL.val ((Val.addI rfl rfl).as (v := .int .i64 3) rfl) (by decide) ?_
  refine HL.val (Val.move rfl) (by decide) ?_
  refine HL.nil ?_
  refine HQ.againN ?_
  refine HC.seq ?_
  refine HC.region ?_
  refine HL.val (Val.lss rfl rfl) (by decide) ?_
  refine HL.nil ?_
  refine HQ.next ?_
  refine HC.seq ?_
  refine HC.yes rfl ?_
  refine HC.skip ?_
  refine HQ.next ?_
  refine HC.seq ?_
  refine HC.block ?_
  refine HC.seq ?_
  refine HC.region ?_
  refine HL.val (Val.move rfl) (by decide) ?_
  refine HL.val (Val.assign rfl) (by decide) ?_
  refine HL.nil ?_
  refine HQ.next ?_
  refine HC.region ?_
  refine HL.val (Val.move rfl) (by decide) ?_
  refine HL.val (Val.move rfl) (by decide) ?_
  refine HL.val (Val.ixAddrQ 96 (i := 3) (m := 5) (s := 32) (e := 22) rfl rfl Try.underlying50 (by kernel_rfl) (by decide) (by decide)) (by decide) ?_
  refine HL.val (Val.load_mid rfl (fun w hw => hw.at (i := 2) rfl) (byA 32 w3) (elA_get 3 rfl) Try.underlying22 rfl (sz22 _)) (by decide) ?_
  refine HL.val (Val.ixAddrQ 96 (i := 3) (m := 5) (s := 32) (e := 59) rfl rfl Try.underlying72 (by kernel_rfl) (by decide) (by decide)) (by decide) ?_
  refine HL.put 0 rfl (Put.mid (new := elA ([w0, w1, w2, 0, 0].set 3 w3)) rfl rfl (sz59 _) (leE 3 _ (show 3 < 5 from by decide)) (one32 _) (elA_set_size _ _ _) (elA_put _ 3 _ (show 3 < 5 from by decide))) (.inl hb3) ?_
  simp only [List.set_cons_zero, List.set_cons_succ]
  refine HL.nil ?_
  refine HQ.blockNormal ?_
  refine HQ.next ?_
  refine HC.region ?_
  refine HL.val ((Val.addI rfl rfl).as (v := .int .i64 4) rfl) (by decide) ?_
  refine HL.val (Val.move rfl) (by decide) ?_
  refine HL.nil ?_
  refine HQ.againN ?_
  refine HC.seq ?_
  refine HC.region ?_
  refine HL.val (Val.lss rfl rfl) (by decide) ?_
  refine HL.nil ?_
  refine HQ.next ?_
  refine HC.seq ?_
  refine HC.yes rfl ?_
  refine HC.skip ?_
  refine HQ.next ?_
  refine HC.seq ?_
  refine HC.block ?_
  refine HC.seq ?_
  refine HC.region ?_
  refine HL.val (Val.move rfl) (by decide) ?_
  refine HL.val (Val.assign rfl) (by decide) ?_
  refine HL.nil ?_
  refine HQ.next ?_
  refine HC.region ?_
  refine HL.val (Val.move rfl) (by decide) ?_
  refine HL.val (Val.move rfl) (by decide) ?_
  refine HL.val (Val.ixAddrQ 128 (i := 4) (m := 5) (s := 32) (e := 22) rfl rfl Try.underlying50 (by kernel_rfl) (by decide) (by decide)) (by decide) ?_
  refine HL.val (Val.load_mid rfl (fun w hw => hw.at (i := 2) rfl) (byA 32 w4) (elA_get 4 rfl) Try.underlying22 rfl (sz22 _)) (by decide) ?_
  refine HL.val (Val.ixAddrQ 128 (i := 4) (m := 5) (s := 32) (e := 59) rfl rfl Try.underlying72 (by kernel_rfl) (by decide) (by decide)) (by decide) ?_
  refine HL.put 0 rfl (Put.mid (new := elA ([w0, w1, w2, w3, 0].set 4 w4)) rfl rfl (sz59 _) (leE 4 _ (show 4 < 5 from by decide)) (one32 _) (elA_set_size _ _ _) (elA_put _ 4 _ (show 4 < 5 from by decide))) (.inl hb3) ?_
  simp only [List.set_cons_zero, List.set_cons_succ]
  refine HL.nil ?_
  refine HQ.blockNormal ?_
  refine HQ.next ?_
  refine HC.region ?_
  refine HL.val ((Val.addI rfl rfl).as (v := .int .i64 5) rfl) (by decide) ?_
  refine HL.val (Val.move rfl) (by decide) ?_
  refine HL.nil ?_
  refine HQ.againN ?_
  refine HC.seq ?_
  refine HC.region ?_
  refine HL.val (Val.lss rfl rfl) (by decide) ?_
  refine HL.nil ?_
  refine HQ.next ?_
  refine HC.seq ?_
  refine HC.no rfl ?_
  refine HC.exit ?_
  refine HQ.thenExit ?_
  refine HQ.thenExit ?_
  refine HQ.blockExit ?_
  refine HQ.next ?_
  refine HC.seq ?_
  refine HC.region ?_
  refine HL.val (Val.load_row rfl (fun w hw => hw.at (i := 0) rfl) Try.underlying72 rfl (sz72 _ _ _ _ _)) (by decide) ?_
  refine HL.val (Val.move rfl) (by decide) ?_
  refine HL.call (f := 61) en61 rfl (zzH h0 h1 h2 h3 h4 hm) (by decide) ?_
  rintro ⟨x1, z1, u1, v1⟩ hs1
  dsimp only at hs1 ⊢
  refine HL.put 0 rfl (Put.row rfl rfl (sz72 _ _ _ _ _) (eqsz5 _ _ _ _ _ _ _ _ _ _) (elA_oneC _)) (.inl hb3) ?_
  simp only [List.set_cons_zero]
  refine HL.nil ?_
  refine HQ.next ?_
  refine HC.seq ?_
  refine HC.seq ?_
  refine HC.region ?_
  refine HL.val (Val.move rfl) (by decide) ?_
  refine HL.nil ?_
  refine HQ.next ?_
  refine HC.block ?_
  refine HC.loopN 5 ?_
  refine HC.seq ?_
  refine HC.region ?_
  refine HL.val (Val.lss rfl rfl) (by decide) ?_
  refine HL.nil ?_
  refine HQ.next ?_
  refine HC.seq ?_
  refine HC.yes rfl ?_
  refine HC.skip ?_
  refine HQ.next ?_
  refine HC.seq ?_
  refine HC.block ?_
  refine HC.seq ?_
  refine HC.region ?_
  refine HL.val (Val.move rfl) (by decide) ?_
  refine HL.val (Val.assign rfl) (by decide) ?_
  refine HL.nil ?_
  refine HQ.next ?_
  refine HC.region ?_
  refine HL.val (Val.move rfl) (by decide) ?_
  refine HL.val (Val.move rfl) (by decide) ?_
  refine HL.val (Val.ixAddrQ 0 (i := 0) (m := 5) (s := 32) (e := 59) rfl rfl Try.underlying72 (by kernel_rfl) (by decide) (by decide)) (by decide) ?_
  refine HL.val (Val.load_mid rfl (fun w hw => hw.at (i := 0) rfl) (byA 32 w0) (elA_get 0 rfl) Try.underlying59 rfl (sz59 _)) (by decide) ?_
  refine HL.val (Val.call en46 (red_to h0 rfl) rfl) (by decide) ?_
  refine HL.val (Val.ixAddrQ 0 (i := 0) (m := 5) (s := 32) (e := 22) rfl rfl Try.underlying50 (by kernel_rfl) (by decide) (by decide)) (by decide) ?_
  refine HL.put 2 rfl (Put.mid (new := elA ([w0, w1, w2, w3, w4].set 0 ((w0 % p25)))) rfl rfl (sz22 _) (leE 0 _ (show 0 < 5 from by decide)) (one32 _) (elA_set_size _ _ _) (elA_put _ 0 _ (show 0 < 5 from by decide))) (.inl hb1) ?_
  simp only [List.set_cons_zero, List.set_cons_succ]
  refine HL.nil ?_
  refine HQ.blockNormal ?_
  refine HQ.next ?_
  refine HC.region ?_
  refine HL.val ((Val.addI rfl rfl).as (v := .int .i64 1) rfl) (by decide) ?_
  refine HL.val (Val.move rfl) (by decide) ?_
  refine HL.nil ?_
  refine HQ.againN ?_
  refine HC.seq ?_
  refine HC.region ?_
  refine HL.val (Val.lss rfl rfl) (by decide) ?_
  refine HL.nil ?_
  refine HQ.next ?_
  refine HC.seq ?_
  refine HC.yes rfl ?_
  refine HC.skip ?_
  refine HQ.next ?_
  refine HC.seq ?_
  refine HC.block ?_
  refine HC.seq ?_
  refine HC.region ?_
  refine HL.val (Val.move rfl) (by decide) ?_
  refine HL.val (Val.assign rfl) (by decide) ?_
  refine HL.nil ?_
  refine HQ.next ?_
  refine HC.region ?_
  refine HL.val (Val.move rfl) (by decide) ?_
  refine HL.val (Val.move rfl) (by decide) ?_
  refine HL.val (Val.ixAddrQ 32 (i := 1) (m := 5) (s := 32) (e := 59) rfl rfl Try.underlying72 (by kernel_rfl) (by decide) (by decide)) (by decide) ?_
  refine HL.val (Val.load_mid rfl (fun w hw => hw.at (i := 0) rfl) (byA 32 x1) (elA_get 1 rfl) Try.underlying59 rfl (sz59 _)) (by decide) ?_
  refine HL.val (Val.call en46 (red_to hs1.l1 hs1.e1) rfl) (by decide) ?_
  refine HL.val (Val.ixAddrQ 32 (i := 1) (m := 5) (s := 32) (e := 22) rfl rfl Try.underlying50 (by kernel_rfl) (by decide) (by decide)) (by decide) ?_
  refine HL.put 2 rfl (Put.mid (new := elA ([(w0 % p25), w1, w2, w3, w4].set 1 ((dN m w1 w2 w3 w4).1))) rfl rfl (sz22 _) (leE 1 _ (show 1 < 5 from by decide)) (one32 _) (elA_set_size _ _ _) (elA_put _ 1 _ (show 1 < 5 from by decide))) (.inl hb1) ?_
  simp only [List.set_cons_zero, List.set_cons_succ]
  refine HL.nil ?_
  refine HQ.blockNormal ?_
  refine HQ.next ?_
  refine HC.region ?_
  refine HL.val ((Val.addI rfl rfl).as (v := .int .i64 2) rfl) (by decide) ?_
  refine HL.val (Val.move rfl) (by decide) ?_
  refine HL.nil ?_
  refine HQ.againN ?_
  refine HC.seq ?_
  refine HC.region ?_
  refine HL.val (Val.lss rfl rfl) (by decide) ?_
  refine HL.nil ?_
  refine HQ.next ?_
  refine HC.seq ?_
  refine HC.yes rfl ?_
  refine HC.skip ?_
  refine HQ.next ?_
  refine HC.seq ?_
  refine HC.block ?_
  refine HC.seq ?_
  refine HC.region ?_
  refine HL.val (Val.move rfl) (by decide) ?_
  refine HL.val (Val.assign rfl) (by decide) ?_
  refine HL.nil ?_
  refine HQ.next ?_
  refine HC.region ?_
  refine HL.val (Val.move rfl) (by decide) ?_
  refine HL.val (Val.move rfl) (by decide) ?_
  refine HL.val (Val.ixAddrQ 64 (i := 2) (m := 5) (s := 32) (e := 59) rfl rfl Try.underlying72 (by kernel_rfl) (by decide) (by decide)) (by decide) ?_
  refine HL.val (Val.load_mid rfl (fun w hw => hw.at (i := 0) rfl) (byA 32 z1) (elA_get 2 rfl) Try.underlying59 rfl (sz59 _)) (by decide) ?_
  refine HL.val (Val.call en46 (red_to hs1.l2 hs1.e2) rfl) (by decide) ?_
  refine HL.val (Val.ixAddrQ 64 (i := 2) (m := 5) (s := 32) (e := 22) rfl rfl Try.underlying50 (by kernel_rfl) (by decide) (by decide)) (by decide) ?_
  refine HL.put 2 rfl (Put.mid (new := elA ([(w0 % p25), (dN m w1 w2 w3 w4).1, w2, w3, w4].set 2 ((dN m w1 w2 w3 w4).2))) rfl rfl (sz22 _) (leE 2 _ (show 2 < 5 from by decide)) (one32 _) (elA_set_size _ _ _) (elA_put _ 2 _ (show 2 < 5 from by decide))) (.inl hb1) ?_
  simp only [List.set_cons_zero, List.set_cons_succ]
  refine HL.nil ?_
  refine HQ.blockNormal ?_
  refine HQ.next ?_
  refine HC.region ?_
  refine HL.val ((Val.addI rfl rfl).as (v := .int .i64 3) rfl) (by decide) ?_
  refine HL.val (Val.move rfl) (by decide) ?_
  refine HL.nil ?_
  refine HQ.againN ?_
  refine HC.seq ?_
  refine HC.region ?_
  refine HL.val (Val.lss rfl rfl) (by decide) ?_
  refine HL.nil ?_
  refine HQ.next ?_
  refine HC.seq ?_
  refine HC.yes rfl ?_
  refine HC.skip ?_
  refine HQ.next ?_
  refine HC.seq ?_
  refine HC.block ?_
  refine HC.seq ?_
  refine HC.region ?_
  refine HL.val (Val.move rfl) (by decide) ?_
  refine HL.val (Val.assign rfl) (by decide) ?_
  refine HL.nil ?_
  refine HQ.next ?_
  refine HC.region ?_
  refine HL.val (Val.move rfl) (by decide) ?_
  refine HL.val (Val.move rfl) (by decide) ?_
  refine HL.val (Val.ixAddrQ 96 (i := 3) (m := 5) (s := 32) (e := 59) rfl rfl Try.underlying72 (by kernel_rfl) (by decide) (by decide)) (by decide) ?_
  refine HL.val (Val.load_mid rfl (fun w hw => hw.at (i := 0) rfl) (byA 32 u1) (elA_get 3 rfl) Try.underlying59 rfl (sz59 _)) (by decide) ?_
  refine HL.val (Val.call en46 (red_to hs1.l3 hs1.e3) rfl) (by decide) ?_
  refine HL.val (Val.ixAddrQ 96 (i := 3) (m := 5) (s := 32) (e := 22) rfl rfl Try.underlying50 (by kernel_rfl) (by decide) (by decide)) (by decide) ?_
  refine HL.put 2 rfl (Put.mid (new := elA ([(w0 % p25), (dN m w1 w2 w3 w4).1, (dN m w1 w2 w3 w4).2, w3, w4].set 3 ((aN m w0 w1 w2 w3 w4).1))) rfl rfl (sz22 _) (leE 3 _ (show 3 < 5 from by decide)) (one32 _) (elA_set_size _ _ _) (elA_put _ 3 _ (show 3 < 5 from by decide))) (.inl hb1) ?_
  simp only [List.set_cons_zero, List.set_cons_succ]
  refine HL.nil ?_
  refine HQ.blockNormal ?_
  refine HQ.next ?_
  refine HC.region ?_
  refine HL.val ((Val.addI rfl rfl).as (v := .int .i64 4) rfl) (by decide) ?_
  refine HL.val (Val.move rfl) (by decide) ?_
  refine HL.nil ?_
  refine HQ.againN ?_
  refine HC.seq ?_
  refine HC.region ?_
  refine HL.val (Val.lss rfl rfl) (by decide) ?_
  refine HL.nil ?_
  refine HQ.next ?_
  refine HC.seq ?_
  refine HC.yes rfl ?_
  refine HC.skip ?_
  refine HQ.next ?_
  refine HC.seq ?_
  refine HC.block ?_
  refine HC.seq ?_
  refine HC.region ?_
  refine HL.val (Val.move rfl) (by decide) ?_
  refine HL.val (Val.assign rfl) (by decide) ?_
  refine HL.nil ?_
  refine HQ.next ?_
  refine HC.region ?_
  refine HL.val (Val.move rfl) (by decide) ?_
  refine HL.val (Val.move rfl) (by decide) ?_
  refine HL.val (Val.ixAddrQ 128 (i := 4) (m := 5) (s := 32) (e := 59) rfl rfl Try.underlying72 (by kernel_rfl) (by decide) (by decide)) (by decide) ?_
  refine HL.val (Val.load_mid rfl (fun w hw => hw.at (i := 0) rfl) (byA 32 v1) (elA_get 4 rfl) Try.underlying59 rfl (sz59 _)) (by decide) ?_
  refine HL.val (Val.call en46 (red_to hs1.l4 hs1.e4) rfl) (by decide) ?_
  refine HL.val (Val.ixAddrQ 128 (i := 4) (m := 5) (s := 32) (e := 22) rfl rfl Try.underlying50 (by kernel_rfl) (by decide) (by decide)) (by decide) ?_
  refine HL.put 2 rfl (Put.mid (new := elA ([(w0 % p25), (dN m w1 w2 w3 w4).1, (dN m w1 w2 w3 w4).2, (aN m w0 w1 w2 w3 w4).1, w4].set 4 ((aN m w0 w1 w2 w3 w4).2))) rfl rfl (sz22 _) (leE 4 _ (show 4 < 5 from by decide)) (one32 _) (elA_set_size _ _ _) (elA_put _ 4 _ (show 4 < 5 from by decide))) (.inl hb1) ?_
  simp only [List.set_cons_zero, List.set_cons_succ]
  refine HL.nil ?_
  refine HQ.blockNormal ?_
  refine HQ.next ?_
  refine HC.region ?_
  refine HL.val ((Val.addI rfl rfl).as (v := .int .i64 5) rfl) (by decide) ?_
  refine HL.val (Val.move rfl) (by decide) ?_
  refine HL.nil ?_
  refine HQ.againN ?_
  refine HC.seq ?_
  refine HC.region ?_
  refine HL.val (Val.lss rfl rfl) (by decide) ?_
  refine HL.nil ?_
  refine HQ.next ?_
  refine HC.seq ?_
  refine HC.no rfl ?_
  refine HC.exit ?_
  refine HQ.thenExit ?_
  refine HQ.thenExit ?_
  refine HQ.blockExit ?_
  refine HQ.next ?_
  refine HC.seq ?_
  refine HC.region ?_
  refine HL.val (Val.load_row rfl (fun w hw => hw.at (i := 2) rfl) Try.underlying50 rfl (sz50 _ _ _ _ _)) (by decide) ?_
  refine HL.put 1 rfl (Put.row rfl rfl (sz50 _ _ _ _ _) (eqsz5 _ _ _ _ _ _ _ _ _ _) (elA_oneC _)) (.inl hb2) ?_
  simp only [List.set_cons_zero, List.set_cons_succ]
  refine HL.nil ?_
  refine HQ.next ?_
  refine HC.ret ?_
  exact HQ.retc 1 rfl rfl rfl Try.underlying50 rfl (sz50 _ _ _ _ _) (pure_end rfl)
end Go.Proofs.Yteehdjkmjncehaa
