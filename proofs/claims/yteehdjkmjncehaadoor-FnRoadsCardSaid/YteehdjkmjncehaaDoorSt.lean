/-
  The ladder's step in the program (written by genst.py).
-/
import Derived.Test.YteehdjkmjncehaaDoorSb
import Derived.Test.YteehdjkmjncehaaDoorHR
namespace Go.Proofs.YteehdjkmjncehaaDoor
open Go.RowKit
/-- What a step leaves. -/
structure StepR (m w0 w1 w2 w3 w4 x z u v : Nat) : Prop where
  l1 : x < 2 ^ 256
  l2 : z < 2 ^ 256
  l3 : u < 2 ^ 256
  l4 : v < 2 ^ 256
  e1 : x % p25 = (dN m w1 w2 w3 w4).1
  e2 : z % p25 = (dN m w1 w2 w3 w4).2
  e3 : u % p25 = (aN m w0 w1 w2 w3 w4).1
  e4 : v % p25 = (aN m w0 w1 w2 w3 w4).2
theorem ownB (b : Nat) {w : World} : w.heap.size ≤ b ∨ (fun k => k == b) b = true := .inr (by simp)
theorem hold_one {w : World} {b : Nat} {ob : Obj} {D : Nat → Bool} (h : w.heap[b]? = some ob) : Hold D w [(b, ob)] w := ⟨Sn.refl _ _, (fun p hp => by
  obtain rfl : p = (b, ob) := by simpa using hp
  exact h), by simp⟩

set_option maxRecDepth 100000 in
theorem ladderStepGeneric_any {bw T w0 w1 w2 w3 w4 m : Nat} {w : World} (hb : w.heap[bw]? = some (obE [w0, w1, w2, w3, w4] T)) (h0 : w0 < 2 ^ 256) (h1 : w1 < 2 ^ 256) (h2 : w2 < 2 ^ 256) (h3 : w3 < 2 ^ 256) (h4 : w4 < 2 ^ 256) (hm : m ≤ 1) :
    Calls Tryd.prog 74 #[.pointer (some ⟨bw, 0, none⟩), .int .u64 (m : Nat)] w fun e w' => ∃ r : Nat × Nat × Nat × Nat, StepR m w0 w1 w2 w3 w4 r.1 r.2.1 r.2.2.1 r.2.2.2 ∧ e = .returned (.tuple #[]) ∧ Hold (fun k => k == bw) w [(bw, obE [w0, r.1, r.2.1, r.2.2.1, r.2.2.2] T)] w' := by
  refine calls_H (args := [.pointer (some ⟨bw, 0, none⟩), .int .u64 (m : Nat)]) (fun k => k == bw) [(bw, obE [w0, w1, w2, w3, w4] T)] Tryd.func74 rfl (m := 90) rfl rfl (hold_one hb) ?_
  refine HC.seq ?_
  refine HC.draw0 19 (by kernel_rfl) (by kernel_rfl) ?_
  simp only [List.take, List.drop]
  refine HV.val (Val.move rfl) (by decide) ?_
  refine HV.val (Val.nilCheck rfl) (by decide) ?_
  refine HV.val (Val.ixAddrQ 0 (i := 0) (m := 5) (s := 32) (e := 41) rfl rfl Tryd.underlying64 (by kernel_rfl) (by decide) (by decide)) (by decide) ?_
  refine HV.val (Val.move rfl) (by decide) ?_
  refine HV.val (Val.nilCheck rfl) (by decide) ?_
  refine HV.val (Val.ixAddrQ 32 (i := 1) (m := 5) (s := 32) (e := 41) rfl rfl Tryd.underlying64 (by kernel_rfl) (by decide) (by decide)) (by decide) ?_
  refine HV.val (Val.move rfl) (by decide) ?_
  refine HV.val (Val.nilCheck rfl) (by decide) ?_
  refine HV.val (Val.ixAddrQ 64 (i := 2) (m := 5) (s := 32) (e := 41) rfl rfl Tryd.underlying64 (by kernel_rfl) (by decide) (by decide)) (by decide) ?_
  refine HV.val (Val.move rfl) (by decide) ?_
  refine HV.val (Val.nilCheck rfl) (by decide) ?_
  refine HV.val (Val.ixAddrQ 96 (i := 3) (m := 5) (s := 32) (e := 41) rfl rfl Tryd.underlying64 (by kernel_rfl) (by decide) (by decide)) (by decide) ?_
  refine HV.val (Val.move rfl) (by decide) ?_
  refine HV.val (Val.nilCheck rfl) (by decide) ?_
  refine HV.val (Val.ixAddrQ 128 (i := 4) (m := 5) (s := 32) (e := 41) rfl rfl Tryd.underlying64 (by kernel_rfl) (by decide) (by decide)) (by decide) ?_
  refine HV.val (Val.assign rfl) (by decide) ?_
  refine HV.val (Val.assign rfl) (by decide) ?_
  refine HV.val (Val.assign rfl) (by decide) ?_
  refine HV.val (Val.assign rfl) (by decide) ?_
  refine HV.tail0 ?_
  refine HL.val (Val.assign rfl) (by decide) ?_
  refine HL.nil ?_
  refine HQ.next ?_
  refine HC.seq ?_
  refine HC.region ?_
  refine HL.val (Val.build rfl bz41) (by decide) ?_
  refine HL.new (New.box rfl) (by decide) ?_
  intro b1 hb1
  refine HL.val (Val.assign rfl) (by decide) ?_
  refine HL.nil ?_
  refine HQ.next ?_
  refine HC.seq ?_
  refine HC.region ?_
  refine HL.val (Val.build rfl bz41) (by decide) ?_
  refine HL.new (New.box rfl) (by decide) ?_
  intro b2 hb2
  refine HL.val (Val.assign rfl) (by decide) ?_
  refine HL.nil ?_
  refine HQ.next ?_
  refine HC.seq ?_
  refine HC.region ?_
  refine HL.val (Val.move rfl) (by decide) ?_
  refine HL.val (Val.move rfl) (by decide) ?_
  refine HL.call (f := 44) en44 rfl (asH5 2 1 2 rfl rfl rfl (ownB bw) h1 h2) (by decide) ?_
  rintro ⟨r1, s1⟩ ⟨lr1, ls1, hr1, hs1⟩
  dsimp only at lr1 ls1 hr1 hs1 ⊢
  simp only [List.set_cons_zero, List.set_cons_succ]
  refine HL.nil ?_
  refine HQ.next ?_
  refine HC.seq ?_
  refine HC.region ?_
  refine HL.val (Val.move rfl) (by decide) ?_
  refine HL.val (Val.move rfl) (by decide) ?_
  refine HL.call (f := 44) en44 rfl (asH5 2 3 4 rfl rfl rfl (ownB bw) h3 h4) (by decide) ?_
  rintro ⟨r2, s2⟩ ⟨lr2, ls2, hr2, hs2⟩
  dsimp only at lr2 ls2 hr2 hs2 ⊢
  simp only [List.set_cons_zero, List.set_cons_succ]
  refine HL.nil ?_
  refine HQ.next ?_
  refine HC.seq ?_
  refine HC.region ?_
  refine HL.val (Val.move rfl) (by decide) ?_
  refine HL.val (Val.move rfl) (by decide) ?_
  refine HL.val (Val.move rfl) (by decide) ?_
  refine HL.call (f := 48) en48 rfl (mulH (dst1 1 rfl (.inl hb1)) (elh5 2 1 rfl rfl) lr1 (elh5 2 4 rfl rfl) ls2) (by decide) ?_
  rintro r3 ⟨lr3, hr3⟩
  simp only [List.set_cons_zero, List.set_cons_succ]
  refine HL.nil ?_
  refine HQ.next ?_
  refine HC.seq ?_
  refine HC.region ?_
  refine HL.val (Val.move rfl) (by decide) ?_
  refine HL.val (Val.move rfl) (by decide) ?_
  refine HL.val (Val.move rfl) (by decide) ?_
  refine HL.call (f := 48) en48 rfl (mulH (dst1 0 rfl (.inl hb2)) (elh5 2 3 rfl rfl) lr2 (elh5 2 2 rfl rfl) ls1) (by decide) ?_
  rintro r4 ⟨lr4, hr4⟩
  simp only [List.set_cons_zero]
  refine HL.nil ?_
  refine HQ.next ?_
  refine HC.seq ?_
  refine HC.region ?_
  refine HL.val (Val.move rfl) (by decide) ?_
  refine HL.val (Val.move rfl) (by decide) ?_
  refine HL.call (f := 44) en44 rfl (asH2 1 0 rfl rfl (by decide) (.inl hb1) (.inl hb2) lr3 lr4) (by decide) ?_
  rintro ⟨r5, s5⟩ ⟨lr5, ls5, hr5, hs5⟩
  dsimp only at lr5 ls5 hr5 hs5 ⊢
  simp only [List.set_cons_zero, List.set_cons_succ]
  refine HL.nil ?_
  refine HQ.next ?_
  refine HC.seq ?_
  refine HC.region ?_
  refine HL.val (Val.move rfl) (by decide) ?_
  refine HL.val (Val.move rfl) (by decide) ?_
  refine HL.val (Val.move rfl) (by decide) ?_
  refine HL.call (f := 84) en84 rfl (cmovH (dst5 2 1 rfl (show 1 < 5 from by decide) (ownB bw)) (elh5 2 1 rfl rfl) (elh5 2 3 rfl rfl) lr1 lr2 hm) (by decide) ?_
  rintro r6 ⟨lr6, hr6⟩
  simp only [List.set_cons_zero, List.set_cons_succ]
  refine HL.nil ?_
  refine HQ.next ?_
  refine HC.seq ?_
  refine HC.region ?_
  refine HL.val (Val.move rfl) (by decide) ?_
  refine HL.val (Val.move rfl) (by decide) ?_
  refine HL.val (Val.move rfl) (by decide) ?_
  refine HL.call (f := 84) en84 rfl (cmovH (dst5 2 2 rfl (show 2 < 5 from by decide) (ownB bw)) (elh5 2 2 rfl rfl) (elh5 2 4 rfl rfl) ls1 ls2 hm) (by decide) ?_
  rintro r7 ⟨lr7, hr7⟩
  simp only [List.set_cons_zero, List.set_cons_succ]
  refine HL.nil ?_
  refine HQ.next ?_
  refine HC.seq ?_
  refine HC.region ?_
  refine HL.val (Val.move rfl) (by decide) ?_
  refine HL.val (Val.move rfl) (by decide) ?_
  refine HL.call (f := 47) en47 rfl (sqrH (dst5 2 3 rfl (show 3 < 5 from by decide) (ownB bw)) (elh1 1 rfl) lr5) (by decide) ?_
  rintro r8 ⟨lr8, hr8⟩
  simp only [List.set_cons_zero, List.set_cons_succ]
  refine HL.nil ?_
  refine HQ.next ?_
  refine HC.seq ?_
  refine HC.region ?_
  refine HL.val (Val.move rfl) (by decide) ?_
  refine HL.val (Val.move rfl) (by decide) ?_
  refine HL.call (f := 47) en47 rfl (sqrH (dst5 2 4 rfl (show 4 < 5 from by decide) (ownB bw)) (elh1 0 rfl) ls5) (by decide) ?_
  rintro r9 ⟨lr9, hr9⟩
  simp only [List.set_cons_zero, List.set_cons_succ]
  refine HL.nil ?_
  refine HQ.next ?_
  refine HC.seq ?_
  refine HC.region ?_
  refine HL.val (Val.move rfl) (by decide) ?_
  refine HL.val (Val.move rfl) (by decide) ?_
  refine HL.val (Val.move rfl) (by decide) ?_
  refine HL.call (f := 48) en48 rfl (mulH (dst5 2 4 rfl (show 4 < 5 from by decide) (ownB bw)) (elh5 2 0 rfl rfl) h0 (elh5 2 4 rfl rfl) lr9) (by decide) ?_
  rintro r10 ⟨lr10, hr10⟩
  simp only [List.set_cons_zero, List.set_cons_succ]
  refine HL.nil ?_
  refine HQ.next ?_
  refine HC.seq ?_
  refine HC.region ?_
  refine HL.val (Val.move rfl) (by decide) ?_
  refine HL.val (Val.move rfl) (by decide) ?_
  refine HL.call (f := 47) en47 rfl (sqrH (dst5 2 1 rfl (show 1 < 5 from by decide) (ownB bw)) (elh5 2 1 rfl rfl) lr6) (by decide) ?_
  rintro r11 ⟨lr11, hr11⟩
  simp only [List.set_cons_zero, List.set_cons_succ]
  refine HL.nil ?_
  refine HQ.next ?_
  refine HC.seq ?_
  refine HC.region ?_
  refine HL.val (Val.move rfl) (by decide) ?_
  refine HL.val (Val.move rfl) (by decide) ?_
  refine HL.call (f := 47) en47 rfl (sqrH (dst5 2 2 rfl (show 2 < 5 from by decide) (ownB bw)) (elh5 2 2 rfl rfl) lr7) (by decide) ?_
  rintro r12 ⟨lr12, hr12⟩
  simp only [List.set_cons_zero, List.set_cons_succ]
  refine HL.nil ?_
  refine HQ.next ?_
  refine HC.seq ?_
  refine HC.region ?_
  refine HL.val (Val.move rfl) (by decide) ?_
  refine HL.val (Val.move rfl) (by decide) ?_
  refine HL.val (Val.move rfl) (by decide) ?_
  refine HL.call (f := 45) en45 rfl (subH (dst1 1 rfl (.inl hb1)) (elh5 2 1 rfl rfl) lr11 (elh5 2 2 rfl rfl) lr12) (by decide) ?_
  rintro r13 ⟨lr13, hr13⟩
  simp only [List.set_cons_zero, List.set_cons_succ]
  refine HL.nil ?_
  refine HQ.next ?_
  refine HC.seq ?_
  refine HC.region ?_
  refine HL.val (Val.move rfl) (by decide) ?_
  refine HL.val (Val.move rfl) (by decide) ?_
  refine HL.call (f := 85) en85 rfl (a24H (dst1 0 rfl (.inl hb2)) (elh1 1 rfl) lr13) (by decide) ?_
  rintro r14 ⟨lr14, hr14⟩
  simp only [List.set_cons_zero]
  refine HL.nil ?_
  refine HQ.next ?_
  refine HC.seq ?_
  refine HC.region ?_
  refine HL.val (Val.move rfl) (by decide) ?_
  refine HL.val (Val.move rfl) (by decide) ?_
  refine HL.val (Val.move rfl) (by decide) ?_
  refine HL.call (f := 46) en46 rfl (addH (dst1 0 rfl (.inl hb2)) (elh1 0 rfl) lr14 (elh5 2 2 rfl rfl) lr12) (by decide) ?_
  rintro r15 ⟨lr15, hr15⟩
  simp only [List.set_cons_zero]
  refine HL.nil ?_
  refine HQ.next ?_
  refine HC.seq ?_
  refine HC.region ?_
  refine HL.val (Val.move rfl) (by decide) ?_
  refine HL.val (Val.move rfl) (by decide) ?_
  refine HL.val (Val.move rfl) (by decide) ?_
  refine HL.call (f := 48) en48 rfl (mulH (dst5 2 1 rfl (show 1 < 5 from by decide) (ownB bw)) (elh5 2 1 rfl rfl) lr11 (elh5 2 2 rfl rfl) lr12) (by decide) ?_
  rintro r16 ⟨lr16, hr16⟩
  simp only [List.set_cons_zero, List.set_cons_succ]
  refine HL.nil ?_
  refine HQ.next ?_
  refine HC.region ?_
  refine HL.val (Val.move rfl) (by decide) ?_
  refine HL.val (Val.move rfl) (by decide) ?_
  refine HL.val (Val.move rfl) (by decide) ?_
  refine HL.call (f := 48) en48 rfl (mulH (dst5 2 2 rfl (show 2 < 5 from by decide) (ownB bw)) (elh1 1 rfl) lr13 (elh1 0 rfl) lr15) (by decide) ?_
  rintro r17 ⟨lr17, hr17⟩
  simp only [List.set_cons_zero, List.set_cons_succ]
  refine HL.nil ?_
  obtain ⟨q1, q2, q3, q4⟩ := step_law hm hr1 hs1 hr2 hs2 hr3 hr4 hr5 hs5 hr6 hr7 hr8 hr9 hr10 hr11 hr12 hr13 hr14 hr15 hr16 hr17
  exact HQ.end0 rfl (fun w hw => ⟨(r16, r17, r8, r10), ⟨lr16, lr17, lr8, lr10, q1, q2, q3, q4⟩, rfl, hw.pick [2] (by simp)⟩)

theorem lsgH (i : Nat) {D : Nat → Bool} {u0 : World} {η : List (Nat × Obj)} {bw T w0 w1 w2 w3 w4 m : Nat} (hi : η[i]? = some (bw, obE [w0, w1, w2, w3, w4] T)) (hD : u0.heap.size ≤ bw ∨ D bw = true) (h0 : w0 < 2 ^ 256) (h1 : w1 < 2 ^ 256) (h2 : w2 < 2 ^ 256) (h3 : w3 < 2 ^ 256) (h4 : w4 < 2 ^ 256) (hm : m ≤ 1) :
    ∀ w, Hold D u0 η w → Calls Tryd.prog 74 #[.pointer (some ⟨bw, 0, none⟩), .int .u64 (m : Nat)] w fun e w' => ∃ r : Nat × Nat × Nat × Nat, StepR m w0 w1 w2 w3 w4 r.1 r.2.1 r.2.2.1 r.2.2.2 ∧ e = .returned (.tuple #[]) ∧ Hold D u0 (η.set i (bw, obE [w0, r.1, r.2.1, r.2.2.1, r.2.2.2] T)) w' := fun _ hw =>
  (ladderStepGeneric_any (hw.at hi) h0 h1 h2 h3 h4 hm).mono fun _ _ ⟨r, hr, he, hh⟩ => ⟨r, hr, he, hw.lift1 hi hD hh (hh.at (i := 0) rfl)⟩

set_option maxRecDepth 100000 in
theorem ladderStep_any {bw T w0 w1 w2 w3 w4 m : Nat} {w : World} (hb : w.heap[bw]? = some (obE [w0, w1, w2, w3, w4] T)) (h0 : w0 < 2 ^ 256) (h1 : w1 < 2 ^ 256) (h2 : w2 < 2 ^ 256) (h3 : w3 < 2 ^ 256) (h4 : w4 < 2 ^ 256) (hm : m ≤ 1) :
    Calls Tryd.prog 65 #[.pointer (some ⟨bw, 0, none⟩), .int .u64 (m : Nat)] w fun e w' => ∃ r : Nat × Nat × Nat × Nat, StepR m w0 w1 w2 w3 w4 r.1 r.2.1 r.2.2.1 r.2.2.2 ∧ e = .returned (.tuple #[]) ∧ Hold (fun k => k == bw) w [(bw, obE [w0, r.1, r.2.1, r.2.2.1, r.2.2.2] T)] w' := by
  refine calls_H (args := [.pointer (some ⟨bw, 0, none⟩), .int .u64 (m : Nat)]) (fun k => k == bw) [(bw, obE [w0, w1, w2, w3, w4] T)] Tryd.func65 rfl (m := 7) rfl rfl (hold_one hb) ?_
  refine HC.region ?_
  refine HL.val (Val.move rfl) (by decide) ?_
  refine HL.val (Val.move rfl) (by decide) ?_
  refine HL.call (f := 74) en74 rfl (lsgH 0 rfl (ownB bw) h0 h1 h2 h3 h4 hm) (by decide) ?_
  rintro ⟨x1, z1, u1, v1⟩ hs1
  dsimp only at hs1 ⊢
  simp only [List.set_cons_zero]
  refine HL.nil ?_
  exact HQ.end0 rfl (fun w hw => ⟨(x1, z1, u1, v1), hs1, rfl, hw.pick [0] (by simp)⟩)

theorem lsH (i : Nat) {D : Nat → Bool} {u0 : World} {η : List (Nat × Obj)} {bw T w0 w1 w2 w3 w4 m : Nat} (hi : η[i]? = some (bw, obE [w0, w1, w2, w3, w4] T)) (hD : u0.heap.size ≤ bw ∨ D bw = true) (h0 : w0 < 2 ^ 256) (h1 : w1 < 2 ^ 256) (h2 : w2 < 2 ^ 256) (h3 : w3 < 2 ^ 256) (h4 : w4 < 2 ^ 256) (hm : m ≤ 1) :
    ∀ w, Hold D u0 η w → Calls Tryd.prog 65 #[.pointer (some ⟨bw, 0, none⟩), .int .u64 (m : Nat)] w fun e w' => ∃ r : Nat × Nat × Nat × Nat, StepR m w0 w1 w2 w3 w4 r.1 r.2.1 r.2.2.1 r.2.2.2 ∧ e = .returned (.tuple #[]) ∧ Hold D u0 (η.set i (bw, obE [w0, r.1, r.2.1, r.2.2.1, r.2.2.2] T)) w' := fun _ hw =>
  (ladderStep_any (hw.at hi) h0 h1 h2 h3 h4 hm).mono fun _ _ ⟨r, hr, he, hh⟩ => ⟨r, hr, he, hw.lift1 hi hD hh (hh.at (i := 0) rfl)⟩
end Go.Proofs.YteehdjkmjncehaaDoor
