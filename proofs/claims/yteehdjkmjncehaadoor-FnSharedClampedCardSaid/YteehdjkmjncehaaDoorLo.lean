/-
  spec.IsLow, and which points are of low order (written by genlo.py).
-/
import Derived.Test.YteehdjkmjncehaaDoorSc
import Derived.Test.YteehdjkmjncehaaDoorVa
import Derived.Test.YteehdjkmjncehaaDoorMC
namespace Go.Proofs.YteehdjkmjncehaaDoor
open Go.RowKit

set_option maxRecDepth 100000 in
theorem isLow0 (u : Nat) (hu : u < 2 ^ 256) : Pure Tryd.prog 19 #[nV u] (.bool (decide ((dN 0 (dN 0 (dN 0 u 1 0 0).1 (dN 0 u 1 0 0).2 0 0).1 (dN 0 (dN 0 u 1 0 0).1 (dN 0 u 1 0 0).2 0 0).2 0 0).2 = 0))) := by
  intro w
  refine calls_H (args := [nV u]) noD [] Tryd.func19 rfl (m := 23) rfl rfl (hold_nil _ _) ?_
  refine HC.seq ?_
  refine HC.region ?_
  refine HL.new (New.box rfl) (by decide) ?_
  intro b1 hb1
  refine HL.val (Val.assign rfl) (by decide) ?_
  refine HL.nil ?_
  refine HQ.next ?_
  refine HC.seq ?_
  refine HC.draw1 4 (by kernel_rfl) (by kernel_rfl) rfl ?_
  simp only [List.take, List.drop]
  refine HV.val (Val.build rfl bz25) (by decide) ?_
  refine HV.val (Val.load_row rfl (fun w hw => hw.at (i := 0) rfl) Tryd.underlying25 rfl (sz25 _)) (by decide) ?_
  refine HV.val (Val.call en35 (small35 1 (by decide)) rfl) (by decide) ?_
  refine HV.val (Val.build rfl (bn3 0 u 1)) (by decide) ?_
  refine HV.tail1 (New.alloc al49) (by decide) ?_
  intro b2 hb2
  refine HL.put 0 rfl (Put.row rfl rfl (sz49 _) (eqszN _ _ 80) (oneN 80 _)) (.inl hb2) ?_
  simp only [List.set_cons_zero]
  refine HL.nil ?_
  refine HQ.next ?_
  refine HC.seq ?_
  refine HC.seq ?_
  refine HC.region ?_
  refine HL.val (Val.assign rfl) (by decide) ?_
  refine HL.nil ?_
  refine HQ.next ?_
  refine HC.block ?_
  refine HC.loopN 3 ?_
  refine HC.seq ?_
  refine HC.seq ?_
  refine HC.region ?_
  refine HL.val (Val.move rfl) (by decide) ?_
  refine HL.val (Val.lss rfl rfl) (by decide) ?_
  refine HL.nil ?_
  refine HQ.next ?_
  refine HC.yes rfl ?_
  refine HC.skip ?_
  refine HQ.next ?_
  refine HC.seq ?_
  refine HC.block ?_
  refine HC.seq ?_
  refine HC.region ?_
  refine HL.val (Val.load_row rfl (fun w hw => hw.at (i := 0) rfl) Tryd.underlying49 rfl (sz49 _)) (by decide) ?_
  refine HL.val (Val.call en36 (specStep0 0 u 1 0 0 (by decide) hu (by decide) (by decide) (by decide)) rfl) (by decide) ?_
  refine HL.put 0 rfl (Put.row rfl rfl (sz49 _) (eqszN _ _ 80) (oneN 80 _)) (.inl hb2) ?_
  simp only [List.set_cons_zero]
  refine HL.nil ?_
  refine HQ.next ?_
  refine HC.region ?_
  refine HL.val (Val.build rfl bz25) (by decide) ?_
  refine HL.val (Val.build rfl bz25) (by decide) ?_
  refine HL.val (Val.ixAddrQ 48 (i := 3) (m := 5) (s := 16) (e := 25) rfl rfl Tryd.underlying49 (by kernel_rfl) (by decide) (by decide)) (by decide) ?_
  refine HL.put 0 rfl (Put.mid (new := dgA 80 (w5F ((0 % p25)) ((dN 0 u 1 0 0).1) ((dN 0 u 1 0 0).2) 0 ((aN 0 0 u 1 0 0).2))) rfl rfl (sz25 _) (by rw [dgA_size, dgA_size]; decide) (oneN 16 _) (eqszN _ _ 80) (w5_put3 ((0 % p25)) ((dN 0 u 1 0 0).1) ((dN 0 u 1 0 0).2) ((aN 0 0 u 1 0 0).1) ((aN 0 0 u 1 0 0).2) 0)) (.inl hb2) ?_
  simp only [List.set_cons_zero]
  refine HL.val (Val.ixAddrQ 64 (i := 4) (m := 5) (s := 16) (e := 25) rfl rfl Tryd.underlying49 (by kernel_rfl) (by decide) (by decide)) (by decide) ?_
  refine HL.put 0 rfl (Put.mid (new := dgA 80 (w5F ((0 % p25)) ((dN 0 u 1 0 0).1) ((dN 0 u 1 0 0).2) 0 0)) rfl rfl (sz25 _) (by rw [dgA_size, dgA_size]; decide) (oneN 16 _) (eqszN _ _ 80) (w5_put4 ((0 % p25)) ((dN 0 u 1 0 0).1) ((dN 0 u 1 0 0).2) 0 ((aN 0 0 u 1 0 0).2) 0)) (.inl hb2) ?_
  simp only [List.set_cons_zero]
  refine HL.nil ?_
  refine HQ.blockNormal ?_
  refine HQ.next ?_
  refine HC.region ?_
  refine HL.val (Val.move rfl) (by decide) ?_
  refine HL.val ((Val.addI rfl rfl).as (v := .int .i64 1) rfl) (by decide) ?_
  refine HL.val (Val.assign rfl) (by decide) ?_
  refine HL.nil ?_
  refine HQ.againN ?_
  refine HC.seq ?_
  refine HC.seq ?_
  refine HC.region ?_
  refine HL.val (Val.move rfl) (by decide) ?_
  refine HL.val (Val.lss rfl rfl) (by decide) ?_
  refine HL.nil ?_
  refine HQ.next ?_
  refine HC.yes rfl ?_
  refine HC.skip ?_
  refine HQ.next ?_
  refine HC.seq ?_
  refine HC.block ?_
  refine HC.seq ?_
  refine HC.region ?_
  refine HL.val (Val.load_row rfl (fun w hw => hw.at (i := 0) rfl) Tryd.underlying49 rfl (sz49 _)) (by decide) ?_
  refine HL.val (Val.call en36 (specStep0 ((0 % p25)) ((dN 0 u 1 0 0).1) ((dN 0 u 1 0 0).2) 0 0 (lt256 _) (dN_lt1 _ _ _ _ _ ) (dN_lt2 _ _ _ _ _ ) (by decide) (by decide)) rfl) (by decide) ?_
  refine HL.put 0 rfl (Put.row rfl rfl (sz49 _) (eqszN _ _ 80) (oneN 80 _)) (.inl hb2) ?_
  simp only [List.set_cons_zero]
  refine HL.nil ?_
  refine HQ.next ?_
  refine HC.region ?_
  refine HL.val (Val.build rfl bz25) (by decide) ?_
  refine HL.val (Val.build rfl bz25) (by decide) ?_
  refine HL.val (Val.ixAddrQ 48 (i := 3) (m := 5) (s := 16) (e := 25) rfl rfl Tryd.underlying49 (by kernel_rfl) (by decide) (by decide)) (by decide) ?_
  refine HL.put 0 rfl (Put.mid (new := dgA 80 (w5F ((((0 % p25)) % p25)) ((dN 0 ((dN 0 u 1 0 0).1) ((dN 0 u 1 0 0).2) 0 0).1) ((dN 0 ((dN 0 u 1 0 0).1) ((dN 0 u 1 0 0).2) 0 0).2) 0 ((aN 0 ((0 % p25)) ((dN 0 u 1 0 0).1) ((dN 0 u 1 0 0).2) 0 0).2))) rfl rfl (sz25 _) (by rw [dgA_size, dgA_size]; decide) (oneN 16 _) (eqszN _ _ 80) (w5_put3 ((((0 % p25)) % p25)) ((dN 0 ((dN 0 u 1 0 0).1) ((dN 0 u 1 0 0).2) 0 0).1) ((dN 0 ((dN 0 u 1 0 0).1) ((dN 0 u 1 0 0).2) 0 0).2) ((aN 0 ((0 % p25)) ((dN 0 u 1 0 0).1) ((dN 0 u 1 0 0).2) 0 0).1) ((aN 0 ((0 % p25)) ((dN 0 u 1 0 0).1) ((dN 0 u 1 0 0).2) 0 0).2) 0)) (.inl hb2) ?_
  simp only [List.set_cons_zero]
  refine HL.val (Val.ixAddrQ 64 (i := 4) (m := 5) (s := 16) (e := 25) rfl rfl Tryd.underlying49 (by kernel_rfl) (by decide) (by decide)) (by decide) ?_
  refine HL.put 0 rfl (Put.mid (new := dgA 80 (w5F ((((0 % p25)) % p25)) ((dN 0 ((dN 0 u 1 0 0).1) ((dN 0 u 1 0 0).2) 0 0).1) ((dN 0 ((dN 0 u 1 0 0).1) ((dN 0 u 1 0 0).2) 0 0).2) 0 0)) rfl rfl (sz25 _) (by rw [dgA_size, dgA_size]; decide) (oneN 16 _) (eqszN _ _ 80) (w5_put4 ((((0 % p25)) % p25)) ((dN 0 ((dN 0 u 1 0 0).1) ((dN 0 u 1 0 0).2) 0 0).1) ((dN 0 ((dN 0 u 1 0 0).1) ((dN 0 u 1 0 0).2) 0 0).2) 0 ((aN 0 ((0 % p25)) ((dN 0 u 1 0 0).1) ((dN 0 u 1 0 0).2) 0 0).2) 0)) (.inl hb2) ?_
  simp only [List.set_cons_zero]
  refine HL.nil ?_
  refine HQ.blockNormal ?_
  refine HQ.next ?_
  refine HC.region ?_
  refine HL.val (Val.move rfl) (by decide) ?_
  refine HL.val ((Val.addI rfl rfl).as (v := .int .i64 2) rfl) (by decide) ?_
  refine HL.val (Val.assign rfl) (by decide) ?_
  refine HL.nil ?_
  refine HQ.againN ?_
  refine HC.seq ?_
  refine HC.seq ?_
  refine HC.region ?_
  refine HL.val (Val.move rfl) (by decide) ?_
  refine HL.val (Val.lss rfl rfl) (by decide) ?_
  refine HL.nil ?_
  refine HQ.next ?_
  refine HC.yes rfl ?_
  refine HC.skip ?_
  refine HQ.next ?_
  refine HC.seq ?_
  refine HC.block ?_
  refine HC.seq ?_
  refine HC.region ?_
  refine HL.val (Val.load_row rfl (fun w hw => hw.at (i := 0) rfl) Tryd.underlying49 rfl (sz49 _)) (by decide) ?_
  refine HL.val (Val.call en36 (specStep0 ((((0 % p25)) % p25)) ((dN 0 ((dN 0 u 1 0 0).1) ((dN 0 u 1 0 0).2) 0 0).1) ((dN 0 ((dN 0 u 1 0 0).1) ((dN 0 u 1 0 0).2) 0 0).2) 0 0 (lt256 _) (dN_lt1 _ _ _ _ _ ) (dN_lt2 _ _ _ _ _ ) (by decide) (by decide)) rfl) (by decide) ?_
  refine HL.put 0 rfl (Put.row rfl rfl (sz49 _) (eqszN _ _ 80) (oneN 80 _)) (.inl hb2) ?_
  simp only [List.set_cons_zero]
  refine HL.nil ?_
  refine HQ.next ?_
  refine HC.region ?_
  refine HL.val (Val.build rfl bz25) (by decide) ?_
  refine HL.val (Val.build rfl bz25) (by decide) ?_
  refine HL.val (Val.ixAddrQ 48 (i := 3) (m := 5) (s := 16) (e := 25) rfl rfl Tryd.underlying49 (by kernel_rfl) (by decide) (by decide)) (by decide) ?_
  refine HL.put 0 rfl (Put.mid (new := dgA 80 (w5F ((((((0 % p25)) % p25)) % p25)) ((dN 0 ((dN 0 ((dN 0 u 1 0 0).1) ((dN 0 u 1 0 0).2) 0 0).1) ((dN 0 ((dN 0 u 1 0 0).1) ((dN 0 u 1 0 0).2) 0 0).2) 0 0).1) ((dN 0 ((dN 0 ((dN 0 u 1 0 0).1) ((dN 0 u 1 0 0).2) 0 0).1) ((dN 0 ((dN 0 u 1 0 0).1) ((dN 0 u 1 0 0).2) 0 0).2) 0 0).2) 0 ((aN 0 ((((0 % p25)) % p25)) ((dN 0 ((dN 0 u 1 0 0).1) ((dN 0 u 1 0 0).2) 0 0).1) ((dN 0 ((dN 0 u 1 0 0).1) ((dN 0 u 1 0 0).2) 0 0).2) 0 0).2))) rfl rfl (sz25 _) (by rw [dgA_size, dgA_size]; decide) (oneN 16 _) (eqszN _ _ 80) (w5_put3 ((((((0 % p25)) % p25)) % p25)) ((dN 0 ((dN 0 ((dN 0 u 1 0 0).1) ((dN 0 u 1 0 0).2) 0 0).1) ((dN 0 ((dN 0 u 1 0 0).1) ((dN 0 u 1 0 0).2) 0 0).2) 0 0).1) ((dN 0 ((dN 0 ((dN 0 u 1 0 0).1) ((dN 0 u 1 0 0).2) 0 0).1) ((dN 0 ((dN 0 u 1 0 0).1) ((dN 0 u 1 0 0).2) 0 0).2) 0 0).2) ((aN 0 ((((0 % p25)) % p25)) ((dN 0 ((dN 0 u 1 0 0).1) ((dN 0 u 1 0 0).2) 0 0).1) ((dN 0 ((dN 0 u 1 0 0).1) ((dN 0 u 1 0 0).2) 0 0).2) 0 0).1) ((aN 0 ((((0 % p25)) % p25)) ((dN 0 ((dN 0 u 1 0 0).1) ((dN 0 u 1 0 0).2) 0 0).1) ((dN 0 ((dN 0 u 1 0 0).1) ((dN 0 u 1 0 0).2) 0 0).2) 0 0).2) 0)) (.inl hb2) ?_
  simp only [List.set_cons_zero]
  refine HL.val (Val.ixAddrQ 64 (i := 4) (m := 5) (s := 16) (e := 25) rfl rfl Tryd.underlying49 (by kernel_rfl) (by decide) (by decide)) (by decide) ?_
  refine HL.put 0 rfl (Put.mid (new := dgA 80 (w5F ((((((0 % p25)) % p25)) % p25)) ((dN 0 ((dN 0 ((dN 0 u 1 0 0).1) ((dN 0 u 1 0 0).2) 0 0).1) ((dN 0 ((dN 0 u 1 0 0).1) ((dN 0 u 1 0 0).2) 0 0).2) 0 0).1) ((dN 0 ((dN 0 ((dN 0 u 1 0 0).1) ((dN 0 u 1 0 0).2) 0 0).1) ((dN 0 ((dN 0 u 1 0 0).1) ((dN 0 u 1 0 0).2) 0 0).2) 0 0).2) 0 0)) rfl rfl (sz25 _) (by rw [dgA_size, dgA_size]; decide) (oneN 16 _) (eqszN _ _ 80) (w5_put4 ((((((0 % p25)) % p25)) % p25)) ((dN 0 ((dN 0 ((dN 0 u 1 0 0).1) ((dN 0 u 1 0 0).2) 0 0).1) ((dN 0 ((dN 0 u 1 0 0).1) ((dN 0 u 1 0 0).2) 0 0).2) 0 0).1) ((dN 0 ((dN 0 ((dN 0 u 1 0 0).1) ((dN 0 u 1 0 0).2) 0 0).1) ((dN 0 ((dN 0 u 1 0 0).1) ((dN 0 u 1 0 0).2) 0 0).2) 0 0).2) 0 ((aN 0 ((((0 % p25)) % p25)) ((dN 0 ((dN 0 u 1 0 0).1) ((dN 0 u 1 0 0).2) 0 0).1) ((dN 0 ((dN 0 u 1 0 0).1) ((dN 0 u 1 0 0).2) 0 0).2) 0 0).2) 0)) (.inl hb2) ?_
  simp only [List.set_cons_zero]
  refine HL.nil ?_
  refine HQ.blockNormal ?_
  refine HQ.next ?_
  refine HC.region ?_
  refine HL.val (Val.move rfl) (by decide) ?_
  refine HL.val ((Val.addI rfl rfl).as (v := .int .i64 3) rfl) (by decide) ?_
  refine HL.val (Val.assign rfl) (by decide) ?_
  refine HL.nil ?_
  refine HQ.againN ?_
  refine HC.seq ?_
  refine HC.seq ?_
  refine HC.region ?_
  refine HL.val (Val.move rfl) (by decide) ?_
  refine HL.val (Val.lss rfl rfl) (by decide) ?_
  refine HL.nil ?_
  refine HQ.next ?_
  refine HC.no rfl ?_
  refine HC.exit ?_
  refine HQ.thenExit ?_
  refine HQ.thenExit ?_
  refine HQ.blockExit ?_
  refine HQ.next ?_
  refine HC.seq ?_
  refine HC.region ?_
  refine HL.val (Val.ixAddrQ 32 (i := 2) (m := 5) (s := 16) (e := 25) rfl rfl Tryd.underlying49 (by kernel_rfl) (by decide) (by decide)) (by decide) ?_
  refine HL.val (Val.load_mid rfl (fun w hw => hw.at (i := 0) rfl) (dgA 16 (dig ((dN 0 ((dN 0 ((dN 0 u 1 0 0).1) ((dN 0 u 1 0 0).2) 0 0).1) ((dN 0 ((dN 0 u 1 0 0).1) ((dN 0 u 1 0 0).2) 0 0).2) 0 0).2))) (w5_get2 _ _ _ _ _) Tryd.underlying25 rfl (sz25 _)) (by decide) ?_
  refine HL.val (Val.build rfl bz25) (by decide) ?_
  refine HL.val (Val.eqlA rfl rfl (by kernel_rfl) (eqlN ((dN 0 ((dN 0 ((dN 0 u 1 0 0).1) ((dN 0 u 1 0 0).2) 0 0).1) ((dN 0 ((dN 0 u 1 0 0).1) ((dN 0 u 1 0 0).2) 0 0).2) 0 0).2) 0 (dN_lt2 _ _ _ _ _ ) (by decide))) (by decide) ?_
  refine HL.val (Val.assign rfl) (by decide) ?_
  refine HL.nil ?_
  refine HQ.next ?_
  refine HC.ret ?_
  exact HQ.ret1 rfl rfl (pure_end rfl)
theorem isLow_p (u : Nat) (hu : u < 2 ^ 256) : Pure Tryd.prog 19 #[nV u] (.bool (decide (Num.lowN p25 u = 0))) := isLow0 u hu
theorem low_mod (u : Nat) : Num.lowN p25 u % p25 = Num.lowN p25 u := Nat.mod_mod _ _
/-- The listed points are those of low order. -/
theorem vld_low (u : Nat) : vld (u % p25) = !decide (Num.lowN p25 u = 0) := by
  have h := Num.low_nat u
  rw [show Num.p25 = p25 from rfl, low_mod] at h
  unfold vld
  refine congrArg (fun c : Bool => !c) ?_
  rw [Bool.eq_iff_iff, decide_eq_true_eq, h]
  simp only [Bool.or_eq_true, decide_eq_true_eq, Bool.false_eq_true, false_or, or_assoc]
  rw [show Num.lowA = 325606250916557431795983626356110631294008115727848805560023387167927233504 from rfl, show Num.lowB = 39382357235489614581723060781553021112529911719440698176882885853963445705823 from rfl, show p25 - 1 = 57896044618658097711785492504343953926634992332820282019728792003956564819948 by decide +kernel]
  constructor
  · rintro (h | h | h | h | h)
    · exact .inl h.symm
    · exact .inr (.inl h.symm)
    · exact .inr (.inr (.inl h.symm))
    · exact .inr (.inr (.inr (.inl h.symm)))
    · exact .inr (.inr (.inr (.inr h.symm)))
  · rintro (h | h | h | h | h)
    · exact .inl h.symm
    · exact .inr (.inl h.symm)
    · exact .inr (.inr (.inl h.symm))
    · exact .inr (.inr (.inr (.inl h.symm)))
    · exact .inr (.inr (.inr (.inr h.symm)))
theorem vld_9 : vld (9 % p25) = true := by decide +kernel
end Go.Proofs.YteehdjkmjncehaaDoor
