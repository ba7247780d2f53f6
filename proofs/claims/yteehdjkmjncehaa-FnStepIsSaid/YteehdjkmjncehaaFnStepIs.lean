/-
  FnStepIs: impl.Step of every five elements is spec.Step of them: the law answers true. No condition.
-/
import Derived.Test.YteehdjkmjncehaaSc
import Derived.Test.YteehdjkmjncehaaSt
import Derived.Test.YteehdjkmjncehaaOp
namespace Go.Proofs.Yteehdjkmjncehaa
open Go.ChangeShapes Go.WideShapes Go.ChangeAt Go.RowKit

theorem own1 : ownKnob Try.prog.godebug = none := by kernel_rfl
theorem laidOut1 : laidOutB Try.prog = true := by kernel_rfl

set_option maxRecDepth 100000 in
set_option maxHeartbeats 1600000 in
theorem fnStepIs0 (w0 w1 w2 w3 w4 : Nat) (h0 : w0 < 2 ^ 256) (h1 : w1 < 2 ^ 256) (h2 : w2 < 2 ^ 256) (h3 : w3 < 2 ^ 256) (h4 : w4 < 2 ^ 256) : Pure Try.prog 16 #[.agg (elA [w0, w1, w2, w3, w4]), .bool false] (.bool true) := by
  intro w
  refine calls_H (args := [.agg (elA [w0, w1, w2, w3, w4]), .bool false]) noD [] Try.func16 rfl (m := 43) rfl rfl (hold_nil _ _) ?_
  refine HC.seq ?_
  refine HC.region ?_
  refine HL.new (New.box rfl) (by decide) ?_
  intro b1 hb1
  refine HL.val (Val.assign rfl) (by decide) ?_
  refine HL.nil ?_
  refine HQ.next ?_
  refine HC.seq ?_
  refine HC.region ?_
  refine HL.val (Val.build rfl bz48) (by decide) ?_
  refine HL.new (New.alloc al48) (by decide) ?_
  intro b2 hb2
  refine HL.put 0 rfl (Put.row rfl rfl (sz48 _) (eqszN _ _ 80) (oneN 80 _)) (.inl hb2) ?_
  simp only [List.set_cons_zero]
  refine HL.nil ?_
  refine HQ.next ?_
  refine HC.seq ?_
  refine HC.seq ?_
  refine HC.region ?_
  refine HL.val (Val.load_row rfl (fun w hw => hw.at (i := 1) rfl) Try.underlying50 rfl (sz50 _ _ _ _ _)) (by decide) ?_
  refine HL.val (Val.move rfl) (by decide) ?_
  refine HL.nil ?_
  refine HQ.next ?_
  refine HC.block ?_
  refine HC.loopN 5 ?_
  refine HC.seq ?_
  refine HC.region ?_
  refine HL.val (Val.lss rfl rfl) (by decide) ?_
  refine HL.nil ?_
  refine HQ.next ?_
  refine HC.seq ?_
  refine HC.yes rfl ?_
  refine HC.skip ?_
  refine HQ.next ?_
  refine HC.seq ?_
  refine HC.block ?_
  refine HC.seq ?_
  refine HC.region ?_
  refine HL.val (Val.move rfl) (by decide) ?_
  refine HL.val (Val.indexN (s := 32) (i := 0) (byA 32 w0) rfl rfl Try.underlying50 Try.underlying22 rfl (by kernel_rfl) (by decide) (elA_ext 0 rfl)) (by decide) ?_
  refine HL.new (New.alloc al22) (by decide) ?_
  intro b3 hb3
  refine HL.val (Val.assign rfl) (by decide) ?_
  refine HL.put 0 rfl (Put.row rfl rfl (sz22 _) (eqsz32 _ _) (one32 _)) (.inl hb3) ?_
  simp only [List.set_cons_zero]
  refine HL.nil ?_
  refine HQ.next ?_
  refine HC.region ?_
  refine HL.val (Val.move rfl) (by decide) ?_
  refine HL.val (Val.load_row rfl (fun w hw => hw.at (i := 0) rfl) Try.underlying22 rfl (sz22 _)) (by decide) ?_
  refine HL.val (Val.call en23 (of23 w0) rfl) (by decide) ?_
  refine HL.val (Val.ixAddrQ 0 (i := 0) (m := 5) (s := 16) (e := 28) rfl rfl Try.underlying48 (by kernel_rfl) (by decide) (by decide)) (by decide) ?_
  refine HL.put 1 rfl (Put.mid (new := dgA 80 (w5F w0 0 0 0 0)) rfl rfl (sz28 _) (by rw [dgA_size, dgA_size]; decide) (oneN 16 _) (eqszN _ _ 80) (w5_put0 0 0 0 0 0 w0)) (.inl hb2) ?_
  simp only [List.set_cons_zero, List.set_cons_succ]
  refine HL.nil ?_
  refine HQ.blockNormal ?_
  refine HQ.next ?_
  refine HC.region ?_
  refine HL.val ((Val.addI rfl rfl).as (v := .int .i64 1) rfl) (by decide) ?_
  refine HL.val (Val.move rfl) (by decide) ?_
  refine HL.nil ?_
  refine HQ.againN ?_
  refine HC.seq ?_
  refine HC.region ?_
  refine HL.val (Val.lss rfl rfl) (by decide) ?_
  refine HL.nil ?_
  refine HQ.next ?_
  refine HC.seq ?_
  refine HC.yes rfl ?_
  refine HC.skip ?_
  refine HQ.next ?_
  refine HC.seq ?_
  refine HC.block ?_
  refine HC.seq ?_
  refine HC.region ?_
  refine HL.val (Val.move rfl) (by decide) ?_
  refine HL.val (Val.indexN (s := 32) (i := 1) (byA 32 w1) rfl rfl Try.underlying50 Try.underlying22 rfl (by kernel_rfl) (by decide) (elA_ext 1 rfl)) (by decide) ?_
  refine HL.new (New.alloc al22) (by decide) ?_
  intro b4 hb4
  refine HL.val (Val.assign rfl) (by decide) ?_
  refine HL.put 0 rfl (Put.row rfl rfl (sz22 _) (eqsz32 _ _) (one32 _)) (.inl hb4) ?_
  simp only [List.set_cons_zero]
  refine HL.nil ?_
  refine HQ.next ?_
  refine HC.region ?_
  refine HL.val (Val.move rfl) (by decide) ?_
  refine HL.val (Val.load_row rfl (fun w hw => hw.at (i := 0) rfl) Try.underlying22 rfl (sz22 _)) (by decide) ?_
  refine HL.val (Val.call en23 (of23 w1) rfl) (by decide) ?_
  refine HL.val (Val.ixAddrQ 16 (i := 1) (m := 5) (s := 16) (e := 28) rfl rfl Try.underlying48 (by kernel_rfl) (by decide) (by decide)) (by decide) ?_
  refine HL.put 2 rfl (Put.mid (new := dgA 80 (w5F w0 w1 0 0 0)) rfl rfl (sz28 _) (by rw [dgA_size, dgA_size]; decide) (oneN 16 _) (eqszN _ _ 80) (w5_put1 w0 0 0 0 0 w1)) (.inl hb2) ?_
  simp only [List.set_cons_zero, List.set_cons_succ]
  refine HL.nil ?_
  refine HQ.blockNormal ?_
  refine HQ.next ?_
  refine HC.region ?_
  refine HL.val ((Val.addI rfl rfl).as (v := .int .i64 2) rfl) (by decide) ?_
  refine HL.val (Val.move rfl) (by decide) ?_
  refine HL.nil ?_
  refine HQ.againN ?_
  refine HC.seq ?_
  refine HC.region ?_
  refine HL.val (Val.lss rfl rfl) (by decide) ?_
  refine HL.nil ?_
  refine HQ.next ?_
  refine HC.seq ?_
  refine HC.yes rfl ?_
  refine HC.skip ?_
  refine HQ.next ?_
  refine HC.seq ?_
  refine HC.block ?_
  refine HC.seq ?_
  refine HC.region ?_
  refine HL.val (Val.move rfl) (by decide) ?_
  refine HL.val (Val.indexN (s := 32) (i := 2) (byA 32 w2) rfl rfl Try.underlying50 Try.underlying22 rfl (by kernel_rfl) (by decide) (elA_ext 2 rfl)) (by decide) ?_
  refine HL.new (New.alloc al22) (by decide) ?_
  intro b5 hb5
  refine HL.val (Val.assign rfl) (by decide) ?_
  refine HL.put 0 rfl (Put.row rfl rfl (sz22 _) (eqsz32 _ _) (one32 _)) (.inl hb5) ?_
  simp only [List.set_cons_zero]
  refine HL.nil ?_
  refine HQ.next ?_
  refine HC.region ?_
  refine HL.val (Val.move rfl) (by decide) ?_
  refine HL.val (Val.load_row rfl (fun w hw => hw.at (i := 0) rfl) Try.underlying22 rfl (sz22 _)) (by decide) ?_
  refine HL.val (Val.call en23 (of23 w2) rfl) (by decide) ?_
  refine HL.val (Val.ixAddrQ 32 (i := 2) (m := 5) (s := 16) (e := 28) rfl rfl Try.underlying48 (by kernel_rfl) (by decide) (by decide)) (by decide) ?_
  refine HL.put 3 rfl (Put.mid (new := dgA 80 (w5F w0 w1 w2 0 0)) rfl rfl (sz28 _) (by rw [dgA_size, dgA_size]; decide) (oneN 16 _) (eqszN _ _ 80) (w5_put2 w0 w1 0 0 0 w2)) (.inl hb2) ?_
  simp only [List.set_cons_zero, List.set_cons_succ]
  refine HL.nil ?_
  refine HQ.blockNormal ?_
  refine HQ.next ?_
  refine HC.region ?_
  refine HL.val ((Val.addI rfl rfl).as (v := .int .i64 3) rfl) (by decide) ?_
  refine HL.val (Val.move rfl) (by decide) ?_
  refine HL.nil ?_
  refine HQ.againN ?_
  refine HC.seq ?_
  refine HC.region ?_
  refine HL.val (Val.lss rfl rfl) (by decide) ?_
  refine HL.nil ?_
  refine HQ.next ?_
  refine HC.seq ?_
  refine HC.yes rfl ?_
  refine HC.skip ?_
  refine HQ.next ?_
  refine HC.seq ?_
  refine HC.block ?_
  refine HC.seq ?_
  refine HC.region ?_
  refine HL.val (Val.move rfl) (by decide) ?_
  refine HL.val (Val.indexN (s := 32) (i := 3) (byA 32 w3) rfl rfl Try.underlying50 Try.underlying22 rfl (by kernel_rfl) (by decide) (elA_ext 3 rfl)) (by decide) ?_
  refine HL.new (New.alloc al22) (by decide) ?_
  intro b6 hb6
  refine HL.val (Val.assign rfl) (by decide) ?_
  refine HL.put 0 rfl (Put.row rfl rfl (sz22 _) (eqsz32 _ _) (one32 _)) (.inl hb6) ?_
  simp only [List.set_cons_zero]
  refine HL.nil ?_
  refine HQ.next ?_
  refine HC.region ?_
  refine HL.val (Val.move rfl) (by decide) ?_
  refine HL.val (Val.load_row rfl (fun w hw => hw.at (i := 0) rfl) Try.underlying22 rfl (sz22 _)) (by decide) ?_
  refine HL.val (Val.call en23 (of23 w3) rfl) (by decide) ?_
  refine HL.val (Val.ixAddrQ 48 (i := 3) (m := 5) (s := 16) (e := 28) rfl rfl Try.underlying48 (by kernel_rfl) (by decide) (by decide)) (by decide) ?_
  refine HL.put 4 rfl (Put.mid (new := dgA 80 (w5F w0 w1 w2 w3 0)) rfl rfl (sz28 _) (by rw [dgA_size, dgA_size]; decide) (oneN 16 _) (eqszN _ _ 80) (w5_put3 w0 w1 w2 0 0 w3)) (.inl hb2) ?_
  simp only [List.set_cons_zero, List.set_cons_succ]
  refine HL.nil ?_
  refine HQ.blockNormal ?_
  refine HQ.next ?_
  refine HC.region ?_
  refine HL.val ((Val.addI rfl rfl).as (v := .int .i64 4) rfl) (by decide) ?_
  refine HL.val (Val.move rfl) (by decide) ?_
  refine HL.nil ?_
  refine HQ.againN ?_
  refine HC.seq ?_
  refine HC.region ?_
  refine HL.val (Val.lss rfl rfl) (by decide) ?_
  refine HL.nil ?_
  refine HQ.next ?_
  refine HC.seq ?_
  refine HC.yes rfl ?_
  refine HC.skip ?_
  refine HQ.next ?_
  refine HC.seq ?_
  refine HC.block ?_
  refine HC.seq ?_
  refine HC.region ?_
  refine HL.val (Val.move rfl) (by decide) ?_
  refine HL.val (Val.indexN (s := 32) (i := 4) (byA 32 w4) rfl rfl Try.underlying50 Try.underlying22 rfl (by kernel_rfl) (by decide) (elA_ext 4 rfl)) (by decide) ?_
  refine HL.new (New.alloc al22) (by decide) ?_
  intro b7 hb7
  refine HL.val (Val.assign rfl) (by decide) ?_
  refine HL.put 0 rfl (Put.row rfl rfl (sz22 _) (eqsz32 _ _) (one32 _)) (.inl hb7) ?_
  simp only [List.set_cons_zero]
  refine HL.nil ?_
  refine HQ.next ?_
  refine HC.region ?_
  refine HL.val (Val.move rfl) (by decide) ?_
  refine HL.val (Val.load_row rfl (fun w hw => hw.at (i := 0) rfl) Try.underlying22 rfl (sz22 _)) (by decide) ?_
  refine HL.val (Val.call en23 (of23 w4) rfl) (by decide) ?_
  refine HL.val (Val.ixAddrQ 64 (i := 4) (m := 5) (s := 16) (e := 28) rfl rfl Try.underlying48 (by kernel_rfl) (by decide) (by decide)) (by decide) ?_
  refine HL.put 5 rfl (Put.mid (new := dgA 80 (w5F w0 w1 w2 w3 w4)) rfl rfl (sz28 _) (by rw [dgA_size, dgA_size]; decide) (oneN 16 _) (eqszN _ _ 80) (w5_put4 w0 w1 w2 w3 0 w4)) (.inl hb2) ?_
  simp only [List.set_cons_zero, List.set_cons_succ]
  refine HL.nil ?_
  refine HQ.blockNormal ?_
  refine HQ.next ?_
  refine HC.region ?_
  refine HL.val ((Val.addI rfl rfl).as (v := .int .i64 5) rfl) (by decide) ?_
  refine HL.val (Val.move rfl) (by decide) ?_
  refine HL.nil ?_
  refine HQ.againN ?_
  refine HC.seq ?_
  refine HC.region ?_
  refine HL.val (Val.lss rfl rfl) (by decide) ?_
  refine HL.nil ?_
  refine HQ.next ?_
  refine HC.seq ?_
  refine HC.no rfl ?_
  refine HC.exit ?_
  refine HQ.thenExit ?_
  refine HQ.thenExit ?_
  refine HQ.blockExit ?_
  refine HQ.next ?_
  refine HC.seq ?_
  refine HC.region ?_
  refine HL.val (Val.assign rfl) (by decide) ?_
  refine HL.nil ?_
  refine HQ.next ?_
  refine HC.seq ?_
  refine HC.seq ?_
  refine HC.region ?_
  refine HL.val (Val.move rfl) (by decide) ?_
  refine HL.nil ?_
  refine HQ.next ?_
  refine HC.no rfl ?_
  refine HC.skip ?_
  refine HQ.next ?_
  refine HC.seq ?_
  refine HC.region ?_
  refine HL.val (Val.load_row rfl (fun w hw => hw.at (i := 5) rfl) Try.underlying48 rfl (sz48 _)) (by decide) ?_
  refine HL.val (Val.move rfl) (by decide) ?_
  refine HL.val (Val.call en40 (specStep0 w0 w1 w2 w3 w4 h0 h1 h2 h3 h4) rfl) (by decide) ?_
  refine HL.new (New.alloc al48) (by decide) ?_
  intro b8 hb8
  refine HL.put 0 rfl (Put.row rfl rfl (sz48 _) (eqszN _ _ 80) (oneN 80 _)) (.inl hb8) ?_
  simp only [List.set_cons_zero]
  refine HL.nil ?_
  refine HQ.next ?_
  refine HC.seq ?_
  refine HC.region ?_
  refine HL.val (Val.load_row rfl (fun w hw => hw.at (i := 7) rfl) Try.underlying50 rfl (sz50 _ _ _ _ _)) (by decide) ?_
  refine HL.val (Val.move rfl) (by decide) ?_
  refine HL.val (Val.call en42 (implStep w0 w1 w2 w3 w4 0 h0 h1 h2 h3 h4 (by decide)) rfl) (by decide) ?_
  refine HL.new (New.alloc al50) (by decide) ?_
  intro b9 hb9
  refine HL.put 0 rfl (Put.row rfl rfl (sz50 _ _ _ _ _) (eqsz5 _ _ _ _ _ _ _ _ _ _) (elA_oneC _)) (.inl hb9) ?_
  simp only [List.set_cons_zero]
  refine HL.nil ?_
  refine HQ.next ?_
  refine HC.seq ?_
  refine HC.seq ?_
  refine HC.region ?_
  refine HL.val (Val.load_row rfl (fun w hw => hw.at (i := 0) rfl) Try.underlying50 rfl (sz50 _ _ _ _ _)) (by decide) ?_
  refine HL.val (Val.move rfl) (by decide) ?_
  refine HL.nil ?_
  refine HQ.next ?_
  refine HC.block ?_
  refine HC.loopN 5 ?_
  refine HC.seq ?_
  refine HC.region ?_
  refine HL.val (Val.lss rfl rfl) (by decide) ?_
  refine HL.nil ?_
  refine HQ.next ?_
  refine HC.seq ?_
  refine HC.yes rfl ?_
  refine HC.skip ?_
  refine HQ.next ?_
  refine HC.seq ?_
  refine HC.block ?_
  refine HC.seq ?_
  refine HC.region ?_
  refine HL.val (Val.move rfl) (by decide) ?_
  refine HL.val (Val.indexN (s := 32) (i := 0) (byA 32 ((w0 % p25))) rfl rfl Try.underlying50 Try.underlying22 rfl (by kernel_rfl) (by decide) (elA_ext 0 rfl)) (by decide) ?_
  refine HL.new (New.alloc al22) (by decide) ?_
  intro b10 hb10
  refine HL.val (Val.assign rfl) (by decide) ?_
  refine HL.put 0 rfl (Put.row rfl rfl (sz22 _) (eqsz32 _ _) (one32 _)) (.inl hb10) ?_
  simp only [List.set_cons_zero]
  refine HL.nil ?_
  refine HQ.next ?_
  refine HC.seq ?_
  refine HC.draw0 5 (by kernel_rfl) (by kernel_rfl) ?_
  simp only [List.take, List.drop]
  refine HV.val (Val.load_row rfl (fun w hw => hw.at (i := 0) rfl) Try.underlying22 rfl (sz22 _)) (by decide) ?_
  refine HV.val (Val.move rfl) (by decide) ?_
  refine HV.val (Val.ixAddrQ 0 (i := 0) (m := 5) (s := 16) (e := 28) rfl rfl Try.underlying48 (by kernel_rfl) (by decide) (by decide)) (by decide) ?_
  refine HV.val (Val.load_mid rfl (fun w hw => hw.at (i := 2) rfl) (dgA 16 (dig ((w0 % p25)))) (w5_get0 _ _ _ _ _) Try.underlying28 rfl (sz28 _)) (by decide) ?_
  refine HV.val (Val.call en20 (is20T ((w0 % p25)) (lt_256_32 (lt256 _))) rfl) (by decide) ?_
  refine HV.tail0 ?_
  refine HL.val (Val.not rfl) (by decide) ?_
  refine HL.nil ?_
  refine HQ.next ?_
  refine HC.no rfl ?_
  refine HC.skip ?_
  refine HQ.blockNormal ?_
  refine HQ.next ?_
  refine HC.region ?_
  refine HL.val ((Val.addI rfl rfl).as (v := .int .i64 1) rfl) (by decide) ?_
  refine HL.val (Val.move rfl) (by decide) ?_
  refine HL.nil ?_
  refine HQ.againN ?_
  refine HC.seq ?_
  refine HC.region ?_
  refine HL.val (Val.lss rfl rfl) (by decide) ?_
  refine HL.nil ?_
  refine HQ.next ?_
  refine HC.seq ?_
  refine HC.yes rfl ?_
  refine HC.skip ?_
  refine HQ.next ?_
  refine HC.seq ?_
  refine HC.block ?_
  refine HC.seq ?_
  refine HC.region ?_
  refine HL.val (Val.move rfl) (by decide) ?_
  refine HL.val (Val.indexN (s := 32) (i := 1) (byA 32 ((dN 0 w1 w2 w3 w4).1)) rfl rfl Try.underlying50 Try.underlying22 rfl (by kernel_rfl) (by decide) (elA_ext 1 rfl)) (by decide) ?_
  refine HL.new (New.alloc al22) (by decide) ?_
  intro b11 hb11
  refine HL.val (Val.assign rfl) (by decide) ?_
  refine HL.put 0 rfl (Put.row rfl rfl (sz22 _) (eqsz32 _ _) (one32 _)) (.inl hb11) ?_
  simp only [List.set_cons_zero]
  refine HL.nil ?_
  refine HQ.next ?_
  refine HC.seq ?_
  refine HC.draw0 5 (by kernel_rfl) (by kernel_rfl) ?_
  simp only [List.take, List.drop]
  refine HV.val (Val.load_row rfl (fun w hw => hw.at (i := 0) rfl) Try.underlying22 rfl (sz22 _)) (by decide) ?_
  refine HV.val (Val.move rfl) (by decide) ?_
  refine HV.val (Val.ixAddrQ 16 (i := 1) (m := 5) (s := 16) (e := 28) rfl rfl Try.underlying48 (by kernel_rfl) (by decide) (by decide)) (by decide) ?_
  refine HV.val (Val.load_mid rfl (fun w hw => hw.at (i := 3) rfl) (dgA 16 (dig ((dN 0 w1 w2 w3 w4).1))) (w5_get1 _ _ _ _ _) Try.underlying28 rfl (sz28 _)) (by decide) ?_
  refine HV.val (Val.call en20 (is20T ((dN 0 w1 w2 w3 w4).1) (lt_256_32 (dN_lt1 _ _ _ _ _))) rfl) (by decide) ?_
  refine HV.tail0 ?_
  refine HL.val (Val.not rfl) (by decide) ?_
  refine HL.nil ?_
  refine HQ.next ?_
  refine HC.no rfl ?_
  refine HC.skip ?_
  refine HQ.blockNormal ?_
  refine HQ.next ?_
  refine HC.region ?_
  refine HL.val ((Val.addI rfl rfl).as (v := .int .i64 2) rfl) (by decide) ?_
  refine HL.val (Val.move rfl) (by decide) ?_
  refine HL.nil ?_
  refine HQ.againN ?_
  refine HC.seq ?_
  refine HC.region ?_
  refine HL.val (Val.lss rfl rfl) (by decide) ?_
  refine HL.nil ?_
  refine HQ.next ?_
  refine HC.seq ?_
  refine HC.yes rfl ?_
  refine HC.skip ?_
  refine HQ.next ?_
  refine HC.seq ?_
  refine HC.block ?_
  refine HC.seq ?_
  refine HC.region ?_
  refine HL.val (Val.move rfl) (by decide) ?_
  refine HL.val (Val.indexN (s := 32) (i := 2) (byA 32 ((dN 0 w1 w2 w3 w4).2)) rfl rfl Try.underlying50 Try.underlying22 rfl (by kernel_rfl) (by decide) (elA_ext 2 rfl)) (by decide) ?_
  refine HL.new (New.alloc al22) (by decide) ?_
  intro b12 hb12
  refine HL.val (Val.assign rfl) (by decide) ?_
  refine HL.put 0 rfl (Put.row rfl rfl (sz22 _) (eqsz32 _ _) (one32 _)) (.inl hb12) ?_
  simp only [List.set_cons_zero]
  refine HL.nil ?_
  refine HQ.next ?_
  refine HC.seq ?_
  refine HC.draw0 5 (by kernel_rfl) (by kernel_rfl) ?_
  simp only [List.take, List.drop]
  refine HV.val (Val.load_row rfl (fun w hw => hw.at (i := 0) rfl) Try.underlying22 rfl (sz22 _)) (by decide) ?_
  refine HV.val (Val.move rfl) (by decide) ?_
  refine HV.val (Val.ixAddrQ 32 (i := 2) (m := 5) (s := 16) (e := 28) rfl rfl Try.underlying48 (by kernel_rfl) (by decide) (by decide)) (by decide) ?_
  refine HV.val (Val.load_mid rfl (fun w hw => hw.at (i := 4) rfl) (dgA 16 (dig ((dN 0 w1 w2 w3 w4).2))) (w5_get2 _ _ _ _ _) Try.underlying28 rfl (sz28 _)) (by decide) ?_
  refine HV.val (Val.call en20 (is20T ((dN 0 w1 w2 w3 w4).2) (lt_256_32 (dN_lt2 _ _ _ _ _))) rfl) (by decide) ?_
  refine HV.tail0 ?_
  refine HL.val (Val.not rfl) (by decide) ?_
  refine HL.nil ?_
  refine HQ.next ?_
  refine HC.no rfl ?_
  refine HC.skip ?_
  refine HQ.blockNormal ?_
  refine HQ.next ?_
  refine HC.region ?_
  refine HL.val ((Val.addI rfl rfl).as (v := .int .i64 3) rfl) (by decide) ?_
  refine HL.val (Val.move rfl) (by decide) ?_
  refine HL.nil ?_
  refine HQ.againN ?_
  refine HC.seq ?_
  refine HC.region ?_
  refine HL.val (Val.lss rfl rfl) (by decide) ?_
  refine HL.nil ?_
  refine HQ.next ?_
  refine HC.seq ?_
  refine HC.yes rfl ?_
  refine HC.skip ?_
  refine HQ.next ?_
  refine HC.seq ?_
  refine HC.block ?_
  refine HC.seq ?_
  refine HC.region ?_
  refine HL.val (Val.move rfl) (by decide) ?_
  refine HL.val (Val.indexN (s := 32) (i := 3) (byA 32 ((aN 0 w0 w1 w2 w3 w4).1)) rfl rfl Try.underlying50 Try.underlying22 rfl (by kernel_rfl) (by decide) (elA_ext 3 rfl)) (by decide) ?_
  refine HL.new (New.alloc al22) (by decide) ?_
  intro b13 hb13
  refine HL.val (Val.assign rfl) (by decide) ?_
  refine HL.put 0 rfl (Put.row rfl rfl (sz22 _) (eqsz32 _ _) (one32 _)) (.inl hb13) ?_
  simp only [List.set_cons_zero]
  refine HL.nil ?_
  refine HQ.next ?_
  refine HC.seq ?_
  refine HC.draw0 5 (by kernel_rfl) (by kernel_rfl) ?_
  simp only [List.take, List.drop]
  refine HV.val (Val.load_row rfl (fun w hw => hw.at (i := 0) rfl) Try.underlying22 rfl (sz22 _)) (by decide) ?_
  refine HV.val (Val.move rfl) (by decide) ?_
  refine HV.val (Val.ixAddrQ 48 (i := 3) (m := 5) (s := 16) (e := 28) rfl rfl Try.underlying48 (by kernel_rfl) (by decide) (by decide)) (by decide) ?_
  refine HV.val (Val.load_mid rfl (fun w hw => hw.at (i := 5) rfl) (dgA 16 (dig ((aN 0 w0 w1 w2 w3 w4).1))) (w5_get3 _ _ _ _ _) Try.underlying28 rfl (sz28 _)) (by decide) ?_
  refine HV.val (Val.call en20 (is20T ((aN 0 w0 w1 w2 w3 w4).1) (lt_256_32 (aN_lt1 _ _ _ _ _ _))) rfl) (by decide) ?_
  refine HV.tail0 ?_
  refine HL.val (Val.not rfl) (by decide) ?_
  refine HL.nil ?_
  refine HQ.next ?_
  refine HC.no rfl ?_
  refine HC.skip ?_
  refine HQ.blockNormal ?_
  refine HQ.next ?_
  refine HC.region ?_
  refine HL.val ((Val.addI rfl rfl).as (v := .int .i64 4) rfl) (by decide) ?_
  refine HL.val (Val.move rfl) (by decide) ?_
  refine HL.nil ?_
  refine HQ.againN ?_
  refine HC.seq ?_
  refine HC.region ?_
  refine HL.val (Val.lss rfl rfl) (by decide) ?_
  refine HL.nil ?_
  refine HQ.next ?_
  refine HC.seq ?_
  refine HC.yes rfl ?_
  refine HC.skip ?_
  refine HQ.next ?_
  refine HC.seq ?_
  refine HC.block ?_
  refine HC.seq ?_
  refine HC.region ?_
  refine HL.val (Val.move rfl) (by decide) ?_
  refine HL.val (Val.indexN (s := 32) (i := 4) (byA 32 ((aN 0 w0 w1 w2 w3 w4).2)) rfl rfl Try.underlying50 Try.underlying22 rfl (by kernel_rfl) (by decide) (elA_ext 4 rfl)) (by decide) ?_
  refine HL.new (New.alloc al22) (by decide) ?_
  intro b14 hb14
  refine HL.val (Val.assign rfl) (by decide) ?_
  refine HL.put 0 rfl (Put.row rfl rfl (sz22 _) (eqsz32 _ _) (one32 _)) (.inl hb14) ?_
  simp only [List.set_cons_zero]
  refine HL.nil ?_
  refine HQ.next ?_
  refine HC.seq ?_
  refine HC.draw0 5 (by kernel_rfl) (by kernel_rfl) ?_
  simp only [List.take, List.drop]
  refine HV.val (Val.load_row rfl (fun w hw => hw.at (i := 0) rfl) Try.underlying22 rfl (sz22 _)) (by decide) ?_
  refine HV.val (Val.move rfl) (by decide) ?_
  refine HV.val (Val.ixAddrQ 64 (i := 4) (m := 5) (s := 16) (e := 28) rfl rfl Try.underlying48 (by kernel_rfl) (by decide) (by decide)) (by decide) ?_
  refine HV.val (Val.load_mid rfl (fun w hw => hw.at (i := 6) rfl) (dgA 16 (dig ((aN 0 w0 w1 w2 w3 w4).2))) (w5_get4 _ _ _ _ _) Try.underlying28 rfl (sz28 _)) (by decide) ?_
  refine HV.val (Val.call en20 (is20T ((aN 0 w0 w1 w2 w3 w4).2) (lt_256_32 (aN_lt2 _ _ _ _ _ _))) rfl) (by decide) ?_
  refine HV.tail0 ?_
  refine HL.val (Val.not rfl) (by decide) ?_
  refine HL.nil ?_
  refine HQ.next ?_
  refine HC.no rfl ?_
  refine HC.skip ?_
  refine HQ.blockNormal ?_
  refine HQ.next ?_
  refine HC.region ?_
  refine HL.val ((Val.addI rfl rfl).as (v := .int .i64 5) rfl) (by decide) ?_
  refine HL.val (Val.move rfl) (by decide) ?_
  refine HL.nil ?_
  refine HQ.againN ?_
  refine HC.seq ?_
  refine HC.region ?_
  refine HL.val (Val.lss rfl rfl) (by decide) ?_
  refine HL.nil ?_
  refine HQ.next ?_
  refine HC.seq ?_
  refine HC.no rfl ?_
  refine HC.exit ?_
  refine HQ.thenExit ?_
  refine HQ.thenExit ?_
  refine HQ.blockExit ?_
  refine HQ.next ?_
  refine HC.seq ?_
  refine HC.region ?_
  refine HL.val (Val.assign rfl) (by decide) ?_
  refine HL.nil ?_
  refine HQ.next ?_
  refine HC.ret ?_
  exact HQ.ret1 rfl rfl (pure_end rfl)
set_option maxRecDepth 100000 in
set_option maxHeartbeats 1600000 in
theorem fnStepIs1 (w0 w1 w2 w3 w4 : Nat) (h0 : w0 < 2 ^ 256) (h1 : w1 < 2 ^ 256) (h2 : w2 < 2 ^ 256) (h3 : w3 < 2 ^ 256) (h4 : w4 < 2 ^ 256) : Pure Try.prog 16 #[.agg (elA [w0, w1, w2, w3, w4]), .bool true] (.bool true) := by
  intro w
  refine calls_H (args := [.agg (elA [w0, w1, w2, w3, w4]), .bool true]) noD [] Try.func16 rfl (m := 43) rfl rfl (hold_nil _ _) ?_
  refine HC.seq ?_
  refine HC.region ?_
  refine HL.new (New.box rfl) (by decide) ?_
  intro b1 hb1
  refine HL.val (Val.assign rfl) (by decide) ?_
  refine HL.nil ?_
  refine HQ.next ?_
  refine HC.seq ?_
  refine HC.region ?_
  refine HL.val (Val.build rfl bz48) (by decide) ?_
  refine HL.new (New.alloc al48) (by decide) ?_
  intro b2 hb2
  refine HL.put 0 rfl (Put.row rfl rfl (sz48 _) (eqszN _ _ 80) (oneN 80 _)) (.inl hb2) ?_
  simp only [List.set_cons_zero]
  refine HL.nil ?_
  refine HQ.next ?_
  refine HC.seq ?_
  refine HC.seq ?_
  refine HC.region ?_
  refine HL.val (Val.load_row rfl (fun w hw => hw.at (i := 1) rfl) Try.underlying50 rfl (sz50 _ _ _ _ _)) (by decide) ?_
  refine HL.val (Val.move rfl) (by decide) ?_
  refine HL.nil ?_
  refine HQ.next ?_
  refine HC.block ?_
  refine HC.loopN 5 ?_
  refine HC.seq ?_
  refine HC.region ?_
  refine HL.val (Val.lss rfl rfl) (by decide) ?_
  refine HL.nil ?_
  refine HQ.next ?_
  refine HC.seq ?_
  refine HC.yes rfl ?_
  refine HC.skip ?_
  refine HQ.next ?_
  refine HC.seq ?_
  refine HC.block ?_
  refine HC.seq ?_
  refine HC.region ?_
  refine HL.val (Val.move rfl) (by decide) ?_
  refine HL.val (Val.indexN (s := 32) (i := 0) (byA 32 w0) rfl rfl Try.underlying50 Try.underlying22 rfl (by kernel_rfl) (by decide) (elA_ext 0 rfl)) (by decide) ?_
  refine HL.new (New.alloc al22) (by decide) ?_
  intro b3 hb3
  refine HL.val (Val.assign rfl) (by decide) ?_
  refine HL.put 0 rfl (Put.row rfl rfl (sz22 _) (eqsz32 _ _) (one32 _)) (.inl hb3) ?_
  simp only [List.set_cons_zero]
  refine HL.nil ?_
  refine HQ.next ?_
  refine HC.region ?_
  refine HL.val (Val.move rfl) (by decide) ?_
  refine HL.val (Val.load_row rfl (fun w hw => hw.at (i := 0) rfl) Try.underlying22 rfl (sz22 _)) (by decide) ?_
  refine HL.val (Val.call en23 (of23 w0) rfl) (by decide) ?_
  refine HL.val (Val.ixAddrQ 0 (i := 0) (m := 5) (s := 16) (e := 28) rfl rfl Try.underlying48 (by kernel_rfl) (by decide) (by decide)) (by decide) ?_
  refine HL.put 1 rfl (Put.mid (new := dgA 80 (w5F w0 0 0 0 0)) rfl rfl (sz28 _) (by rw [dgA_size, dgA_size]; decide) (oneN 16 _) (eqszN _ _ 80) (w5_put0 0 0 0 0 0 w0)) (.inl hb2) ?_
  simp only [List.set_cons_zero, List.set_cons_succ]
  refine HL.nil ?_
  refine HQ.blockNormal ?_
  refine HQ.next ?_
  refine HC.region ?_
  refine HL.val ((Val.addI rfl rfl).as (v := .int .i64 1) rfl) (by decide) ?_
  refine HL.val (Val.move rfl) (by decide) ?_
  refine HL.nil ?_
  refine HQ.againN ?_
  refine HC.seq ?_
  refine HC.region ?_
  refine HL.val (Val.lss rfl rfl) (by decide) ?_
  refine HL.nil ?_
  refine HQ.next ?_
  refine HC.seq ?_
  refine HC.yes rfl ?_
  refine HC.skip ?_
  refine HQ.next ?_
  refine HC.seq ?_
  refine HC.block ?_
  refine HC.seq ?_
  refine HC.region ?_
  refine HL.val (Val.move rfl) (by decide) ?_
  refine HL.val (Val.indexN (s := 32) (i := 1) (byA 32 w1) rfl rfl Try.underlying50 Try.underlying22 rfl (by kernel_rfl) (by decide) (elA_ext 1 rfl)) (by decide) ?_
  refine HL.new (New.alloc al22) (by decide) ?_
  intro b4 hb4
  refine HL.val (Val.assign rfl) (by decide) ?_
  refine HL.put 0 rfl (Put.row rfl rfl (sz22 _) (eqsz32 _ _) (one32 _)) (.inl hb4) ?_
  simp only [List.set_cons_zero]
  refine HL.nil ?_
  refine HQ.next ?_
  refine HC.region ?_
  refine HL.val (Val.move rfl) (by decide) ?_
  refine HL.val (Val.load_row rfl (fun w hw => hw.at (i := 0) rfl) Try.underlying22 rfl (sz22 _)) (by decide) ?_
  refine HL.val (Val.call en23 (of23 w1) rfl) (by decide) ?_
  refine HL.val (Val.ixAddrQ 16 (i := 1) (m := 5) (s := 16) (e := 28) rfl rfl Try.underlying48 (by kernel_rfl) (by decide) (by decide)) (by decide) ?_
  refine HL.put 2 rfl (Put.mid (new := dgA 80 (w5F w0 w1 0 0 0)) rfl rfl (sz28 _) (by rw [dgA_size, dgA_size]; decide) (oneN 16 _) (eqszN _ _ 80) (w5_put1 w0 0 0 0 0 w1)) (.inl hb2) ?_
  simp only [List.set_cons_zero, List.set_cons_succ]
  refine HL.nil ?_
  refine HQ.blockNormal ?_
  refine HQ.next ?_
  refine HC.region ?_
  refine HL.val ((Val.addI rfl rfl).as (v := .int .i64 2) rfl) (by decide) ?_
  refine HL.val (Val.move rfl) (by decide) ?_
  refine HL.nil ?_
  refine HQ.againN ?_
  refine HC.seq ?_
  refine HC.region ?_
  refine HL.val (Val.lss rfl rfl) (by decide) ?_
  refine HL.nil ?_
  refine HQ.next ?_
  refine HC.seq ?_
  refine HC.yes rfl ?_
  refine HC.skip ?_
  refine HQ.next ?_
  refine HC.seq ?_
  refine HC.block ?_
  refine HC.seq ?_
  refine HC.region ?_
  refine HL.val (Val.move rfl) (by decide) ?_
  refine HL.val (Val.indexN (s := 32) (i := 2) (byA 32 w2) rfl rfl Try.underlying50 Try.underlying22 rfl (by kernel_rfl) (by decide) (elA_ext 2 rfl)) (by decide) ?_
  refine HL.new (New.alloc al22) (by decide) ?_
  intro b5 hb5
  refine HL.val (Val.assign rfl) (by decide) ?_
  refine HL.put 0 rfl (Put.row rfl rfl (sz22 _) (eqsz32 _ _) (one32 _)) (.inl hb5) ?_
  simp only [List.set_cons_zero]
  refine HL.nil ?_
  refine HQ.next ?_
  refine HC.region ?_
  refine HL.val (Val.move rfl) (by decide) ?_
  refine HL.val (Val.load_row rfl (fun w hw => hw.at (i := 0) rfl) Try.underlying22 rfl (sz22 _)) (by decide) ?_
  refine HL.val (Val.call en23 (of23 w2) rfl) (by decide) ?_
  refine HL.val (Val.ixAddrQ 32 (i := 2) (m := 5) (s := 16) (e := 28) rfl rfl Try.underlying48 (by kernel_rfl) (by decide) (by decide)) (by decide) ?_
  refine HL.put 3 rfl (Put.mid (new := dgA 80 (w5F w0 w1 w2 0 0)) rfl rfl (sz28 _) (by rw [dgA_size, dgA_size]; decide) (oneN 16 _) (eqszN _ _ 80) (w5_put2 w0 w1 0 0 0 w2)) (.inl hb2) ?_
  simp only [List.set_cons_zero, List.set_cons_succ]
  refine HL.nil ?_
  refine HQ.blockNormal ?_
  refine HQ.next ?_
  refine HC.region ?_
  refine HL.val ((Val.addI rfl rfl).as (v := .int .i64 3) rfl) (by decide) ?_
  refine HL.val (Val.move rfl) (by decide) ?_
  refine HL.nil ?_
  refine HQ.againN ?_
  refine HC.seq ?_
  refine HC.region ?_
  refine HL.val (Val.lss rfl rfl) (by decide) ?_
  refine HL.nil ?_
  refine HQ.next ?_
  refine HC.seq ?_
  refine HC.yes rfl ?_
  refine HC.skip ?_
  refine HQ.next ?_
  refine HC.seq ?_
  refine HC.block ?_
  refine HC.seq ?_
  refine HC.region ?_
  refine HL.val (Val.move rfl) (by decide) ?_
  refine HL.val (Val.indexN (s := 32) (i := 3) (byA 32 w3) rfl rfl Try.underlying50 Try.underlying22 rfl (by kernel_rfl) (by decide) (elA_ext 3 rfl)) (by decide) ?_
  refine HL.new (New.alloc al22) (by decide) ?_
  intro b6 hb6
  refine HL.val (Val.assign rfl) (by decide) ?_
  refine HL.put 0 rfl (Put.row rfl rfl (sz22 _) (eqsz32 _ _) (one32 _)) (.inl hb6) ?_
  simp only [List.set_cons_zero]
  refine HL.nil ?_
  refine HQ.next ?_
  refine HC.region ?_
  refine HL.val (Val.move rfl) (by decide) ?_
  refine HL.val (Val.load_row rfl (fun w hw => hw.at (i := 0) rfl) Try.underlying22 rfl (sz22 _)) (by decide) ?_
  refine HL.val (Val.call en23 (of23 w3) rfl) (by decide) ?_
  refine HL.val (Val.ixAddrQ 48 (i := 3) (m := 5) (s := 16) (e := 28) rfl rfl Try.underlying48 (by kernel_rfl) (by decide) (by decide)) (by decide) ?_
  refine HL.put 4 rfl (Put.mid (new := dgA 80 (w5F w0 w1 w2 w3 0)) rfl rfl (sz28 _) (by rw [dgA_size, dgA_size]; decide) (oneN 16 _) (eqszN _ _ 80) (w5_put3 w0 w1 w2 0 0 w3)) (.inl hb2) ?_
  simp only [List.set_cons_zero, List.set_cons_succ]
  refine HL.nil ?_
  refine HQ.blockNormal ?_
  refine HQ.next ?_
  refine HC.region ?_
  refine HL.val ((Val.addI rfl rfl).as (v := .int .i64 4) rfl) (by decide) ?_
  refine HL.val (Val.move rfl) (by decide) ?_
  refine HL.nil ?_
  refine HQ.againN ?_
  refine HC.seq ?_
  refine HC.region ?_
  refine HL.val (Val.lss rfl rfl) (by decide) ?_
  refine HL.nil ?_
  refine HQ.next ?_
  refine HC.seq ?_
  refine HC.yes rfl ?_
  refine HC.skip ?_
  refine HQ.next ?_
  refine HC.seq ?_
  refine HC.block ?_
  refine HC.seq ?_
  refine HC.region ?_
  refine HL.val (Val.move rfl) (by decide) ?_
  refine HL.val (Val.indexN (s := 32) (i := 4) (byA 32 w4) rfl rfl Try.underlying50 Try.underlying22 rfl (by kernel_rfl) (by decide) (elA_ext 4 rfl)) (by decide) ?_
  refine HL.new (New.alloc al22) (by decide) ?_
  intro b7 hb7
  refine HL.val (Val.assign rfl) (by decide) ?_
  refine HL.put 0 rfl (Put.row rfl rfl (sz22 _) (eqsz32 _ _) (one32 _)) (.inl hb7) ?_
  simp only [List.set_cons_zero]
  refine HL.nil ?_
  refine HQ.next ?_
  refine HC.region ?_
  refine HL.val (Val.move rfl) (by decide) ?_
  refine HL.val (Val.load_row rfl (fun w hw => hw.at (i := 0) rfl) Try.underlying22 rfl (sz22 _)) (by decide) ?_
  refine HL.val (Val.call en23 (of23 w4) rfl) (by decide) ?_
  refine HL.val (Val.ixAddrQ 64 (i := 4) (m := 5) (s := 16) (e := 28) rfl rfl Try.underlying48 (by kernel_rfl) (by decide) (by decide)) (by decide) ?_
  refine HL.put 5 rfl (Put.mid (new := dgA 80 (w5F w0 w1 w2 w3 w4)) rfl rfl (sz28 _) (by rw [dgA_size, dgA_size]; decide) (oneN 16 _) (eqszN _ _ 80) (w5_put4 w0 w1 w2 w3 0 w4)) (.inl hb2) ?_
  simp only [List.set_cons_zero, List.set_cons_succ]
  refine HL.nil ?_
  refine HQ.blockNormal ?_
  refine HQ.next ?_
  refine HC.region ?_
  refine HL.val ((Val.addI rfl rfl).as (v := .int .i64 5) rfl) (by decide) ?_
  refine HL.val (Val.move rfl) (by decide) ?_
  refine HL.nil ?_
  refine HQ.againN ?_
  refine HC.seq ?_
  refine HC.region ?_
  refine HL.val (Val.lss rfl rfl) (by decide) ?_
  refine HL.nil ?_
  refine HQ.next ?_
  refine HC.seq ?_
  refine HC.no rfl ?_
  refine HC.exit ?_
  refine HQ.thenExit ?_
  refine HQ.thenExit ?_
  refine HQ.blockExit ?_
  refine HQ.next ?_
  refine HC.seq ?_
  refine HC.region ?_
  refine HL.val (Val.assign rfl) (by decide) ?_
  refine HL.nil ?_
  refine HQ.next ?_
  refine HC.seq ?_
  refine HC.seq ?_
  refine HC.region ?_
  refine HL.val (Val.move rfl) (by decide) ?_
  refine HL.nil ?_
  refine HQ.next ?_
  refine HC.yes rfl ?_
  refine HC.region ?_
  refine HL.val (Val.assign rfl) (by decide) ?_
  refine HL.nil ?_
  refine HQ.next ?_
  refine HC.seq ?_
  refine HC.region ?_
  refine HL.val (Val.load_row rfl (fun w hw => hw.at (i := 5) rfl) Try.underlying48 rfl (sz48 _)) (by decide) ?_
  refine HL.val (Val.move rfl) (by decide) ?_
  refine HL.val (Val.call en40 (specStep1 w0 w1 w2 w3 w4 h0 h1 h2 h3 h4) rfl) (by decide) ?_
  refine HL.new (New.alloc al48) (by decide) ?_
  intro b8 hb8
  refine HL.put 0 rfl (Put.row rfl rfl (sz48 _) (eqszN _ _ 80) (oneN 80 _)) (.inl hb8) ?_
  simp only [List.set_cons_zero]
  refine HL.nil ?_
  refine HQ.next ?_
  refine HC.seq ?_
  refine HC.region ?_
  refine HL.val (Val.load_row rfl (fun w hw => hw.at (i := 7) rfl) Try.underlying50 rfl (sz50 _ _ _ _ _)) (by decide) ?_
  refine HL.val (Val.move rfl) (by decide) ?_
  refine HL.val (Val.call en42 (implStep w0 w1 w2 w3 w4 1 h0 h1 h2 h3 h4 (by decide)) rfl) (by decide) ?_
  refine HL.new (New.alloc al50) (by decide) ?_
  intro b9 hb9
  refine HL.put 0 rfl (Put.row rfl rfl (sz50 _ _ _ _ _) (eqsz5 _ _ _ _ _ _ _ _ _ _) (elA_oneC _)) (.inl hb9) ?_
  simp only [List.set_cons_zero]
  refine HL.nil ?_
  refine HQ.next ?_
  refine HC.seq ?_
  refine HC.seq ?_
  refine HC.region ?_
  refine HL.val (Val.load_row rfl (fun w hw => hw.at (i := 0) rfl) Try.underlying50 rfl (sz50 _ _ _ _ _)) (by decide) ?_
  refine HL.val (Val.move rfl) (by decide) ?_
  refine HL.nil ?_
  refine HQ.next ?_
  refine HC.block ?_
  refine HC.loopN 5 ?_
  refine HC.seq ?_
  refine HC.region ?_
  refine HL.val (Val.lss rfl rfl) (by decide) ?_
  refine HL.nil ?_
  refine HQ.next ?_
  refine HC.seq ?_
  refine HC.yes rfl ?_
  refine HC.skip ?_
  refine HQ.next ?_
  refine HC.seq ?_
  refine HC.block ?_
  refine HC.seq ?_
  refine HC.region ?_
  refine HL.val (Val.move rfl) (by decide) ?_
  refine HL.val (Val.indexN (s := 32) (i := 0) (byA 32 ((w0 % p25))) rfl rfl Try.underlying50 Try.underlying22 rfl (by kernel_rfl) (by decide) (elA_ext 0 rfl)) (by decide) ?_
  refine HL.new (New.alloc al22) (by decide) ?_
  intro b10 hb10
  refine HL.val (Val.assign rfl) (by decide) ?_
  refine HL.put 0 rfl (Put.row rfl rfl (sz22 _) (eqsz32 _ _) (one32 _)) (.inl hb10) ?_
  simp only [List.set_cons_zero]
  refine HL.nil ?_
  refine HQ.next ?_
  refine HC.seq ?_
  refine HC.draw0 5 (by kernel_rfl) (by kernel_rfl) ?_
  simp only [List.take, List.drop]
  refine HV.val (Val.load_row rfl (fun w hw => hw.at (i := 0) rfl) Try.underlying22 rfl (sz22 _)) (by decide) ?_
  refine HV.val (Val.move rfl) (by decide) ?_
  refine HV.val (Val.ixAddrQ 0 (i := 0) (m := 5) (s := 16) (e := 28) rfl rfl Try.underlying48 (by kernel_rfl) (by decide) (by decide)) (by decide) ?_
  refine HV.val (Val.load_mid rfl (fun w hw => hw.at (i := 2) rfl) (dgA 16 (dig ((w0 % p25)))) (w5_get0 _ _ _ _ _) Try.underlying28 rfl (sz28 _)) (by decide) ?_
  refine HV.val (Val.call en20 (is20T ((w0 % p25)) (lt_256_32 (lt256 _))) rfl) (by decide) ?_
  refine HV.tail0 ?_
  refine HL.val (Val.not rfl) (by decide) ?_
  refine HL.nil ?_
  refine HQ.next ?_
  refine HC.no rfl ?_
  refine HC.skip ?_
  refine HQ.blockNormal ?_
  refine HQ.next ?_
  refine HC.region ?_
  refine HL.val ((Val.addI rfl rfl).as (v := .int .i64 1) rfl) (by decide) ?_
  refine HL.val (Val.move rfl) (by decide) ?_
  refine HL.nil ?_
  refine HQ.againN ?_
  refine HC.seq ?_
  refine HC.region ?_
  refine HL.val (Val.lss rfl rfl) (by decide) ?_
  refine HL.nil ?_
  refine HQ.next ?_
  refine HC.seq ?_
  refine HC.yes rfl ?_
  refine HC.skip ?_
  refine HQ.next ?_
  refine HC.seq ?_
  refine HC.block ?_
  refine HC.seq ?_
  refine HC.region ?_
  refine HL.val (Val.move rfl) (by decide) ?_
  refine HL.val (Val.indexN (s := 32) (i := 1) (byA 32 ((dN 1 w1 w2 w3 w4).1)) rfl rfl Try.underlying50 Try.underlying22 rfl (by kernel_rfl) (by decide) (elA_ext 1 rfl)) (by decide) ?_
  refine HL.new (New.alloc al22) (by decide) ?_
  intro b11 hb11
  refine HL.val (Val.assign rfl) (by decide) ?_
  refine HL.put 0 rfl (Put.row rfl rfl (sz22 _) (eqsz32 _ _) (one32 _)) (.inl hb11) ?_
  simp only [List.set_cons_zero]
  refine HL.nil ?_
  refine HQ.next ?_
  refine HC.seq ?_
  refine HC.draw0 5 (by kernel_rfl) (by kernel_rfl) ?_
  simp only [List.take, List.drop]
  refine HV.val (Val.load_row rfl (fun w hw => hw.at (i := 0) rfl) Try.underlying22 rfl (sz22 _)) (by decide) ?_
  refine HV.val (Val.move rfl) (by decide) ?_
  refine HV.val (Val.ixAddrQ 16 (i := 1) (m := 5) (s := 16) (e := 28) rfl rfl Try.underlying48 (by kernel_rfl) (by decide) (by decide)) (by decide) ?_
  refine HV.val (Val.load_mid rfl (fun w hw => hw.at (i := 3) rfl) (dgA 16 (dig ((dN 1 w1 w2 w3 w4).1))) (w5_get1 _ _ _ _ _) Try.underlying28 rfl (sz28 _)) (by decide) ?_
  refine HV.val (Val.call en20 (is20T ((dN 1 w1 w2 w3 w4).1) (lt_256_32 (dN_lt1 _ _ _ _ _))) rfl) (by decide) ?_
  refine HV.tail0 ?_
  refine HL.val (Val.not rfl) (by decide) ?_
  refine HL.nil ?_
  refine HQ.next ?_
  refine HC.no rfl ?_
  refine HC.skip ?_
  refine HQ.blockNormal ?_
  refine HQ.next ?_
  refine HC.region ?_
  refine HL.val ((Val.addI rfl rfl).as (v := .int .i64 2) rfl) (by decide) ?_
  refine HL.val (Val.move rfl) (by decide) ?_
  refine HL.nil ?_
  refine HQ.againN ?_
  refine HC.seq ?_
  refine HC.region ?_
  refine HL.val (Val.lss rfl rfl) (by decide) ?_
  refine HL.nil ?_
  refine HQ.next ?_
  refine HC.seq ?_
  refine HC.yes rfl ?_
  refine HC.skip ?_
  refine HQ.next ?_
  refine HC.seq ?_
  refine HC.block ?_
  refine HC.seq ?_
  refine HC.region ?_
  refine HL.val (Val.move rfl) (by decide) ?_
  refine HL.val (Val.indexN (s := 32) (i := 2) (byA 32 ((dN 1 w1 w2 w3 w4).2)) rfl rfl Try.underlying50 Try.underlying22 rfl (by kernel_rfl) (by decide) (elA_ext 2 rfl)) (by decide) ?_
  refine HL.new (New.alloc al22) (by decide) ?_
  intro b12 hb12
  refine HL.val (Val.assign rfl) (by decide) ?_
  refine HL.put 0 rfl (Put.row rfl rfl (sz22 _) (eqsz32 _ _) (one32 _)) (.inl hb12) ?_
  simp only [List.set_cons_zero]
  refine HL.nil ?_
  refine HQ.next ?_
  refine HC.seq ?_
  refine HC.draw0 5 (by kernel_rfl) (by kernel_rfl) ?_
  simp only [List.take, List.drop]
  refine HV.val (Val.load_row rfl (fun w hw => hw.at (i := 0) rfl) Try.underlying22 rfl (sz22 _)) (by decide) ?_
  refine HV.val (Val.move rfl) (by decide) ?_
  refine HV.val (Val.ixAddrQ 32 (i := 2) (m := 5) (s := 16) (e := 28) rfl rfl Try.underlying48 (by kernel_rfl) (by decide) (by decide)) (by decide) ?_
  refine HV.val (Val.load_mid rfl (fun w hw => hw.at (i := 4) rfl) (dgA 16 (dig ((dN 1 w1 w2 w3 w4).2))) (w5_get2 _ _ _ _ _) Try.underlying28 rfl (sz28 _)) (by decide) ?_
  refine HV.val (Val.call en20 (is20T ((dN 1 w1 w2 w3 w4).2) (lt_256_32 (dN_lt2 _ _ _ _ _))) rfl) (by decide) ?_
  refine HV.tail0 ?_
  refine HL.val (Val.not rfl) (by decide) ?_
  refine HL.nil ?_
  refine HQ.next ?_
  refine HC.no rfl ?_
  refine HC.skip ?_
  refine HQ.blockNormal ?_
  refine HQ.next ?_
  refine HC.region ?_
  refine HL.val ((Val.addI rfl rfl).as (v := .int .i64 3) rfl) (by decide) ?_
  refine HL.val (Val.move rfl) (by decide) ?_
  refine HL.nil ?_
  refine HQ.againN ?_
  refine HC.seq ?_
  refine HC.region ?_
  refine HL.val (Val.lss rfl rfl) (by decide) ?_
  refine HL.nil ?_
  refine HQ.next ?_
  refine HC.seq ?_
  refine HC.yes rfl ?_
  refine HC.skip ?_
  refine HQ.next ?_
  refine HC.seq ?_
  refine HC.block ?_
  refine HC.seq ?_
  refine HC.region ?_
  refine HL.val (Val.move rfl) (by decide) ?_
  refine HL.val (Val.indexN (s := 32) (i := 3) (byA 32 ((aN 1 w0 w1 w2 w3 w4).1)) rfl rfl Try.underlying50 Try.underlying22 rfl (by kernel_rfl) (by decide) (elA_ext 3 rfl)) (by decide) ?_
  refine HL.new (New.alloc al22) (by decide) ?_
  intro b13 hb13
  refine HL.val (Val.assign rfl) (by decide) ?_
  refine HL.put 0 rfl (Put.row rfl rfl (sz22 _) (eqsz32 _ _) (one32 _)) (.inl hb13) ?_
  simp only [List.set_cons_zero]
  refine HL.nil ?_
  refine HQ.next ?_
  refine HC.seq ?_
  refine HC.draw0 5 (by kernel_rfl) (by kernel_rfl) ?_
  simp only [List.take, List.drop]
  refine HV.val (Val.load_row rfl (fun w hw => hw.at (i := 0) rfl) Try.underlying22 rfl (sz22 _)) (by decide) ?_
  refine HV.val (Val.move rfl) (by decide) ?_
  refine HV.val (Val.ixAddrQ 48 (i := 3) (m := 5) (s := 16) (e := 28) rfl rfl Try.underlying48 (by kernel_rfl) (by decide) (by decide)) (by decide) ?_
  refine HV.val (Val.load_mid rfl (fun w hw => hw.at (i := 5) rfl) (dgA 16 (dig ((aN 1 w0 w1 w2 w3 w4).1))) (w5_get3 _ _ _ _ _) Try.underlying28 rfl (sz28 _)) (by decide) ?_
  refine HV.val (Val.call en20 (is20T ((aN 1 w0 w1 w2 w3 w4).1) (lt_256_32 (aN_lt1 _ _ _ _ _ _))) rfl) (by decide) ?_
  refine HV.tail0 ?_
  refine HL.val (Val.not rfl) (by decide) ?_
  refine HL.nil ?_
  refine HQ.next ?_
  refine HC.no rfl ?_
  refine HC.skip ?_
  refine HQ.blockNormal ?_
  refine HQ.next ?_
  refine HC.region ?_
  refine HL.val ((Val.addI rfl rfl).as (v := .int .i64 4) rfl) (by decide) ?_
  refine HL.val (Val.move rfl) (by decide) ?_
  refine HL.nil ?_
  refine HQ.againN ?_
  refine HC.seq ?_
  refine HC.region ?_
  refine HL.val (Val.lss rfl rfl) (by decide) ?_
  refine HL.nil ?_
  refine HQ.next ?_
  refine HC.seq ?_
  refine HC.yes rfl ?_
  refine HC.skip ?_
  refine HQ.next ?_
  refine HC.seq ?_
  refine HC.block ?_
  refine HC.seq ?_
  refine HC.region ?_
  refine HL.val (Val.move rfl) (by decide) ?_
  refine HL.val (Val.indexN (s := 32) (i := 4) (byA 32 ((aN 1 w0 w1 w2 w3 w4).2)) rfl rfl Try.underlying50 Try.underlying22 rfl (by kernel_rfl) (by decide) (elA_ext 4 rfl)) (by decide) ?_
  refine HL.new (New.alloc al22) (by decide) ?_
  intro b14 hb14
  refine HL.val (Val.assign rfl) (by decide) ?_
  refine HL.put 0 rfl (Put.row rfl rfl (sz22 _) (eqsz32 _ _) (one32 _)) (.inl hb14) ?_
  simp only [List.set_cons_zero]
  refine HL.nil ?_
  refine HQ.next ?_
  refine HC.seq ?_
  refine HC.draw0 5 (by kernel_rfl) (by kernel_rfl) ?_
  simp only [List.take, List.drop]
  refine HV.val (Val.load_row rfl (fun w hw => hw.at (i := 0) rfl) Try.underlying22 rfl (sz22 _)) (by decide) ?_
  refine HV.val (Val.move rfl) (by decide) ?_
  refine HV.val (Val.ixAddrQ 64 (i := 4) (m := 5) (s := 16) (e := 28) rfl rfl Try.underlying48 (by kernel_rfl) (by decide) (by decide)) (by decide) ?_
  refine HV.val (Val.load_mid rfl (fun w hw => hw.at (i := 6) rfl) (dgA 16 (dig ((aN 1 w0 w1 w2 w3 w4).2))) (w5_get4 _ _ _ _ _) Try.underlying28 rfl (sz28 _)) (by decide) ?_
  refine HV.val (Val.call en20 (is20T ((aN 1 w0 w1 w2 w3 w4).2) (lt_256_32 (aN_lt2 _ _ _ _ _ _))) rfl) (by decide) ?_
  refine HV.tail0 ?_
  refine HL.val (Val.not rfl) (by decide) ?_
  refine HL.nil ?_
  refine HQ.next ?_
  refine HC.no rfl ?_
  refine HC.skip ?_
  refine HQ.blockNormal ?_
  refine HQ.next ?_
  refine HC.region ?_
  refine HL.val ((Val.addI rfl rfl).as (v := .int .i64 5) rfl) (by decide) ?_
  refine HL.val (Val.move rfl) (by decide) ?_
  refine HL.nil ?_
  refine HQ.againN ?_
  refine HC.seq ?_
  refine HC.region ?_
  refine HL.val (Val.lss rfl rfl) (by decide) ?_
  refine HL.nil ?_
  refine HQ.next ?_
  refine HC.seq ?_
  refine HC.no rfl ?_
  refine HC.exit ?_
  refine HQ.thenExit ?_
  refine HQ.thenExit ?_
  refine HQ.blockExit ?_
  refine HQ.next ?_
  refine HC.seq ?_
  refine HC.region ?_
  refine HL.val (Val.assign rfl) (by decide) ?_
  refine HL.nil ?_
  refine HQ.next ?_
  refine HC.ret ?_
  exact HQ.ret1 rfl rfl (pure_end rfl)
theorem fnStepIs (w0 w1 w2 w3 w4 : Nat) (s : Bool) (h0 : w0 < 2 ^ 256) (h1 : w1 < 2 ^ 256) (h2 : w2 < 2 ^ 256) (h3 : w3 < 2 ^ 256) (h4 : w4 < 2 ^ 256) : Pure Try.prog 16 #[.agg (elA [w0, w1, w2, w3, w4]), .bool s] (.bool true) := by
  cases s
  · exact fnStepIs0 w0 w1 w2 w3 w4 h0 h1 h2 h3 h4
  · exact fnStepIs1 w0 w1 w2 w3 w4 h0 h1 h2 h3 h4
set_option maxRecDepth 100000 in
theorem fnStepIs_lifted (os : Os) (started : os.Started) (H : Type) (enc : TypeId × Value → H) :
    ReturnsInHanded {} Try.checked os 16 .any (Rows.fnStepIsSpec.pre6 enc Try.prog Try.f16 Rows.fnStepIsRow.domain false) (Rows.fnStepIsSpec.post enc Try.prog Try.f16 false true false false) := by
  refine returnsInHanded_of_change (C := Try.checked) own1 started (by kernel_rfl) Try.func16
    (ChangeSpec.witness6 (enc := enc) (C := Try.checked) false ⟨#[], #[.agg (elA [0, 0, 0, 0, 0]), .bool true], []⟩ 8 (by kernel_rfl) (by kernel_rfl) (by kernel_rfl) (by kernel_rfl)) ?_
  intro W base args ds gs before hval0 hW hcnd _
  have hval : ∀ (j : Nat) t v, Try.f16.params[j]? = some t → args[j]? = some v → Value.okWide Try.prog W .any base t v := hval0
  have hW' := hW
  obtain ⟨p, q, hA0, hV, rfl, hfz, hnd⟩ := hW
  have hA : DataW.TrodAll enc Try.prog W 0 (fun _ => true) true Try.f16.params.toList args.toList ds p := hA0
  rw [Try.params16] at hA hval
  obtain ⟨v0, v1, d0, d1, p0, p1, rfl, rfl, rfl, h0, h1⟩ := trodAll_two hA
  obtain ⟨rfl, rfl⟩ := trodVars_none hV
  obtain ⟨w0, w1, w2, w3, w4, ⟨hw0, hw1, hw2, hw3, hw4⟩, rfl, rfl⟩ := open_e5 Try.underlying50 Try.underlying22 Try.underlying5 (by kernel_rfl) (by kernel_rfl) (by kernel_rfl) (hval 0 50 v0 rfl rfl) h0
  obtain ⟨s, rfl, rfl, rfl⟩ := open_bool Try.underlying4 (hval 1 4 v1 rfl rfl) h1
  clear hA0 hval0
  refine (fnStepIs w0 w1 w2 w3 w4 s hw0 hw1 hw2 hw3 hw4 W).mono fun e W' ⟨he, hb⟩ => ?_
  subst he
  exact ⟨_, rfl, ⟨_, _, _, [], [], [], hW', trodAll_mk1 (shut_bool Try.underlying4 true), trodAll_mk2 (Below.trod laidOut1 (by kernel_rfl) (of_decide_eq_true (by kernel_rfl)) h0 hb (by simp)) (shut_bool Try.underlying4 _), rfl, hb.frame _, fun h => by cases h⟩⟩

theorem fnStepIs_holds : Rows.FnStepIsSaid :=
  OpenClaim.holds_of_wide 16 Try.f16 rfl rfl rfl rfl rfl rfl rfl ⟨rfl, rfl, rfl, rfl, rfl⟩ rfl rfl rfl rfl rfl (by kernel_rfl) Try.func16 (by kernel_rfl)
    (of_decide_eq_true (by kernel_rfl)) (by unfold Func.isWrapper; first | (rw [if_pos (by decide +kernel)]; kernel_rfl) | (rw [if_neg (by decide +kernel)]; exact ⟨rfl, rfl⟩))
    (fun os started H enc _ => fnStepIs_lifted os started H enc)
#print axioms fnStepIs_holds
end Go.Proofs.Yteehdjkmjncehaa
