/-
  spec.Step: a step of the ladder of RFC 7748 (written by gensc.py).
  The ladder's step in the program (written by genst.py).
  The reference: bits, powers (written by gensq.py).
-/
import Derived.Test.YteehdjkmjncehaaDoorSb
import Derived.Test.YteehdjkmjncehaaDoorHQ
namespace Go.Proofs.YteehdjkmjncehaaDoor
open Go.RowKit
set_option maxRecDepth 100000 in
theorem specStep0 (w0 w1 w2 w3 w4 : Nat) (h0 : w0 < 2 ^ 256) (h1 : w1 < 2 ^ 256) (h2 : w2 < 2 ^ 256) (h3 : w3 < 2 ^ 256) (h4 : w4 < 2 ^ 256) :
    Pure Tryd.prog 36 #[dgV 80 (w5F w0 w1 w2 w3 w4), .int .u64 0] (dgV 80 (w5F (w0 % p25) (dN 0 w1 w2 w3 w4).1 (dN 0 w1 w2 w3 w4).2 (aN 0 w0 w1 w2 w3 w4).1 (aN 0 w0 w1 w2 w3 w4).2)) := by
  intro w
  refine calls_H (args := [dgV 80 (w5F w0 w1 w2 w3 w4), .int .u64 0]) noD [] Tryd.func36 rfl (m := 90) rfl rfl (hold_nil _ _) ?_
  refine HC.seq ?_
  refine HC.region ?_
  refine HL.new (New.box rfl) (by decide) ?_
  intro b1 hb1
  refine HL.new (New.alloc al49) (by decide) ?_
  intro b2 hb2
  refine HL.nil ?_
  refine HQ.next ?_
  refine HC.seq ?_
  refine HC.seq ?_
  refine HC.region ?_
  refine HL.val (Val.move rfl) (by decide) ?_
  refine HL.val (Val.eqlI rfl rfl) (by decide) ?_
  refine HL.nil ?_
  refine HQ.next ?_
  refine HC.no rfl ?_
  refine HC.skip ?_
  refine HQ.next ?_
  refine HC.seq ?_
  refine HC.draw2 10 (by kernel_rfl) (by kernel_rfl) rfl rfl (by kernel_rfl) ?_
  simp only [List.take, List.drop]
  refine HV.val (Val.ixAddrQ 16 (i := 1) (m := 5) (s := 16) (e := 25) rfl rfl Tryd.underlying49 (by kernel_rfl) (by decide) (by decide)) (by decide) ?_
  refine HV.val (Val.load_mid rfl (fun w hw => hw.at (i := 1) rfl) (dgA 16 (dig w1)) (w5_get1 _ _ _ _ _) Tryd.underlying25 rfl (sz25 _)) (by decide) ?_
  refine HV.val (Val.ixAddrQ 32 (i := 2) (m := 5) (s := 16) (e := 25) rfl rfl Tryd.underlying49 (by kernel_rfl) (by decide) (by decide)) (by decide) ?_
  refine HV.val (Val.load_mid rfl (fun w hw => hw.at (i := 1) rfl) (dgA 16 (dig w2)) (w5_get2 _ _ _ _ _) Tryd.underlying25 rfl (sz25 _)) (by decide) ?_
  refine HV.val (Val.call en52 (add30 w1 w2 h1 h2) rfl) (by decide) ?_
  refine HV.val (Val.ixAddrQ 16 (i := 1) (m := 5) (s := 16) (e := 25) rfl rfl Tryd.underlying49 (by kernel_rfl) (by decide) (by decide)) (by decide) ?_
  refine HV.val (Val.load_mid rfl (fun w hw => hw.at (i := 1) rfl) (dgA 16 (dig w1)) (w5_get1 _ _ _ _ _) Tryd.underlying25 rfl (sz25 _)) (by decide) ?_
  refine HV.val (Val.ixAddrQ 32 (i := 2) (m := 5) (s := 16) (e := 25) rfl rfl Tryd.underlying49 (by kernel_rfl) (by decide) (by decide)) (by decide) ?_
  refine HV.val (Val.load_mid rfl (fun w hw => hw.at (i := 1) rfl) (dgA 16 (dig w2)) (w5_get2 _ _ _ _ _) Tryd.underlying25 rfl (sz25 _)) (by decide) ?_
  refine HV.val (Val.call en53 (sub32N w1 w2 h1 h2) rfl) (by decide) ?_
  refine HV.tail2 (New.alloc al25) (New.alloc al25) (by decide) (by decide) ?_
  intro b3 b4 hb3 hb4
  refine HL.put 1 rfl (Put.row rfl rfl (sz25 _) (eqszN _ _ 16) (oneN 16 _)) (.inl hb3) ?_
  simp only [List.set_cons_zero, List.set_cons_succ]
  refine HL.put 0 rfl (Put.row rfl rfl (sz25 _) (eqszN _ _ 16) (oneN 16 _)) (.inl hb4) ?_
  simp only [List.set_cons_zero]
  refine HL.nil ?_
  refine HQ.next ?_
  refine HC.seq ?_
  refine HC.draw2 6 (by kernel_rfl) (by kernel_rfl) rfl rfl (by kernel_rfl) ?_
  simp only [List.take, List.drop]
  refine HV.val (Val.load_row rfl (fun w hw => hw.at (i := 1) rfl) Tryd.underlying25 rfl (sz25 _)) (by decide) ?_
  refine HV.val (Val.load_row rfl (fun w hw => hw.at (i := 1) rfl) Tryd.underlying25 rfl (sz25 _)) (by decide) ?_
  refine HV.val (Val.call en38 (mul34 (((w1 + w2) % p25)) (((w1 + w2) % p25)) (lt256 _) (lt256 _)) rfl) (by decide) ?_
  refine HV.val (Val.load_row rfl (fun w hw => hw.at (i := 0) rfl) Tryd.underlying25 rfl (sz25 _)) (by decide) ?_
  refine HV.val (Val.load_row rfl (fun w hw => hw.at (i := 0) rfl) Tryd.underlying25 rfl (sz25 _)) (by decide) ?_
  refine HV.val (Val.call en38 (mul34 ((subN w1 w2)) ((subN w1 w2)) (sub256 _ _) (sub256 _ _)) rfl) (by decide) ?_
  refine HV.tail2 (New.alloc al25) (New.alloc al25) (by decide) (by decide) ?_
  intro b5 b6 hb5 hb6
  refine HL.put 1 rfl (Put.row rfl rfl (sz25 _) (eqszN _ _ 16) (oneN 16 _)) (.inl hb5) ?_
  simp only [List.set_cons_zero, List.set_cons_succ]
  refine HL.put 0 rfl (Put.row rfl rfl (sz25 _) (eqszN _ _ 16) (oneN 16 _)) (.inl hb6) ?_
  simp only [List.set_cons_zero]
  refine HL.nil ?_
  refine HQ.next ?_
  refine HC.seq ?_
  refine HC.region ?_
  refine HL.val (Val.load_row rfl (fun w hw => hw.at (i := 1) rfl) Tryd.underlying25 rfl (sz25 _)) (by decide) ?_
  refine HL.val (Val.load_row rfl (fun w hw => hw.at (i := 0) rfl) Tryd.underlying25 rfl (sz25 _)) (by decide) ?_
  refine HL.val (Val.call en53 (sub32N ((((((w1 + w2) % p25)) * (((w1 + w2) % p25))) % p25)) (((((subN w1 w2)) * ((subN w1 w2))) % p25)) (lt256 _) (lt256 _)) rfl) (by decide) ?_
  refine HL.new (New.alloc al25) (by decide) ?_
  intro b7 hb7
  refine HL.put 0 rfl (Put.row rfl rfl (sz25 _) (eqszN _ _ 16) (oneN 16 _)) (.inl hb7) ?_
  simp only [List.set_cons_zero]
  refine HL.nil ?_
  refine HQ.next ?_
  refine HC.seq ?_
  refine HC.draw1 7 (by kernel_rfl) (by kernel_rfl) rfl ?_
  simp only [List.take, List.drop]
  refine HV.val (Val.ixAddrQ 48 (i := 3) (m := 5) (s := 16) (e := 25) rfl rfl Tryd.underlying49 (by kernel_rfl) (by decide) (by decide)) (by decide) ?_
  refine HV.val (Val.load_mid rfl (fun w hw => hw.at (i := 6) rfl) (dgA 16 (dig w3)) (w5_get3 _ _ _ _ _) Tryd.underlying25 rfl (sz25 _)) (by decide) ?_
  refine HV.val (Val.ixAddrQ 64 (i := 4) (m := 5) (s := 16) (e := 25) rfl rfl Tryd.underlying49 (by kernel_rfl) (by decide) (by decide)) (by decide) ?_
  refine HV.val (Val.load_mid rfl (fun w hw => hw.at (i := 6) rfl) (dgA 16 (dig w4)) (w5_get4 _ _ _ _ _) Tryd.underlying25 rfl (sz25 _)) (by decide) ?_
  refine HV.val (Val.call en53 (sub32N w3 w4 h3 h4) rfl) (by decide) ?_
  refine HV.val (Val.load_row rfl (fun w hw => hw.at (i := 4) rfl) Tryd.underlying25 rfl (sz25 _)) (by decide) ?_
  refine HV.val (Val.call en38 (mul34 ((subN w3 w4)) (((w1 + w2) % p25)) (sub256 _ _) (lt256 _)) rfl) (by decide) ?_
  refine HV.tail1 (New.alloc al25) (by decide) ?_
  intro b8 hb8
  refine HL.put 0 rfl (Put.row rfl rfl (sz25 _) (eqszN _ _ 16) (oneN 16 _)) (.inl hb8) ?_
  simp only [List.set_cons_zero]
  refine HL.nil ?_
  refine HQ.next ?_
  refine HC.seq ?_
  refine HC.draw1 7 (by kernel_rfl) (by kernel_rfl) rfl ?_
  simp only [List.take, List.drop]
  refine HV.val (Val.ixAddrQ 48 (i := 3) (m := 5) (s := 16) (e := 25) rfl rfl Tryd.underlying49 (by kernel_rfl) (by decide) (by decide)) (by decide) ?_
  refine HV.val (Val.load_mid rfl (fun w hw => hw.at (i := 7) rfl) (dgA 16 (dig w3)) (w5_get3 _ _ _ _ _) Tryd.underlying25 rfl (sz25 _)) (by decide) ?_
  refine HV.val (Val.ixAddrQ 64 (i := 4) (m := 5) (s := 16) (e := 25) rfl rfl Tryd.underlying49 (by kernel_rfl) (by decide) (by decide)) (by decide) ?_
  refine HV.val (Val.load_mid rfl (fun w hw => hw.at (i := 7) rfl) (dgA 16 (dig w4)) (w5_get4 _ _ _ _ _) Tryd.underlying25 rfl (sz25 _)) (by decide) ?_
  refine HV.val (Val.call en52 (add30 w3 w4 h3 h4) rfl) (by decide) ?_
  refine HV.val (Val.load_row rfl (fun w hw => hw.at (i := 4) rfl) Tryd.underlying25 rfl (sz25 _)) (by decide) ?_
  refine HV.val (Val.call en38 (mul34 (((w3 + w4) % p25)) ((subN w1 w2)) (lt256 _) (sub256 _ _)) rfl) (by decide) ?_
  refine HV.tail1 (New.alloc al25) (by decide) ?_
  intro b9 hb9
  refine HL.put 0 rfl (Put.row rfl rfl (sz25 _) (eqszN _ _ 16) (oneN 16 _)) (.inl hb9) ?_
  simp only [List.set_cons_zero]
  refine HL.nil ?_
  refine HQ.next ?_
  refine HC.seq ?_
  refine HC.draw2 6 (by kernel_rfl) (by kernel_rfl) rfl rfl (by kernel_rfl) ?_
  simp only [List.take, List.drop]
  refine HV.val (Val.load_row rfl (fun w hw => hw.at (i := 1) rfl) Tryd.underlying25 rfl (sz25 _)) (by decide) ?_
  refine HV.val (Val.load_row rfl (fun w hw => hw.at (i := 0) rfl) Tryd.underlying25 rfl (sz25 _)) (by decide) ?_
  refine HV.val (Val.call en52 (add30 (((((subN w3 w4)) * (((w1 + w2) % p25))) % p25)) ((((((w3 + w4) % p25)) * ((subN w1 w2))) % p25)) (lt256 _) (lt256 _)) rfl) (by decide) ?_
  refine HV.val (Val.load_row rfl (fun w hw => hw.at (i := 1) rfl) Tryd.underlying25 rfl (sz25 _)) (by decide) ?_
  refine HV.val (Val.load_row rfl (fun w hw => hw.at (i := 0) rfl) Tryd.underlying25 rfl (sz25 _)) (by decide) ?_
  refine HV.val (Val.call en53 (sub32N (((((subN w3 w4)) * (((w1 + w2) % p25))) % p25)) ((((((w3 + w4) % p25)) * ((subN w1 w2))) % p25)) (lt256 _) (lt256 _)) rfl) (by decide) ?_
  refine HV.tail2 (New.alloc al25) (New.alloc al25) (by decide) (by decide) ?_
  intro b10 b11 hb10 hb11
  refine HL.put 1 rfl (Put.row rfl rfl (sz25 _) (eqszN _ _ 16) (oneN 16 _)) (.inl hb10) ?_
  simp only [List.set_cons_zero, List.set_cons_succ]
  refine HL.put 0 rfl (Put.row rfl rfl (sz25 _) (eqszN _ _ 16) (oneN 16 _)) (.inl hb11) ?_
  simp only [List.set_cons_zero]
  refine HL.nil ?_
  refine HQ.next ?_
  refine HC.seq ?_
  refine HC.draw0 23 (by kernel_rfl) (by kernel_rfl) ?_
  simp only [List.take, List.drop]
  refine HV.val (Val.ixAddrQ 0 (i := 0) (m := 5) (s := 16) (e := 25) rfl rfl Tryd.underlying49 (by kernel_rfl) (by decide) (by decide)) (by decide) ?_
  refine HV.val (Val.load_mid rfl (fun w hw => hw.at (i := 10) rfl) (dgA 16 (dig w0)) (w5_get0 _ _ _ _ _) Tryd.underlying25 rfl (sz25 _)) (by decide) ?_
  refine HV.val (Val.call en9 (mod22 w0 h0) rfl) (by decide) ?_
  refine HV.val (Val.load_row rfl (fun w hw => hw.at (i := 6) rfl) Tryd.underlying25 rfl (sz25 _)) (by decide) ?_
  refine HV.val (Val.load_row rfl (fun w hw => hw.at (i := 5) rfl) Tryd.underlying25 rfl (sz25 _)) (by decide) ?_
  refine HV.val (Val.call en38 (mul34 ((((((w1 + w2) % p25)) * (((w1 + w2) % p25))) % p25)) (((((subN w1 w2)) * ((subN w1 w2))) % p25)) (lt256 _) (lt256 _)) rfl) (by decide) ?_
  refine HV.val (Val.load_row rfl (fun w hw => hw.at (i := 4) rfl) Tryd.underlying25 rfl (sz25 _)) (by decide) ?_
  refine HV.val (Val.load_row rfl (fun w hw => hw.at (i := 6) rfl) Tryd.underlying25 rfl (sz25 _)) (by decide) ?_
  refine HV.val (Val.call en35 (small35 121665 (by decide)) rfl) (by decide) ?_
  refine HV.val (Val.load_row rfl (fun w hw => hw.at (i := 4) rfl) Tryd.underlying25 rfl (sz25 _)) (by decide) ?_
  refine HV.val (Val.call en38 (mul34 121665 ((subN ((((((w1 + w2) % p25)) * (((w1 + w2) % p25))) % p25)) (((((subN w1 w2)) * ((subN w1 w2))) % p25)))) (by decide) (sub256 _ _)) rfl) (by decide) ?_
  refine HV.val (Val.call en52 (add30 ((((((w1 + w2) % p25)) * (((w1 + w2) % p25))) % p25)) (((121665 * ((subN ((((((w1 + w2) % p25)) * (((w1 + w2) % p25))) % p25)) (((((subN w1 w2)) * ((subN w1 w2))) % p25))))) % p25)) (lt256 _) (lt256 _)) rfl) (by decide) ?_
  refine HV.val (Val.call en38 (mul34 ((subN ((((((w1 + w2) % p25)) * (((w1 + w2) % p25))) % p25)) (((((subN w1 w2)) * ((subN w1 w2))) % p25)))) (((((((((w1 + w2) % p25)) * (((w1 + w2) % p25))) % p25)) + (((121665 * ((subN ((((((w1 + w2) % p25)) * (((w1 + w2) % p25))) % p25)) (((((subN w1 w2)) * ((subN w1 w2))) % p25))))) % p25))) % p25)) (sub256 _ _) (lt256 _)) rfl) (by decide) ?_
  refine HV.val (Val.load_row rfl (fun w hw => hw.at (i := 1) rfl) Tryd.underlying25 rfl (sz25 _)) (by decide) ?_
  refine HV.val (Val.load_row rfl (fun w hw => hw.at (i := 1) rfl) Tryd.underlying25 rfl (sz25 _)) (by decide) ?_
  refine HV.val (Val.call en38 (mul34 ((((((((subN w3 w4)) * (((w1 + w2) % p25))) % p25)) + ((((((w3 + w4) % p25)) * ((subN w1 w2))) % p25))) % p25)) ((((((((subN w3 w4)) * (((w1 + w2) % p25))) % p25)) + ((((((w3 + w4) % p25)) * ((subN w1 w2))) % p25))) % p25)) (lt256 _) (lt256 _)) rfl) (by decide) ?_
  refine HV.val (Val.ixAddrQ 0 (i := 0) (m := 5) (s := 16) (e := 25) rfl rfl Tryd.underlying49 (by kernel_rfl) (by decide) (by decide)) (by decide) ?_
  refine HV.val (Val.load_mid rfl (fun w hw => hw.at (i := 10) rfl) (dgA 16 (dig w0)) (w5_get0 _ _ _ _ _) Tryd.underlying25 rfl (sz25 _)) (by decide) ?_
  refine HV.val (Val.load_row rfl (fun w hw => hw.at (i := 0) rfl) Tryd.underlying25 rfl (sz25 _)) (by decide) ?_
  refine HV.val (Val.load_row rfl (fun w hw => hw.at (i := 0) rfl) Tryd.underlying25 rfl (sz25 _)) (by decide) ?_
  refine HV.val (Val.call en38 (mul34 ((subN (((((subN w3 w4)) * (((w1 + w2) % p25))) % p25)) ((((((w3 + w4) % p25)) * ((subN w1 w2))) % p25)))) ((subN (((((subN w3 w4)) * (((w1 + w2) % p25))) % p25)) ((((((w3 + w4) % p25)) * ((subN w1 w2))) % p25)))) (sub256 _ _) (sub256 _ _)) rfl) (by decide) ?_
  refine HV.val (Val.call en38 (mul34 w0 (((((subN (((((subN w3 w4)) * (((w1 + w2) % p25))) % p25)) ((((((w3 + w4) % p25)) * ((subN w1 w2))) % p25)))) * ((subN (((((subN w3 w4)) * (((w1 + w2) % p25))) % p25)) ((((((w3 + w4) % p25)) * ((subN w1 w2))) % p25))))) % p25)) h0 (lt256 _)) rfl) (by decide) ?_
  refine HV.val (Val.build rfl (built_5 ((w0 % p25)) (((((((((w1 + w2) % p25)) * (((w1 + w2) % p25))) % p25)) * (((((subN w1 w2)) * ((subN w1 w2))) % p25))) % p25)) (((((subN ((((((w1 + w2) % p25)) * (((w1 + w2) % p25))) % p25)) (((((subN w1 w2)) * ((subN w1 w2))) % p25)))) * (((((((((w1 + w2) % p25)) * (((w1 + w2) % p25))) % p25)) + (((121665 * ((subN ((((((w1 + w2) % p25)) * (((w1 + w2) % p25))) % p25)) (((((subN w1 w2)) * ((subN w1 w2))) % p25))))) % p25))) % p25))) % p25)) (((((((((((subN w3 w4)) * (((w1 + w2) % p25))) % p25)) + ((((((w3 + w4) % p25)) * ((subN w1 w2))) % p25))) % p25)) * ((((((((subN w3 w4)) * (((w1 + w2) % p25))) % p25)) + ((((((w3 + w4) % p25)) * ((subN w1 w2))) % p25))) % p25))) % p25)) (((w0 * (((((subN (((((subN w3 w4)) * (((w1 + w2) % p25))) % p25)) ((((((w3 + w4) % p25)) * ((subN w1 w2))) % p25)))) * ((subN (((((subN w3 w4)) * (((w1 + w2) % p25))) % p25)) ((((((w3 + w4) % p25)) * ((subN w1 w2))) % p25))))) % p25))) % p25)))) (by decide) ?_
  refine HV.tail0 ?_
  refine HL.put 9 rfl (Put.row rfl rfl (sz49 _) (eqszN _ _ 80) (oneN 80 _)) (.inl hb2) ?_
  simp only [List.set_cons_zero, List.set_cons_succ]
  refine HL.nil ?_
  refine HQ.next ?_
  refine HC.ret ?_
  exact HQ.retc 9 rfl rfl rfl Tryd.underlying49 rfl (sz49 _) (pure_end (by simp only [subN_fs]; rfl))
set_option maxRecDepth 100000 in
theorem specStep1 (w0 w1 w2 w3 w4 : Nat) (h0 : w0 < 2 ^ 256) (h1 : w1 < 2 ^ 256) (h2 : w2 < 2 ^ 256) (h3 : w3 < 2 ^ 256) (h4 : w4 < 2 ^ 256) :
    Pure Tryd.prog 36 #[dgV 80 (w5F w0 w1 w2 w3 w4), .int .u64 1] (dgV 80 (w5F (w0 % p25) (dN 1 w1 w2 w3 w4).1 (dN 1 w1 w2 w3 w4).2 (aN 1 w0 w1 w2 w3 w4).1 (aN 1 w0 w1 w2 w3 w4).2)) := by
  intro w
  refine calls_H (args := [dgV 80 (w5F w0 w1 w2 w3 w4), .int .u64 1]) noD [] Tryd.func36 rfl (m := 90) rfl rfl (hold_nil _ _) ?_
  refine HC.seq ?_
  refine HC.region ?_
  refine HL.new (New.box rfl) (by decide) ?_
  intro b1 hb1
  refine HL.new (New.alloc al49) (by decide) ?_
  intro b2 hb2
  refine HL.nil ?_
  refine HQ.next ?_
  refine HC.seq ?_
  refine HC.seq ?_
  refine HC.region ?_
  refine HL.val (Val.move rfl) (by decide) ?_
  refine HL.val (Val.eqlI rfl rfl) (by decide) ?_
  refine HL.nil ?_
  refine HQ.next ?_
  refine HC.yes rfl ?_
  refine HC.region ?_
  refine HL.val (Val.ixAddrQ 48 (i := 3) (m := 5) (s := 16) (e := 25) rfl rfl Tryd.underlying49 (by kernel_rfl) (by decide) (by decide)) (by decide) ?_
  refine HL.val (Val.load_mid rfl (fun w hw => hw.at (i := 1) rfl) (dgA 16 (dig w3)) (w5_get3 _ _ _ _ _) Tryd.underlying25 rfl (sz25 _)) (by decide) ?_
  refine HL.val (Val.ixAddrQ 64 (i := 4) (m := 5) (s := 16) (e := 25) rfl rfl Tryd.underlying49 (by kernel_rfl) (by decide) (by decide)) (by decide) ?_
  refine HL.val (Val.load_mid rfl (fun w hw => hw.at (i := 1) rfl) (dgA 16 (dig w4)) (w5_get4 _ _ _ _ _) Tryd.underlying25 rfl (sz25 _)) (by decide) ?_
  refine HL.val (Val.ixAddrQ 16 (i := 1) (m := 5) (s := 16) (e := 25) rfl rfl Tryd.underlying49 (by kernel_rfl) (by decide) (by decide)) (by decide) ?_
  refine HL.val (Val.load_mid rfl (fun w hw => hw.at (i := 1) rfl) (dgA 16 (dig w1)) (w5_get1 _ _ _ _ _) Tryd.underlying25 rfl (sz25 _)) (by decide) ?_
  refine HL.val (Val.ixAddrQ 32 (i := 2) (m := 5) (s := 16) (e := 25) rfl rfl Tryd.underlying49 (by kernel_rfl) (by decide) (by decide)) (by decide) ?_
  refine HL.val (Val.load_mid rfl (fun w hw => hw.at (i := 1) rfl) (dgA 16 (dig w2)) (w5_get2 _ _ _ _ _) Tryd.underlying25 rfl (sz25 _)) (by decide) ?_
  refine HL.val (Val.ixAddrQ 16 (i := 1) (m := 5) (s := 16) (e := 25) rfl rfl Tryd.underlying49 (by kernel_rfl) (by decide) (by decide)) (by decide) ?_
  refine HL.put 1 rfl (Put.mid (new := dgA 80 (w5F w0 w3 w2 w3 w4)) rfl rfl (sz25 _) (by rw [dgA_size, dgA_size]; decide) (oneN 16 _) (eqszN _ _ 80) (w5_put1 w0 w1 w2 w3 w4 w3)) (.inl hb1) ?_
  simp only [List.set_cons_zero, List.set_cons_succ]
  refine HL.val (Val.ixAddrQ 32 (i := 2) (m := 5) (s := 16) (e := 25) rfl rfl Tryd.underlying49 (by kernel_rfl) (by decide) (by decide)) (by decide) ?_
  refine HL.put 1 rfl (Put.mid (new := dgA 80 (w5F w0 w3 w4 w3 w4)) rfl rfl (sz25 _) (by rw [dgA_size, dgA_size]; decide) (oneN 16 _) (eqszN _ _ 80) (w5_put2 w0 w3 w2 w3 w4 w4)) (.inl hb1) ?_
  simp only [List.set_cons_zero, List.set_cons_succ]
  refine HL.val (Val.ixAddrQ 48 (i := 3) (m := 5) (s := 16) (e := 25) rfl rfl Tryd.underlying49 (by kernel_rfl) (by decide) (by decide)) (by decide) ?_
  refine HL.put 1 rfl (Put.mid (new := dgA 80 (w5F w0 w3 w4 w1 w4)) rfl rfl (sz25 _) (by rw [dgA_size, dgA_size]; decide) (oneN 16 _) (eqszN _ _ 80) (w5_put3 w0 w3 w4 w3 w4 w1)) (.inl hb1) ?_
  simp only [List.set_cons_zero, List.set_cons_succ]
  refine HL.val (Val.ixAddrQ 64 (i := 4) (m := 5) (s := 16) (e := 25) rfl rfl Tryd.underlying49 (by kernel_rfl) (by decide) (by decide)) (by decide) ?_
  refine HL.put 1 rfl (Put.mid (new := dgA 80 (w5F w0 w3 w4 w1 w2)) rfl rfl (sz25 _) (by rw [dgA_size, dgA_size]; decide) (oneN 16 _) (eqszN _ _ 80) (w5_put4 w0 w3 w4 w1 w4 w2)) (.inl hb1) ?_
  simp only [List.set_cons_zero, List.set_cons_succ]
  refine HL.nil ?_
  refine HQ.next ?_
  refine HC.seq ?_
  refine HC.draw2 10 (by kernel_rfl) (by kernel_rfl) rfl rfl (by kernel_rfl) ?_
  simp only [List.take, List.drop]
  refine HV.val (Val.ixAddrQ 16 (i := 1) (m := 5) (s := 16) (e := 25) rfl rfl Tryd.underlying49 (by kernel_rfl) (by decide) (by decide)) (by decide) ?_
  refine HV.val (Val.load_mid rfl (fun w hw => hw.at (i := 1) rfl) (dgA 16 (dig w3)) (w5_get1 _ _ _ _ _) Tryd.underlying25 rfl (sz25 _)) (by decide) ?_
  refine HV.val (Val.ixAddrQ 32 (i := 2) (m := 5) (s := 16) (e := 25) rfl rfl Tryd.underlying49 (by kernel_rfl) (by decide) (by decide)) (by decide) ?_
  refine HV.val (Val.load_mid rfl (fun w hw => hw.at (i := 1) rfl) (dgA 16 (dig w4)) (w5_get2 _ _ _ _ _) Tryd.underlying25 rfl (sz25 _)) (by decide) ?_
  refine HV.val (Val.call en52 (add30 w3 w4 h3 h4) rfl) (by decide) ?_
  refine HV.val (Val.ixAddrQ 16 (i := 1) (m := 5) (s := 16) (e := 25) rfl rfl Tryd.underlying49 (by kernel_rfl) (by decide) (by decide)) (by decide) ?_
  refine HV.val (Val.load_mid rfl (fun w hw => hw.at (i := 1) rfl) (dgA 16 (dig w3)) (w5_get1 _ _ _ _ _) Tryd.underlying25 rfl (sz25 _)) (by decide) ?_
  refine HV.val (Val.ixAddrQ 32 (i := 2) (m := 5) (s := 16) (e := 25) rfl rfl Tryd.underlying49 (by kernel_rfl) (by decide) (by decide)) (by decide) ?_
  refine HV.val (Val.load_mid rfl (fun w hw => hw.at (i := 1) rfl) (dgA 16 (dig w4)) (w5_get2 _ _ _ _ _) Tryd.underlying25 rfl (sz25 _)) (by decide) ?_
  refine HV.val (Val.call en53 (sub32N w3 w4 h3 h4) rfl) (by decide) ?_
  refine HV.tail2 (New.alloc al25) (New.alloc al25) (by decide) (by decide) ?_
  intro b3 b4 hb3 hb4
  refine HL.put 1 rfl (Put.row rfl rfl (sz25 _) (eqszN _ _ 16) (oneN 16 _)) (.inl hb3) ?_
  simp only [List.set_cons_zero, List.set_cons_succ]
  refine HL.put 0 rfl (Put.row rfl rfl (sz25 _) (eqszN _ _ 16) (oneN 16 _)) (.inl hb4) ?_
  simp only [List.set_cons_zero]
  refine HL.nil ?_
  refine HQ.next ?_
  refine HC.seq ?_
  refine HC.draw2 6 (by kernel_rfl) (by kernel_rfl) rfl rfl (by kernel_rfl) ?_
  simp only [List.take, List.drop]
  refine HV.val (Val.load_row rfl (fun w hw => hw.at (i := 1) rfl) Tryd.underlying25 rfl (sz25 _)) (by decide) ?_
  refine HV.val (Val.load_row rfl (fun w hw => hw.at (i := 1) rfl) Tryd.underlying25 rfl (sz25 _)) (by decide) ?_
  refine HV.val (Val.call en38 (mul34 (((w3 + w4) % p25)) (((w3 + w4) % p25)) (lt256 _) (lt256 _)) rfl) (by decide) ?_
  refine HV.val (Val.load_row rfl (fun w hw => hw.at (i := 0) rfl) Tryd.underlying25 rfl (sz25 _)) (by decide) ?_
  refine HV.val (Val.load_row rfl (fun w hw => hw.at (i := 0) rfl) Tryd.underlying25 rfl (sz25 _)) (by decide) ?_
  refine HV.val (Val.call en38 (mul34 ((subN w3 w4)) ((subN w3 w4)) (sub256 _ _) (sub256 _ _)) rfl) (by decide) ?_
  refine HV.tail2 (New.alloc al25) (New.alloc al25) (by decide) (by decide) ?_
  intro b5 b6 hb5 hb6
  refine HL.put 1 rfl (Put.row rfl rfl (sz25 _) (eqszN _ _ 16) (oneN 16 _)) (.inl hb5) ?_
  simp only [List.set_cons_zero, List.set_cons_succ]
  refine HL.put 0 rfl (Put.row rfl rfl (sz25 _) (eqszN _ _ 16) (oneN 16 _)) (.inl hb6) ?_
  simp only [List.set_cons_zero]
  refine HL.nil ?_
  refine HQ.next ?_
  refine HC.seq ?_
  refine HC.region ?_
  refine HL.val (Val.load_row rfl (fun w hw => hw.at (i := 1) rfl) Tryd.underlying25 rfl (sz25 _)) (by decide) ?_
  refine HL.val (Val.load_row rfl (fun w hw => hw.at (i := 0) rfl) Tryd.underlying25 rfl (sz25 _)) (by decide) ?_
  refine HL.val (Val.call en53 (sub32N ((((((w3 + w4) % p25)) * (((w3 + w4) % p25))) % p25)) (((((subN w3 w4)) * ((subN w3 w4))) % p25)) (lt256 _) (lt256 _)) rfl) (by decide) ?_
  refine HL.new (New.alloc al25) (by decide) ?_
  intro b7 hb7
  refine HL.put 0 rfl (Put.row rfl rfl (sz25 _) (eqszN _ _ 16) (oneN 16 _)) (.inl hb7) ?_
  simp only [List.set_cons_zero]
  refine HL.nil ?_
  refine HQ.next ?_
  refine HC.seq ?_
  refine HC.draw1 7 (by kernel_rfl) (by kernel_rfl) rfl ?_
  simp only [List.take, List.drop]
  refine HV.val (Val.ixAddrQ 48 (i := 3) (m := 5) (s := 16) (e := 25) rfl rfl Tryd.underlying49 (by kernel_rfl) (by decide) (by decide)) (by decide) ?_
  refine HV.val (Val.load_mid rfl (fun w hw => hw.at (i := 6) rfl) (dgA 16 (dig w1)) (w5_get3 _ _ _ _ _) Tryd.underlying25 rfl (sz25 _)) (by decide) ?_
  refine HV.val (Val.ixAddrQ 64 (i := 4) (m := 5) (s := 16) (e := 25) rfl rfl Tryd.underlying49 (by kernel_rfl) (by decide) (by decide)) (by decide) ?_
  refine HV.val (Val.load_mid rfl (fun w hw => hw.at (i := 6) rfl) (dgA 16 (dig w2)) (w5_get4 _ _ _ _ _) Tryd.underlying25 rfl (sz25 _)) (by decide) ?_
  refine HV.val (Val.call en53 (sub32N w1 w2 h1 h2) rfl) (by decide) ?_
  refine HV.val (Val.load_row rfl (fun w hw => hw.at (i := 4) rfl) Tryd.underlying25 rfl (sz25 _)) (by decide) ?_
  refine HV.val (Val.call en38 (mul34 ((subN w1 w2)) (((w3 + w4) % p25)) (sub256 _ _) (lt256 _)) rfl) (by decide) ?_
  refine HV.tail1 (New.alloc al25) (by decide) ?_
  intro b8 hb8
  refine HL.put 0 rfl (Put.row rfl rfl (sz25 _) (eqszN _ _ 16) (oneN 16 _)) (.inl hb8) ?_
  simp only [List.set_cons_zero]
  refine HL.nil ?_
  refine HQ.next ?_
  refine HC.seq ?_
  refine HC.draw1 7 (by kernel_rfl) (by kernel_rfl) rfl ?_
  simp only [List.take, List.drop]
  refine HV.val (Val.ixAddrQ 48 (i := 3) (m := 5) (s := 16) (e := 25) rfl rfl Tryd.underlying49 (by kernel_rfl) (by decide) (by decide)) (by decide) ?_
  refine HV.val (Val.load_mid rfl (fun w hw => hw.at (i := 7) rfl) (dgA 16 (dig w1)) (w5_get3 _ _ _ _ _) Tryd.underlying25 rfl (sz25 _)) (by decide) ?_
  refine HV.val (Val.ixAddrQ 64 (i := 4) (m := 5) (s := 16) (e := 25) rfl rfl Tryd.underlying49 (by kernel_rfl) (by decide) (by decide)) (by decide) ?_
  refine HV.val (Val.load_mid rfl (fun w hw => hw.at (i := 7) rfl) (dgA 16 (dig w2)) (w5_get4 _ _ _ _ _) Tryd.underlying25 rfl (sz25 _)) (by decide) ?_
  refine HV.val (Val.call en52 (add30 w1 w2 h1 h2) rfl) (by decide) ?_
  refine HV.val (Val.load_row rfl (fun w hw => hw.at (i := 4) rfl) Tryd.underlying25 rfl (sz25 _)) (by decide) ?_
  refine HV.val (Val.call en38 (mul34 (((w1 + w2) % p25)) ((subN w3 w4)) (lt256 _) (sub256 _ _)) rfl) (by decide) ?_
  refine HV.tail1 (New.alloc al25) (by decide) ?_
  intro b9 hb9
  refine HL.put 0 rfl (Put.row rfl rfl (sz25 _) (eqszN _ _ 16) (oneN 16 _)) (.inl hb9) ?_
  simp only [List.set_cons_zero]
  refine HL.nil ?_
  refine HQ.next ?_
  refine HC.seq ?_
  refine HC.draw2 6 (by kernel_rfl) (by kernel_rfl) rfl rfl (by kernel_rfl) ?_
  simp only [List.take, List.drop]
  refine HV.val (Val.load_row rfl (fun w hw => hw.at (i := 1) rfl) Tryd.underlying25 rfl (sz25 _)) (by decide) ?_
  refine HV.val (Val.load_row rfl (fun w hw => hw.at (i := 0) rfl) Tryd.underlying25 rfl (sz25 _)) (by decide) ?_
  refine HV.val (Val.call en52 (add30 (((((subN w1 w2)) * (((w3 + w4) % p25))) % p25)) ((((((w1 + w2) % p25)) * ((subN w3 w4))) % p25)) (lt256 _) (lt256 _)) rfl) (by decide) ?_
  refine HV.val (Val.load_row rfl (fun w hw => hw.at (i := 1) rfl) Tryd.underlying25 rfl (sz25 _)) (by decide) ?_
  refine HV.val (Val.load_row rfl (fun w hw => hw.at (i := 0) rfl) Tryd.underlying25 rfl (sz25 _)) (by decide) ?_
  refine HV.val (Val.call en53 (sub32N (((((subN w1 w2)) * (((w3 + w4) % p25))) % p25)) ((((((w1 + w2) % p25)) * ((subN w3 w4))) % p25)) (lt256 _) (lt256 _)) rfl) (by decide) ?_
  refine HV.tail2 (New.alloc al25) (New.alloc al25) (by decide) (by decide) ?_
  intro b10 b11 hb10 hb11
  refine HL.put 1 rfl (Put.row rfl rfl (sz25 _) (eqszN _ _ 16) (oneN 16 _)) (.inl hb10) ?_
  simp only [List.set_cons_zero, List.set_cons_succ]
  refine HL.put 0 rfl (Put.row rfl rfl (sz25 _) (eqszN _ _ 16) (oneN 16 _)) (.inl hb11) ?_
  simp only [List.set_cons_zero]
  refine HL.nil ?_
  refine HQ.next ?_
  refine HC.seq ?_
  refine HC.draw0 23 (by kernel_rfl) (by kernel_rfl) ?_
  simp only [List.take, List.drop]
  refine HV.val (Val.ixAddrQ 0 (i := 0) (m := 5) (s := 16) (e := 25) rfl rfl Tryd.underlying49 (by kernel_rfl) (by decide) (by decide)) (by decide) ?_
  refine HV.val (Val.load_mid rfl (fun w hw => hw.at (i := 10) rfl) (dgA 16 (dig w0)) (w5_get0 _ _ _ _ _) Tryd.underlying25 rfl (sz25 _)) (by decide) ?_
  refine HV.val (Val.call en9 (mod22 w0 h0) rfl) (by decide) ?_
  refine HV.val (Val.load_row rfl (fun w hw => hw.at (i := 6) rfl) Tryd.underlying25 rfl (sz25 _)) (by decide) ?_
  refine HV.val (Val.load_row rfl (fun w hw => hw.at (i := 5) rfl) Tryd.underlying25 rfl (sz25 _)) (by decide) ?_
  refine HV.val (Val.call en38 (mul34 ((((((w3 + w4) % p25)) * (((w3 + w4) % p25))) % p25)) (((((subN w3 w4)) * ((subN w3 w4))) % p25)) (lt256 _) (lt256 _)) rfl) (by decide) ?_
  refine HV.val (Val.load_row rfl (fun w hw => hw.at (i := 4) rfl) Tryd.underlying25 rfl (sz25 _)) (by decide) ?_
  refine HV.val (Val.load_row rfl (fun w hw => hw.at (i := 6) rfl) Tryd.underlying25 rfl (sz25 _)) (by decide) ?_
  refine HV.val (Val.call en35 (small35 121665 (by decide)) rfl) (by decide) ?_
  refine HV.val (Val.load_row rfl (fun w hw => hw.at (i := 4) rfl) Tryd.underlying25 rfl (sz25 _)) (by decide) ?_
  refine HV.val (Val.call en38 (mul34 121665 ((subN ((((((w3 + w4) % p25)) * (((w3 + w4) % p25))) % p25)) (((((subN w3 w4)) * ((subN w3 w4))) % p25)))) (by decide) (sub256 _ _)) rfl) (by decide) ?_
  refine HV.val (Val.call en52 (add30 ((((((w3 + w4) % p25)) * (((w3 + w4) % p25))) % p25)) (((121665 * ((subN ((((((w3 + w4) % p25)) * (((w3 + w4) % p25))) % p25)) (((((subN w3 w4)) * ((subN w3 w4))) % p25))))) % p25)) (lt256 _) (lt256 _)) rfl) (by decide) ?_
  refine HV.val (Val.call en38 (mul34 ((subN ((((((w3 + w4) % p25)) * (((w3 + w4) % p25))) % p25)) (((((subN w3 w4)) * ((subN w3 w4))) % p25)))) (((((((((w3 + w4) % p25)) * (((w3 + w4) % p25))) % p25)) + (((121665 * ((subN ((((((w3 + w4) % p25)) * (((w3 + w4) % p25))) % p25)) (((((subN w3 w4)) * ((subN w3 w4))) % p25))))) % p25))) % p25)) (sub256 _ _) (lt256 _)) rfl) (by decide) ?_
  refine HV.val (Val.load_row rfl (fun w hw => hw.at (i := 1) rfl) Tryd.underlying25 rfl (sz25 _)) (by decide) ?_
  refine HV.val (Val.load_row rfl (fun w hw => hw.at (i := 1) rfl) Tryd.underlying25 rfl (sz25 _)) (by decide) ?_
  refine HV.val (Val.call en38 (mul34 ((((((((subN w1 w2)) * (((w3 + w4) % p25))) % p25)) + ((((((w1 + w2) % p25)) * ((subN w3 w4))) % p25))) % p25)) ((((((((subN w1 w2)) * (((w3 + w4) % p25))) % p25)) + ((((((w1 + w2) % p25)) * ((subN w3 w4))) % p25))) % p25)) (lt256 _) (lt256 _)) rfl) (by decide) ?_
  refine HV.val (Val.ixAddrQ 0 (i := 0) (m := 5) (s := 16) (e := 25) rfl rfl Tryd.underlying49 (by kernel_rfl) (by decide) (by decide)) (by decide) ?_
  refine HV.val (Val.load_mid rfl (fun w hw => hw.at (i := 10) rfl) (dgA 16 (dig w0)) (w5_get0 _ _ _ _ _) Tryd.underlying25 rfl (sz25 _)) (by decide) ?_
  refine HV.val (Val.load_row rfl (fun w hw => hw.at (i := 0) rfl) Tryd.underlying25 rfl (sz25 _)) (by decide) ?_
  refine HV.val (Val.load_row rfl (fun w hw => hw.at (i := 0) rfl) Tryd.underlying25 rfl (sz25 _)) (by decide) ?_
  refine HV.val (Val.call en38 (mul34 ((subN (((((subN w1 w2)) * (((w3 + w4) % p25))) % p25)) ((((((w1 + w2) % p25)) * ((subN w3 w4))) % p25)))) ((subN (((((subN w1 w2)) * (((w3 + w4) % p25))) % p25)) ((((((w1 + w2) % p25)) * ((subN w3 w4))) % p25)))) (sub256 _ _) (sub256 _ _)) rfl) (by decide) ?_
  refine HV.val (Val.call en38 (mul34 w0 (((((subN (((((subN w1 w2)) * (((w3 + w4) % p25))) % p25)) ((((((w1 + w2) % p25)) * ((subN w3 w4))) % p25)))) * ((subN (((((subN w1 w2)) * (((w3 + w4) % p25))) % p25)) ((((((w1 + w2) % p25)) * ((subN w3 w4))) % p25))))) % p25)) h0 (lt256 _)) rfl) (by decide) ?_
  refine HV.val (Val.build rfl (built_5 ((w0 % p25)) (((((((((w3 + w4) % p25)) * (((w3 + w4) % p25))) % p25)) * (((((subN w3 w4)) * ((subN w3 w4))) % p25))) % p25)) (((((subN ((((((w3 + w4) % p25)) * (((w3 + w4) % p25))) % p25)) (((((subN w3 w4)) * ((subN w3 w4))) % p25)))) * (((((((((w3 + w4) % p25)) * (((w3 + w4) % p25))) % p25)) + (((121665 * ((subN ((((((w3 + w4) % p25)) * (((w3 + w4) % p25))) % p25)) (((((subN w3 w4)) * ((subN w3 w4))) % p25))))) % p25))) % p25))) % p25)) (((((((((((subN w1 w2)) * (((w3 + w4) % p25))) % p25)) + ((((((w1 + w2) % p25)) * ((subN w3 w4))) % p25))) % p25)) * ((((((((subN w1 w2)) * (((w3 + w4) % p25))) % p25)) + ((((((w1 + w2) % p25)) * ((subN w3 w4))) % p25))) % p25))) % p25)) (((w0 * (((((subN (((((subN w1 w2)) * (((w3 + w4) % p25))) % p25)) ((((((w1 + w2) % p25)) * ((subN w3 w4))) % p25)))) * ((subN (((((subN w1 w2)) * (((w3 + w4) % p25))) % p25)) ((((((w1 + w2) % p25)) * ((subN w3 w4))) % p25))))) % p25))) % p25)))) (by decide) ?_
  refine HV.tail0 ?_
  refine HL.put 9 rfl (Put.row rfl rfl (sz49 _) (eqszN _ _ 80) (oneN 80 _)) (.inl hb2) ?_
  simp only [List.set_cons_zero, List.set_cons_succ]
  refine HL.nil ?_
  refine HQ.next ?_
  refine HC.ret ?_
  exact HQ.retc 9 rfl rfl rfl Tryd.underlying49 rfl (sz49 _) (pure_end (by simp only [subN_fs]; rfl))
theorem specStep (w0 w1 w2 w3 w4 m : Nat) (h0 : w0 < 2 ^ 256) (h1 : w1 < 2 ^ 256) (h2 : w2 < 2 ^ 256) (h3 : w3 < 2 ^ 256) (h4 : w4 < 2 ^ 256) (hm : m ≤ 1) :
    Pure Tryd.prog 36 #[dgV 80 (w5F w0 w1 w2 w3 w4), .int .u64 (m : Nat)] (dgV 80 (w5F (w0 % p25) (dN m w1 w2 w3 w4).1 (dN m w1 w2 w3 w4).2 (aN m w0 w1 w2 w3 w4).1 (aN m w0 w1 w2 w3 w4).2)) := by
  rcases (show m = 0 ∨ m = 1 by omega) with rfl | rfl
  · exact specStep0 w0 w1 w2 w3 w4 h0 h1 h2 h3 h4
  · exact specStep1 w0 w1 w2 w3 w4 h0 h1 h2 h3 h4
end Go.Proofs.YteehdjkmjncehaaDoor

namespace Go.Proofs.YteehdjkmjncehaaDoor
open Go.RowKit
/-- What a step leaves. -/
structure StepR (m w0 w1 w2 w3 w4 x z u v : Nat) : Prop where
  l1 : x < 2 ^ 256
  l2 : z < 2 ^ 256
  l3 : u < 2 ^ 256
  l4 : v < 2 ^ 256
  e1 : x % p25 = (dN m w1 w2 w3 w4).1
  e2 : z % p25 = (dN m w1 w2 w3 w4).2
  e3 : u % p25 = (aN m w0 w1 w2 w3 w4).1
  e4 : v % p25 = (aN m w0 w1 w2 w3 w4).2
theorem ownB (b : Nat) {w : World} : w.heap.size ≤ b ∨ (fun k => k == b) b = true := .inr (by simp)
theorem hold_one {w : World} {b : Nat} {ob : Obj} {D : Nat → Bool} (h : w.heap[b]? = some ob) : Hold D w [(b, ob)] w := ⟨Sn.refl _ _, (fun p hp => by
  obtain rfl : p = (b, ob) := by simpa using hp
  exact h), by simp⟩

set_option maxRecDepth 100000 in
theorem ladderStepGeneric_any {bw T w0 w1 w2 w3 w4 m : Nat} {w : World} (hb : w.heap[bw]? = some (obE [w0, w1, w2, w3, w4] T)) (h0 : w0 < 2 ^ 256) (h1 : w1 < 2 ^ 256) (h2 : w2 < 2 ^ 256) (h3 : w3 < 2 ^ 256) (h4 : w4 < 2 ^ 256) (hm : m ≤ 1) :
    Calls Tryd.prog 74 #[.pointer (some ⟨bw, 0, none⟩), .int .u64 (m : Nat)] w fun e w' => ∃ r : Nat × Nat × Nat × Nat, StepR m w0 w1 w2 w3 w4 r.1 r.2.1 r.2.2.1 r.2.2.2 ∧ e = .returned (.tuple #[]) ∧ Hold (fun k => k == bw) w [(bw, obE [w0, r.1, r.2.1, r.2.2.1, r.2.2.2] T)] w' := by
  refine calls_H (args := [.pointer (some ⟨bw, 0, none⟩), .int .u64 (m : Nat)]) (fun k => k == bw) [(bw, obE [w0, w1, w2, w3, w4] T)] Tryd.func74 rfl (m := 90) rfl rfl (hold_one hb) ?_
  refine HC.seq ?_
  refine HC.draw0 19 (by kernel_rfl) (by kernel_rfl) ?_
  simp only [List.take, List.drop]
  refine HV.val (Val.move rfl) (by decide) ?_
  refine HV.val (Val.nilCheck rfl) (by decide) ?_
  refine HV.val (Val.ixAddrQ 0 (i := 0) (m := 5) (s := 32) (e := 41) rfl rfl Tryd.underlying64 (by kernel_rfl) (by decide) (by decide)) (by decide) ?_
  refine HV.val (Val.move rfl) (by decide) ?_
  refine HV.val (Val.nilCheck rfl) (by decide) ?_
  refine HV.val (Val.ixAddrQ 32 (i := 1) (m := 5) (s := 32) (e := 41) rfl rfl Tryd.underlying64 (by kernel_rfl) (by decide) (by decide)) (by decide) ?_
  refine HV.val (Val.move rfl) (by decide) ?_
  refine HV.val (Val.nilCheck rfl) (by decide) ?_
  refine HV.val (Val.ixAddrQ 64 (i := 2) (m := 5) (s := 32) (e := 41) rfl rfl Tryd.underlying64 (by kernel_rfl) (by decide) (by decide)) (by decide) ?_
  refine HV.val (Val.move rfl) (by decide) ?_
  refine HV.val (Val.nilCheck rfl) (by decide) ?_
  refine HV.val (Val.ixAddrQ 96 (i := 3) (m := 5) (s := 32) (e := 41) rfl rfl Tryd.underlying64 (by kernel_rfl) (by decide) (by decide)) (by decide) ?_
  refine HV.val (Val.move rfl) (by decide) ?_
  refine HV.val (Val.nilCheck rfl) (by decide) ?_
  refine HV.val (Val.ixAddrQ 128 (i := 4) (m := 5) (s := 32) (e := 41) rfl rfl Tryd.underlying64 (by kernel_rfl) (by decide) (by decide)) (by decide) ?_
  refine HV.val (Val.assign rfl) (by decide) ?_
  refine HV.val (Val.assign rfl) (by decide) ?_
  refine HV.val (Val.assign rfl) (by decide) ?_
  refine HV.val (Val.assign rfl) (by decide) ?_
  refine HV.tail0 ?_
  refine HL.val (Val.assign rfl) (by decide) ?_
  refine HL.nil ?_
  refine HQ.next ?_
  refine HC.seq ?_
  refine HC.region ?_
  refine HL.val (Val.build rfl bz41) (by decide) ?_
  refine HL.new (New.box rfl) (by decide) ?_
  intro b1 hb1
  refine HL.val (Val.assign rfl) (by decide) ?_
  refine HL.nil ?_
  refine HQ.next ?_
  refine HC.seq ?_
  refine HC.region ?_
  refine HL.val (Val.build rfl bz41) (by decide) ?_
  refine HL.new (New.box rfl) (by decide) ?_
  intro b2 hb2
  refine HL.val (Val.assign rfl) (by decide) ?_
  refine HL.nil ?_
  refine HQ.next ?_
  refine HC.seq ?_
  refine HC.region ?_
  refine HL.val (Val.move rfl) (by decide) ?_
  refine HL.val (Val.move rfl) (by decide) ?_
  refine HL.call (f := 44) en44 rfl (asH5 2 1 2 rfl rfl rfl (ownB bw) h1 h2) (by decide) ?_
  rintro ⟨r1, s1⟩ ⟨lr1, ls1, hr1, hs1⟩
  dsimp only at lr1 ls1 hr1 hs1 ⊢
  simp only [List.set_cons_zero, List.set_cons_succ]
  refine HL.nil ?_
  refine HQ.next ?_
  refine HC.seq ?_
  refine HC.region ?_
  refine HL.val (Val.move rfl) (by decide) ?_
  refine HL.val (Val.move rfl) (by decide) ?_
  refine HL.call (f := 44) en44 rfl (asH5 2 3 4 rfl rfl rfl (ownB bw) h3 h4) (by decide) ?_
  rintro ⟨r2, s2⟩ ⟨lr2, ls2, hr2, hs2⟩
  dsimp only at lr2 ls2 hr2 hs2 ⊢
  simp only [List.set_cons_zero, List.set_cons_succ]
  refine HL.nil ?_
  refine HQ.next ?_
  refine HC.seq ?_
  refine HC.region ?_
  refine HL.val (Val.move rfl) (by decide) ?_
  refine HL.val (Val.move rfl) (by decide) ?_
  refine HL.val (Val.move rfl) (by decide) ?_
  refine HL.call (f := 48) en48 rfl (mulH (dst1 1 rfl (.inl hb1)) (elh5 2 1 rfl rfl) lr1 (elh5 2 4 rfl rfl) ls2) (by decide) ?_
  rintro r3 ⟨lr3, hr3⟩
  simp only [List.set_cons_zero, List.set_cons_succ]
  refine HL.nil ?_
  refine HQ.next ?_
  refine HC.seq ?_
  refine HC.region ?_
  refine HL.val (Val.move rfl) (by decide) ?_
  refine HL.val (Val.move rfl) (by decide) ?_
  refine HL.val (Val.move rfl) (by decide) ?_
  refine HL.call (f := 48) en48 rfl (mulH (dst1 0 rfl (.inl hb2)) (elh5 2 3 rfl rfl) lr2 (elh5 2 2 rfl rfl) ls1) (by decide) ?_
  rintro r4 ⟨lr4, hr4⟩
  simp only [List.set_cons_zero]
  refine HL.nil ?_
  refine HQ.next ?_
  refine HC.seq ?_
  refine HC.region ?_
  refine HL.val (Val.move rfl) (by decide) ?_
  refine HL.val (Val.move rfl) (by decide) ?_
  refine HL.call (f := 44) en44 rfl (asH2 1 0 rfl rfl (by decide) (.inl hb1) (.inl hb2) lr3 lr4) (by decide) ?_
  rintro ⟨r5, s5⟩ ⟨lr5, ls5, hr5, hs5⟩
  dsimp only at lr5 ls5 hr5 hs5 ⊢
  simp only [List.set_cons_zero, List.set_cons_succ]
  refine HL.nil ?_
  refine HQ.next ?_
  refine HC.seq ?_
  refine HC.region ?_
  refine HL.val (Val.move rfl) (by decide) ?_
  refine HL.val (Val.move rfl) (by decide) ?_
  refine HL.val (Val.move rfl) (by decide) ?_
  refine HL.call (f := 84) en84 rfl (cmovH (dst5 2 1 rfl (show 1 < 5 from by decide) (ownB bw)) (elh5 2 1 rfl rfl) (elh5 2 3 rfl rfl) lr1 lr2 hm) (by decide) ?_
  rintro r6 ⟨lr6, hr6⟩
  simp only [List.set_cons_zero, List.set_cons_succ]
  refine HL.nil ?_
  refine HQ.next ?_
  refine HC.seq ?_
  refine HC.region ?_
  refine HL.val (Val.move rfl) (by decide) ?_
  refine HL.val (Val.move rfl) (by decide) ?_
  refine HL.val (Val.move rfl) (by decide) ?_
  refine HL.call (f := 84) en84 rfl (cmovH (dst5 2 2 rfl (show 2 < 5 from by decide) (ownB bw)) (elh5 2 2 rfl rfl) (elh5 2 4 rfl rfl) ls1 ls2 hm) (by decide) ?_
  rintro r7 ⟨lr7, hr7⟩
  simp only [List.set_cons_zero, List.set_cons_succ]
  refine HL.nil ?_
  refine HQ.next ?_
  refine HC.seq ?_
  refine HC.region ?_
  refine HL.val (Val.move rfl) (by decide) ?_
  refine HL.val (Val.move rfl) (by decide) ?_
  refine HL.call (f := 47) en47 rfl (sqrH (dst5 2 3 rfl (show 3 < 5 from by decide) (ownB bw)) (elh1 1 rfl) lr5) (by decide) ?_
  rintro r8 ⟨lr8, hr8⟩
  simp only [List.set_cons_zero, List.set_cons_succ]
  refine HL.nil ?_
  refine HQ.next ?_
  refine HC.seq ?_
  refine HC.region ?_
  refine HL.val (Val.move rfl) (by decide) ?_
  refine HL.val (Val.move rfl) (by decide) ?_
  refine HL.call (f := 47) en47 rfl (sqrH (dst5 2 4 rfl (show 4 < 5 from by decide) (ownB bw)) (elh1 0 rfl) ls5) (by decide) ?_
  rintro r9 ⟨lr9, hr9⟩
  simp only [List.set_cons_zero, List.set_cons_succ]
  refine HL.nil ?_
  refine HQ.next ?_
  refine HC.seq ?_
  refine HC.region ?_
  refine HL.val (Val.move rfl) (by decide) ?_
  refine HL.val (Val.move rfl) (by decide) ?_
  refine HL.val (Val.move rfl) (by decide) ?_
  refine HL.call (f := 48) en48 rfl (mulH (dst5 2 4 rfl (show 4 < 5 from by decide) (ownB bw)) (elh5 2 0 rfl rfl) h0 (elh5 2 4 rfl rfl) lr9) (by decide) ?_
  rintro r10 ⟨lr10, hr10⟩
  simp only [List.set_cons_zero, List.set_cons_succ]
  refine HL.nil ?_
  refine HQ.next ?_
  refine HC.seq ?_
  refine HC.region ?_
  refine HL.val (Val.move rfl) (by decide) ?_
  refine HL.val (Val.move rfl) (by decide) ?_
  refine HL.call (f := 47) en47 rfl (sqrH (dst5 2 1 rfl (show 1 < 5 from by decide) (ownB bw)) (elh5 2 1 rfl rfl) lr6) (by decide) ?_
  rintro r11 ⟨lr11, hr11⟩
  simp only [List.set_cons_zero, List.set_cons_succ]
  refine HL.nil ?_
  refine HQ.next ?_
  refine HC.seq ?_
  refine HC.region ?_
  refine HL.val (Val.move rfl) (by decide) ?_
  refine HL.val (Val.move rfl) (by decide) ?_
  refine HL.call (f := 47) en47 rfl (sqrH (dst5 2 2 rfl (show 2 < 5 from by decide) (ownB bw)) (elh5 2 2 rfl rfl) lr7) (by decide) ?_
  rintro r12 ⟨lr12, hr12⟩
  simp only [List.set_cons_zero, List.set_cons_succ]
  refine HL.nil ?_
  refine HQ.next ?_
  refine HC.seq ?_
  refine HC.region ?_
  refine HL.val (Val.move rfl) (by decide) ?_
  refine HL.val (Val.move rfl) (by decide) ?_
  refine HL.val (Val.move rfl) (by decide) ?_
  refine HL.call (f := 45) en45 rfl (subH (dst1 1 rfl (.inl hb1)) (elh5 2 1 rfl rfl) lr11 (elh5 2 2 rfl rfl) lr12) (by decide) ?_
  rintro r13 ⟨lr13, hr13⟩
  simp only [List.set_cons_zero, List.set_cons_succ]
  refine HL.nil ?_
  refine HQ.next ?_
  refine HC.seq ?_
  refine HC.region ?_
  refine HL.val (Val.move rfl) (by decide) ?_
  refine HL.val (Val.move rfl) (by decide) ?_
  refine HL.call (f := 85) en85 rfl (a24H (dst1 0 rfl (.inl hb2)) (elh1 1 rfl) lr13) (by decide) ?_
  rintro r14 ⟨lr14, hr14⟩
  simp only [List.set_cons_zero]
  refine HL.nil ?_
  refine HQ.next ?_
  refine HC.seq ?_
  refine HC.region ?_
  refine HL.val (Val.move rfl) (by decide) ?_
  refine HL.val (Val.move rfl) (by decide) ?_
  refine HL.val (Val.move rfl) (by decide) ?_
  refine HL.call (f := 46) en46 rfl (addH (dst1 0 rfl (.inl hb2)) (elh1 0 rfl) lr14 (elh5 2 2 rfl rfl) lr12) (by decide) ?_
  rintro r15 ⟨lr15, hr15⟩
  simp only [List.set_cons_zero]
  refine HL.nil ?_
  refine HQ.next ?_
  refine HC.seq ?_
  refine HC.region ?_
  refine HL.val (Val.move rfl) (by decide) ?_
  refine HL.val (Val.move rfl) (by decide) ?_
  refine HL.val (Val.move rfl) (by decide) ?_
  refine HL.call (f := 48) en48 rfl (mulH (dst5 2 1 rfl (show 1 < 5 from by decide) (ownB bw)) (elh5 2 1 rfl rfl) lr11 (elh5 2 2 rfl rfl) lr12) (by decide) ?_
  rintro r16 ⟨lr16, hr16⟩
  simp only [List.set_cons_zero, List.set_cons_succ]
  refine HL.nil ?_
  refine HQ.next ?_
  refine HC.region ?_
  refine HL.val (Val.move rfl) (by decide) ?_
  refine HL.val (Val.move rfl) (by decide) ?_
  refine HL.val (Val.move rfl) (by decide) ?_
  refine HL.call (f := 48) en48 rfl (mulH (dst5 2 2 rfl (show 2 < 5 from by decide) (ownB bw)) (elh1 1 rfl) lr13 (elh1 0 rfl) lr15) (by decide) ?_
  rintro r17 ⟨lr17, hr17⟩
  simp only [List.set_cons_zero, List.set_cons_succ]
  refine HL.nil ?_
  obtain ⟨q1, q2, q3, q4⟩ := step_law hm hr1 hs1 hr2 hs2 hr3 hr4 hr5 hs5 hr6 hr7 hr8 hr9 hr10 hr11 hr12 hr13 hr14 hr15 hr16 hr17
  exact HQ.end0 rfl (fun w hw => ⟨(r16, r17, r8, r10), ⟨lr16, lr17, lr8, lr10, q1, q2, q3, q4⟩, rfl, hw.pick [2] (by simp)⟩)

theorem lsgH (i : Nat) {D : Nat → Bool} {u0 : World} {η : List (Nat × Obj)} {bw T w0 w1 w2 w3 w4 m : Nat} (hi : η[i]? = some (bw, obE [w0, w1, w2, w3, w4] T)) (hD : u0.heap.size ≤ bw ∨ D bw = true) (h0 : w0 < 2 ^ 256) (h1 : w1 < 2 ^ 256) (h2 : w2 < 2 ^ 256) (h3 : w3 < 2 ^ 256) (h4 : w4 < 2 ^ 256) (hm : m ≤ 1) :
    ∀ w, Hold D u0 η w → Calls Tryd.prog 74 #[.pointer (some ⟨bw, 0, none⟩), .int .u64 (m : Nat)] w fun e w' => ∃ r : Nat × Nat × Nat × Nat, StepR m w0 w1 w2 w3 w4 r.1 r.2.1 r.2.2.1 r.2.2.2 ∧ e = .returned (.tuple #[]) ∧ Hold D u0 (η.set i (bw, obE [w0, r.1, r.2.1, r.2.2.1, r.2.2.2] T)) w' := fun _ hw =>
  (ladderStepGeneric_any (hw.at hi) h0 h1 h2 h3 h4 hm).mono fun _ _ ⟨r, hr, he, hh⟩ => ⟨r, hr, he, hw.lift1 hi hD hh (hh.at (i := 0) rfl)⟩

set_option maxRecDepth 100000 in
theorem ladderStep_any {bw T w0 w1 w2 w3 w4 m : Nat} {w : World} (hb : w.heap[bw]? = some (obE [w0, w1, w2, w3, w4] T)) (h0 : w0 < 2 ^ 256) (h1 : w1 < 2 ^ 256) (h2 : w2 < 2 ^ 256) (h3 : w3 < 2 ^ 256) (h4 : w4 < 2 ^ 256) (hm : m ≤ 1) :
    Calls Tryd.prog 65 #[.pointer (some ⟨bw, 0, none⟩), .int .u64 (m : Nat)] w fun e w' => ∃ r : Nat × Nat × Nat × Nat, StepR m w0 w1 w2 w3 w4 r.1 r.2.1 r.2.2.1 r.2.2.2 ∧ e = .returned (.tuple #[]) ∧ Hold (fun k => k == bw) w [(bw, obE [w0, r.1, r.2.1, r.2.2.1, r.2.2.2] T)] w' := by
  refine calls_H (args := [.pointer (some ⟨bw, 0, none⟩), .int .u64 (m : Nat)]) (fun k => k == bw) [(bw, obE [w0, w1, w2, w3, w4] T)] Tryd.func65 rfl (m := 7) rfl rfl (hold_one hb) ?_
  refine HC.region ?_
  refine HL.val (Val.move rfl) (by decide) ?_
  refine HL.val (Val.move rfl) (by decide) ?_
  refine HL.call (f := 74) en74 rfl (lsgH 0 rfl (ownB bw) h0 h1 h2 h3 h4 hm) (by decide) ?_
  rintro ⟨x1, z1, u1, v1⟩ hs1
  dsimp only at hs1 ⊢
  simp only [List.set_cons_zero]
  refine HL.nil ?_
  exact HQ.end0 rfl (fun w hw => ⟨(x1, z1, u1, v1), hs1, rfl, hw.pick [0] (by simp)⟩)

theorem lsH (i : Nat) {D : Nat → Bool} {u0 : World} {η : List (Nat × Obj)} {bw T w0 w1 w2 w3 w4 m : Nat} (hi : η[i]? = some (bw, obE [w0, w1, w2, w3, w4] T)) (hD : u0.heap.size ≤ bw ∨ D bw = true) (h0 : w0 < 2 ^ 256) (h1 : w1 < 2 ^ 256) (h2 : w2 < 2 ^ 256) (h3 : w3 < 2 ^ 256) (h4 : w4 < 2 ^ 256) (hm : m ≤ 1) :
    ∀ w, Hold D u0 η w → Calls Tryd.prog 65 #[.pointer (some ⟨bw, 0, none⟩), .int .u64 (m : Nat)] w fun e w' => ∃ r : Nat × Nat × Nat × Nat, StepR m w0 w1 w2 w3 w4 r.1 r.2.1 r.2.2.1 r.2.2.2 ∧ e = .returned (.tuple #[]) ∧ Hold D u0 (η.set i (bw, obE [w0, r.1, r.2.1, r.2.2.1, r.2.2.2] T)) w' := fun _ hw =>
  (ladderStep_any (hw.at hi) h0 h1 h2 h3 h4 hm).mono fun _ _ ⟨r, hr, he, hh⟩ => ⟨r, hr, he, hw.lift1 hi hD hh (hh.at (i := 0) rfl)⟩
end Go.Proofs.YteehdjkmjncehaaDoor

namespace Go.Proofs.YteehdjkmjncehaaDoor
open Go.RowKit
theorem powN_ex : ∃ f : Nat → Nat → Nat, ∀ a e, f a e = a ^ e % p25 := ⟨_, fun _ _ => rfl⟩
/-- A power modulo the prime. -/
noncomputable def powN : Nat → Nat → Nat := Classical.choose powN_ex
theorem powN_eq (a e : Nat) : powN a e = a ^ e % p25 := Classical.choose_spec powN_ex a e
theorem powN_lt (a e : Nat) : powN a e < 2 ^ 256 := by rw [powN_eq]; exact lt256 _
theorem half_bit (e q : Nat) : e / 2 ^ q = 2 * (e / 2 ^ (q + 1)) + e / 2 ^ q % 2 := by
  rw [Nat.pow_succ, ← Nat.div_div_eq_div_mul]; omega
theorem powN_bit0 {a e q : Nat} (h : ¬ e / 2 ^ q % 2 = 1) : powN a (e / 2 ^ (q + 1)) * powN a (e / 2 ^ (q + 1)) % p25 = powN a (e / 2 ^ q) := by
  have h2 := half_bit e q
  rw [show e / 2 ^ q % 2 = 0 by omega] at h2
  rw [powN_eq, powN_eq, h2, ← Nat.mul_mod, ← Nat.pow_add]; congr 2; omega
theorem powN_bit1 {a e q : Nat} (h : e / 2 ^ q % 2 = 1) : powN a (e / 2 ^ (q + 1)) * powN a (e / 2 ^ (q + 1)) % p25 * a % p25 = powN a (e / 2 ^ q) := by
  have h2 := half_bit e q
  rw [h] at h2
  rw [powN_eq, powN_eq, h2, ← Nat.mul_mod, ← Nat.pow_add, Nat.mod_mul_mod, ← Nat.pow_succ]; congr 2; omega
theorem powN_top {a e : Nat} (h : e < 2 ^ 256) : powN a (e / 2 ^ 256) = 1 := by rw [Nat.div_eq_of_lt h, powN_eq, Nat.pow_zero]; decide +kernel
theorem dig_bit (a i : Nat) : dig a (i / 16) / 2 ^ (i % 16) % 2 = a / 2 ^ i % 2 := by
  unfold dig
  have hm : i % 16 < 16 := Nat.mod_lt _ (by decide)
  have e1 : (65536 : Nat) = 2 ^ (i % 16) * 2 ^ (16 - i % 16) := by rw [← Nat.pow_add, show i % 16 + (16 - i % 16) = 16 by omega]
  have e2 : 2 ^ (16 - i % 16) = 2 * 2 ^ (15 - i % 16) := by rw [show 16 - i % 16 = (15 - i % 16) + 1 by omega, Nat.pow_succ, Nat.mul_comm]
  have e3 : 65536 ^ (i / 16) * 2 ^ (i % 16) = 2 ^ i := by
    rw [show (65536 : Nat) = 2 ^ 16 by decide, ← Nat.pow_mul, ← Nat.pow_add, Nat.div_add_mod]
  have e4 : ∀ X : Nat, X % 65536 / 2 ^ (i % 16) % 2 = X / 2 ^ (i % 16) % 2 := fun X => by
    rw [e1, Nat.mod_mul_right_div_self, e2, Nat.mod_mul_right_mod]
  rw [e4, Nat.div_div_eq_div_mul, e3]
theorem and1 (x : Nat) (hx : x < 18446744073709551616) : bits .and .u64 (x : Int) 1 = ((x % 2 : Nat) : Int) := by
  have h := u64_and_nat x 1 hx (by decide)
  rw [Nat.and_one_is_mod] at h
  exact h
theorem eql1 (x : Nat) : ((x : Int) == 1) = decide (x = 1) := by
  rw [Bool.eq_iff_iff, beq_iff_eq, decide_eq_true_eq]; omega
theorem dig64 (a k : Nat) : dig a k < 18446744073709551616 := Nat.lt_trans (dig_lt a k) (by decide)
def idxI (p : Nat) : Int := (p : Int) - 1
theorem idxI_s (q : Nat) : idxI (q + 1) = (q : Int) := by unfold idxI; omega
theorem idxI_0 : idxI 0 = -1 := rfl

set_option maxRecDepth 100000 in
theorem bit_p (a i : Nat) (hi : i < 256) : Pure Tryd.prog 37 #[nV a, .int .i64 (i : Int)] (.int .u64 ((a / 2 ^ i % 2 : Nat) : Int)) := by
  intro w
  refine calls_H (args := [nV a, .int .i64 (i : Int)]) noD [] Tryd.func37 rfl (m := 13) rfl rfl (hold_nil _ _) ?_
  refine HC.seq ?_
  refine HC.region ?_
  refine HL.new (New.box rfl) (by decide) ?_
  intro b1 hb1
  refine HL.val (Val.assign rfl) (by decide) ?_
  refine HL.nil ?_
  refine HQ.next ?_
  refine HC.seq ?_
  refine HC.region ?_
  refine HL.val (Val.move rfl) (by decide) ?_
  refine HL.val (Val.quoN i 16 rfl rfl rfl (by decide) (by omega)) (by decide) ?_
  refine HL.val (Val.ixAddrQ (i / 16) (i := i / 16) (m := 16) (s := 1) (e := 23) rfl rfl Tryd.underlying25 (by kernel_rfl) (by omega) (by omega)) (by decide) ?_
  refine HL.val (Val.load_cell rfl (fun w hw => hw.at (i := 0) rfl) (dgA_get (show i / 16 < 16 by omega)) Tryd.underlying23 rfl) (by decide) ?_
  refine HL.val (Val.move rfl) (by decide) ?_
  refine HL.val (Val.remN i 16 rfl rfl rfl (by decide)) (by decide) ?_
  refine HL.val ((Val.shrI rfl rfl (Int.natCast_nonneg _) (show ((i % 16 : Nat) : Int) ≤ 64 by omega)).as (congrArg (Value.int .u64) (shrNat (dig a (i / 16)) (i % 16)))) (by decide) ?_
  refine HL.val ((Val.andI rfl rfl).as (congrArg (Value.int .u64) (and1 (dig a (i / 16) / 2 ^ (i % 16)) (Nat.lt_of_le_of_lt (Nat.div_le_self _ _) (dig64 a _))))) (by decide) ?_
  refine HL.val (Val.assign rfl) (by decide) ?_
  refine HL.nil ?_
  refine HQ.next ?_
  refine HC.ret ?_
  exact HQ.ret1 rfl rfl (pure_end (congrArg (fun z : Nat => Value.int .u64 (z : Int)) (dig_bit a i)))

set_option maxRecDepth 100000 in
theorem power_p (a e : Nat) (ha : a < 2 ^ 256) (he : e < 2 ^ 256) : Pure Tryd.prog 55 #[nV a, nV e] (nV (powN a e)) := by
  intro w
  refine calls_H (args := [nV a, nV e]) noD [] Tryd.func55 rfl (m := 23) rfl rfl (hold_nil _ _) ?_
  refine HC.seq ?_
  refine HC.region ?_
  refine HL.new (New.box rfl) (by decide) ?_
  intro b1 hb1
  refine HL.new (New.box rfl) (by decide) ?_
  intro b2 hb2
  refine HL.new (New.alloc al25) (by decide) ?_
  intro b3 hb3
  refine HL.nil ?_
  refine HQ.next ?_
  refine HC.seq ?_
  refine HC.region ?_
  refine HL.val (Val.call en35 (small35 1 (by decide)) rfl) (by decide) ?_
  refine HL.new (New.alloc al25) (by decide) ?_
  intro b4 hb4
  refine HL.put 0 rfl (Put.row rfl rfl (sz25 _) (eqszN _ _ 16) (oneN 16 _)) (.inl hb4) ?_
  simp only [List.set_cons_zero]
  refine HL.nil ?_
  refine HQ.next ?_
  refine HC.seq ?_
  refine HC.seq ?_
  refine HC.region ?_
  refine HL.val (Val.assign rfl) (by decide) ?_
  refine HL.nil ?_
  refine HQ.next ?_
  refine HC.block ?_
  refine HC.loop (ι := {p : Nat // p ≤ 256}) (fun p => p.1) (fun p => [(6, .int .i64 (idxI p.1)), (2, .pointer (some ⟨b1, 0, none⟩)), (3, .pointer (some ⟨b2, 0, none⟩)), (4, .pointer (some ⟨b3, 0, none⟩)), (5, .pointer (some ⟨b4, 0, none⟩))]) (fun p => [(b4, .cells (dgA 16 (dig (powN a (e / 2 ^ p.1)))) 25 (0, 0)), (b1, .cells (dgA 16 (dig a)) 25 (0, 0)), (b2, .cells (dgA 16 (dig e)) 25 (0, 0)), (b3, .cells (dgA 16 (dig 0)) 25 (0, 0))]) ⟨256, Nat.le_refl _⟩ (fun ac wc ha hw => ⟨ha.subS ⟨rfl, rfl, rfl, rfl, rfl, trivial⟩, by have h := hw.pick [0, 3, 2, 1] (by simp); simp only [List.filterMap_cons, List.filterMap_nil, List.getElem?_cons_zero, List.getElem?_cons_succ] at h; dsimp only; rw [powN_top he]; exact h⟩) ?_
  rintro ⟨q, hq⟩
  dsimp only
  rcases (show q = 0 ∨ ∃ r, q = r + 1 ∧ r < 256 from by rcases q with _ | q; exact .inl rfl; exact .inr ⟨q, rfl, by omega⟩) with rfl | ⟨q, rfl, hm⟩
  · rw [idxI_0]
    refine HC.seq ?_
    refine HC.seq ?_
    refine HC.region ?_
    refine HL.val (Val.move rfl) (by decide) ?_
    refine HL.val ((Val.geq rfl rfl).as (v := .bool false) rfl) (by decide) ?_
    refine HL.nil ?_
    refine HQ.next ?_
    refine HC.no rfl ?_
    refine HC.exit ?_
    refine HQ.thenExit ?_
    refine HQ.thenExit ?_
    refine HQ.blockExit ?_
    refine HQ.next ?_
    refine HC.seq ?_
    refine HC.region ?_
    refine HL.val (Val.load_row rfl (fun w hw => hw.at (i := 0) rfl) Tryd.underlying25 rfl (sz25 _)) (by decide) ?_
    refine HL.put 3 rfl (Put.row rfl rfl (sz25 _) (eqszN _ _ 16) (oneN 16 _)) (.inl hb3) ?_
    simp only [List.set_cons_zero, List.set_cons_succ]
    refine HL.nil ?_
    refine HQ.next ?_
    refine HC.ret ?_
    exact HQ.retc 3 rfl rfl rfl Tryd.underlying25 rfl (sz25 _) (pure_end (by rw [Nat.pow_zero, Nat.div_one]))
  · rw [idxI_s]
    refine HC.seq ?_
    refine HC.seq ?_
    refine HC.region ?_
    refine HL.val (Val.move rfl) (by decide) ?_
    refine HL.val ((Val.geq rfl rfl).as (congrArg Value.bool (geqI q))) (by decide) ?_
    refine HL.nil ?_
    refine HQ.next ?_
    refine HC.yes rfl ?_
    refine HC.skip ?_
    refine HQ.next ?_
    refine HC.seq ?_
    refine HC.block ?_
    refine HC.seq ?_
    refine HC.region ?_
    refine HL.val (Val.load_row rfl (fun w hw => hw.at (i := 0) rfl) Tryd.underlying25 rfl (sz25 _)) (by decide) ?_
    refine HL.val (Val.load_row rfl (fun w hw => hw.at (i := 0) rfl) Tryd.underlying25 rfl (sz25 _)) (by decide) ?_
    refine HL.val (Val.call en38 (mul34 ((powN a (e / 2 ^ (q + 1)))) ((powN a (e / 2 ^ (q + 1)))) (powN_lt _ _) (powN_lt _ _)) rfl) (by decide) ?_
    refine HL.put 0 rfl (Put.row rfl rfl (sz25 _) (eqszN _ _ 16) (oneN 16 _)) (.inl hb4) ?_
    simp only [List.set_cons_zero]
    refine HL.nil ?_
    refine HQ.next ?_
    refine HC.seq ?_
    refine HC.region ?_
    refine HL.val (Val.load_row rfl (fun w hw => hw.at (i := 2) rfl) Tryd.underlying25 rfl (sz25 _)) (by decide) ?_
    refine HL.val (Val.move rfl) (by decide) ?_
    refine HL.val (Val.call en37 (bit_p e q (by omega)) rfl) (by decide) ?_
    by_cases hbit : e / 2 ^ q % 2 = 1
    · refine HL.val (((Val.eqlI rfl rfl).as (congrArg Value.bool (eql1 (e / 2 ^ q % 2)))).as (congrArg Value.bool (decide_eq_true hbit))) (by decide) ?_
      refine HL.nil ?_
      refine HQ.next ?_
      refine HC.yes rfl ?_
      refine HC.region ?_
      refine HL.val (Val.load_row rfl (fun w hw => hw.at (i := 0) rfl) Tryd.underlying25 rfl (sz25 _)) (by decide) ?_
      refine HL.val (Val.load_row rfl (fun w hw => hw.at (i := 1) rfl) Tryd.underlying25 rfl (sz25 _)) (by decide) ?_
      refine HL.val (Val.call en38 (mul34 (((((powN a (e / 2 ^ (q + 1)))) * ((powN a (e / 2 ^ (q + 1))))) % p25)) a (lt256 _) ha) rfl) (by decide) ?_
      refine HL.put 0 rfl (Put.row rfl rfl (sz25 _) (eqszN _ _ 16) (oneN 16 _)) (.inl hb4) ?_
      simp only [List.set_cons_zero]
      refine HL.nil ?_
      refine HQ.blockNormal ?_
      refine HQ.next ?_
      refine HC.region ?_
      refine HL.val (Val.move rfl) (by decide) ?_
      refine HL.val ((Val.subI rfl rfl).as (congrArg (Value.int .i64) (idxI_wrap (q := q) (by omega)))) (by decide) ?_
      refine HL.val (Val.assign rfl) (by decide) ?_
      refine HL.nil ?_
      exact ⟨fun ac wc ha hw => ⟨⟨q, by omega⟩, by dsimp only; omega, ha.subS ⟨rfl, rfl, rfl, rfl, rfl, trivial⟩, by have h := hw.pick [0, 1, 2, 3] (by simp); simp only [List.filterMap_cons, List.filterMap_nil, List.getElem?_cons_zero, List.getElem?_cons_succ] at h; rw [powN_bit1 hbit] at h; exact h⟩⟩
    · refine HL.val (((Val.eqlI rfl rfl).as (congrArg Value.bool (eql1 (e / 2 ^ q % 2)))).as (congrArg Value.bool (decide_eq_false hbit))) (by decide) ?_
      refine HL.nil ?_
      refine HQ.next ?_
      refine HC.no rfl ?_
      refine HC.skip ?_
      refine HQ.blockNormal ?_
      refine HQ.next ?_
      refine HC.region ?_
      refine HL.val (Val.move rfl) (by decide) ?_
      refine HL.val ((Val.subI rfl rfl).as (congrArg (Value.int .i64) (idxI_wrap (q := q) (by omega)))) (by decide) ?_
      refine HL.val (Val.assign rfl) (by decide) ?_
      refine HL.nil ?_
      exact ⟨fun ac wc ha hw => ⟨⟨q, by omega⟩, by dsimp only; omega, ha.subS ⟨rfl, rfl, rfl, rfl, rfl, trivial⟩, by have h := hw.pick [0, 1, 2, 3] (by simp); simp only [List.filterMap_cons, List.filterMap_nil, List.getElem?_cons_zero, List.getElem?_cons_succ] at h; rw [powN_bit0 hbit] at h; exact h⟩⟩

set_option maxRecDepth 100000 in
theorem sinv_p (a : Nat) (ha : a < 2 ^ 256) : Pure Tryd.prog 39 #[nV a] (nV (powN a (p25 - 2))) := by
  intro w
  refine calls_H (args := [nV a]) noD [] Tryd.func39 rfl (m := 8) rfl rfl (hold_nil _ _) ?_
  refine HC.seq ?_
  refine HC.region ?_
  refine HL.new (New.box rfl) (by decide) ?_
  intro b1 hb1
  refine HL.new (New.alloc al25) (by decide) ?_
  intro b2 hb2
  refine HL.nil ?_
  refine HQ.next ?_
  refine HC.seq ?_
  refine HC.draw0 5 (by kernel_rfl) (by kernel_rfl) ?_
  simp only [List.take, List.drop]
  refine HV.val (Val.load_row rfl (fun w hw => hw.at (i := 1) rfl) Tryd.underlying25 rfl (sz25 _)) (by decide) ?_
  refine HV.val (Val.call en13 (p65) rfl) (by decide) ?_
  refine HV.val (Val.call en35 (small35 2 (by decide)) rfl) (by decide) ?_
  refine HV.val (Val.call en43 (minus69 p25 2 (by decide +kernel)) rfl) (by decide) ?_
  refine HV.val (Val.call en55 (power_p a (p25 - 2) ha (Nat.lt_of_le_of_lt (Nat.sub_le _ _) p25_lt)) rfl) (by decide) ?_
  refine HV.tail0 ?_
  refine HL.put 0 rfl (Put.row rfl rfl (sz25 _) (eqszN _ _ 16) (oneN 16 _)) (.inl hb2) ?_
  simp only [List.set_cons_zero]
  refine HL.nil ?_
  refine HQ.next ?_
  refine HC.ret ?_
  exact HQ.retc 0 rfl rfl rfl Tryd.underlying25 rfl (sz25 _) (pure_end rfl)
end Go.Proofs.YteehdjkmjncehaaDoor
