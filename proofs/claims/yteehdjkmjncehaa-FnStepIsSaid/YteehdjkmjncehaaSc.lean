/-
  spec.Step: a step of the ladder of RFC 7748 (written by gensc.py).
-/
import Derived.Test.YteehdjkmjncehaaSb
import Derived.Test.YteehdjkmjncehaaHR
namespace Go.Proofs.Yteehdjkmjncehaa
open Go.RowKit
set_option maxRecDepth 100000 in
theorem specStep0 (w0 w1 w2 w3 w4 : Nat) (h0 : w0 < 2 ^ 256) (h1 : w1 < 2 ^ 256) (h2 : w2 < 2 ^ 256) (h3 : w3 < 2 ^ 256) (h4 : w4 < 2 ^ 256) :
    Pure Try.prog 40 #[dgV 80 (w5F w0 w1 w2 w3 w4), .int .u64 0] (dgV 80 (w5F (w0 % p25) (dN 0 w1 w2 w3 w4).1 (dN 0 w1 w2 w3 w4).2 (aN 0 w0 w1 w2 w3 w4).1 (aN 0 w0 w1 w2 w3 w4).2)) := by
  intro w
  refine calls_H (args := [dgV 80 (w5F w0 w1 w2 w3 w4), .int .u64 0]) noD [] Try.func40 rfl (m := 90) rfl rfl (hold_nil _ _) ?_
  refine HC.seq ?_
  refine HC.region ?_
  refine HL.new (New.box rfl) (by decide) ?_
  intro b1 hb1
  refine HL.new (New.alloc al48) (by decide) ?_
  intro b2 hb2
  refine HL.nil ?_
  refine HQ.next ?_
  refine HC.seq ?_
  refine HC.seq ?_
  refine HC.region ?_
  refine HL.val (Val.move rfl) (by decide) ?_
  refine HL.val (Val.eqlI rfl rfl) (by decide) ?_
  refine HL.nil ?_
  refine HQ.next ?_
  refine HC.no rfl ?_
  refine HC.skip ?_
  refine HQ.next ?_
  refine HC.seq ?_
  refine HC.draw2 10 (by kernel_rfl) (by kernel_rfl) rfl rfl (by kernel_rfl) ?_
  simp only [List.take, List.drop]
  refine HV.val (Val.ixAddrQ 16 (i := 1) (m := 5) (s := 16) (e := 28) rfl rfl Try.underlying48 (by kernel_rfl) (by decide) (by decide)) (by decide) ?_
  refine HV.val (Val.load_mid rfl (fun w hw => hw.at (i := 1) rfl) (dgA 16 (dig w1)) (w5_get1 _ _ _ _ _) Try.underlying28 rfl (sz28 _)) (by decide) ?_
  refine HV.val (Val.ixAddrQ 32 (i := 2) (m := 5) (s := 16) (e := 28) rfl rfl Try.underlying48 (by kernel_rfl) (by decide) (by decide)) (by decide) ?_
  refine HV.val (Val.load_mid rfl (fun w hw => hw.at (i := 1) rfl) (dgA 16 (dig w2)) (w5_get2 _ _ _ _ _) Try.underlying28 rfl (sz28 _)) (by decide) ?_
  refine HV.val (Val.call en30 (add30 w1 w2 h1 h2) rfl) (by decide) ?_
  refine HV.val (Val.ixAddrQ 16 (i := 1) (m := 5) (s := 16) (e := 28) rfl rfl Try.underlying48 (by kernel_rfl) (by decide) (by decide)) (by decide) ?_
  refine HV.val (Val.load_mid rfl (fun w hw => hw.at (i := 1) rfl) (dgA 16 (dig w1)) (w5_get1 _ _ _ _ _) Try.underlying28 rfl (sz28 _)) (by decide) ?_
  refine HV.val (Val.ixAddrQ 32 (i := 2) (m := 5) (s := 16) (e := 28) rfl rfl Try.underlying48 (by kernel_rfl) (by decide) (by decide)) (by decide) ?_
  refine HV.val (Val.load_mid rfl (fun w hw => hw.at (i := 1) rfl) (dgA 16 (dig w2)) (w5_get2 _ _ _ _ _) Try.underlying28 rfl (sz28 _)) (by decide) ?_
  refine HV.val (Val.call en32 (sub32N w1 w2 h1 h2) rfl) (by decide) ?_
  refine HV.tail2 (New.alloc al28) (New.alloc al28) (by decide) (by decide) ?_
  intro b3 b4 hb3 hb4
  refine HL.put 1 rfl (Put.row rfl rfl (sz28 _) (eqszN _ _ 16) (oneN 16 _)) (.inl hb3) ?_
  simp only [List.set_cons_zero, List.set_cons_succ]
  refine HL.put 0 rfl (Put.row rfl rfl (sz28 _) (eqszN _ _ 16) (oneN 16 _)) (.inl hb4) ?_
  simp only [List.set_cons_zero]
  refine HL.nil ?_
  refine HQ.next ?_
  refine HC.seq ?_
  refine HC.draw2 6 (by kernel_rfl) (by kernel_rfl) rfl rfl (by kernel_rfl) ?_
  simp only [List.take, List.drop]
  refine HV.val (Val.load_row rfl (fun w hw => hw.at (i := 1) rfl) Try.underlying28 rfl (sz28 _)) (by decide) ?_
  refine HV.val (Val.load_row rfl (fun w hw => hw.at (i := 1) rfl) Try.underlying28 rfl (sz28 _)) (by decide) ?_
  refine HV.val (Val.call en34 (mul34 (((w1 + w2) % p25)) (((w1 + w2) % p25)) (lt256 _) (lt256 _)) rfl) (by decide) ?_
  refine HV.val (Val.load_row rfl (fun w hw => hw.at (i := 0) rfl) Try.underlying28 rfl (sz28 _)) (by decide) ?_
  refine HV.val (Val.load_row rfl (fun w hw => hw.at (i := 0) rfl) Try.underlying28 rfl (sz28 _)) (by decide) ?_
  refine HV.val (Val.call en34 (mul34 ((subN w1 w2)) ((subN w1 w2)) (sub256 _ _) (sub256 _ _)) rfl) (by decide) ?_
  refine HV.tail2 (New.alloc al28) (New.alloc al28) (by decide) (by decide) ?_
  intro b5 b6 hb5 hb6
  refine HL.put 1 rfl (Put.row rfl rfl (sz28 _) (eqszN _ _ 16) (oneN 16 _)) (.inl hb5) ?_
  simp only [List.set_cons_zero, List.set_cons_succ]
  refine HL.put 0 rfl (Put.row rfl rfl (sz28 _) (eqszN _ _ 16) (oneN 16 _)) (.inl hb6) ?_
  simp only [List.set_cons_zero]
  refine HL.nil ?_
  refine HQ.next ?_
  refine HC.seq ?_
  refine HC.region ?_
  refine HL.val (Val.load_row rfl (fun w hw => hw.at (i := 1) rfl) Try.underlying28 rfl (sz28 _)) (by decide) ?_
  refine HL.val (Val.load_row rfl (fun w hw => hw.at (i := 0) rfl) Try.underlying28 rfl (sz28 _)) (by decide) ?_
  refine HL.val (Val.call en32 (sub32N ((((((w1 + w2) % p25)) * (((w1 + w2) % p25))) % p25)) (((((subN w1 w2)) * ((subN w1 w2))) % p25)) (lt256 _) (lt256 _)) rfl) (by decide) ?_
  refine HL.new (New.alloc al28) (by decide) ?_
  intro b7 hb7
  refine HL.put 0 rfl (Put.row rfl rfl (sz28 _) (eqszN _ _ 16) (oneN 16 _)) (.inl hb7) ?_
  simp only [List.set_cons_zero]
  refine HL.nil ?_
  refine HQ.next ?_
  refine HC.seq ?_
  refine HC.draw1 7 (by kernel_rfl) (by kernel_rfl) rfl ?_
  simp only [List.take, List.drop]
  refine HV.val (Val.ixAddrQ 48 (i := 3) (m := 5) (s := 16) (e := 28) rfl rfl Try.underlying48 (by kernel_rfl) (by decide) (by decide)) (by decide) ?_
  refine HV.val (Val.load_mid rfl (fun w hw => hw.at (i := 6) rfl) (dgA 16 (dig w3)) (w5_get3 _ _ _ _ _) Try.underlying28 rfl (sz28 _)) (by decide) ?_
  refine HV.val (Val.ixAddrQ 64 (i := 4) (m := 5) (s := 16) (e := 28) rfl rfl Try.underlying48 (by kernel_rfl) (by decide) (by decide)) (by decide) ?_
  refine HV.val (Val.load_mid rfl (fun w hw => hw.at (i := 6) rfl) (dgA 16 (dig w4)) (w5_get4 _ _ _ _ _) Try.underlying28 rfl (sz28 _)) (by decide) ?_
  refine HV.val (Val.call en32 (sub32N w3 w4 h3 h4) rfl) (by decide) ?_
  refine HV.val (Val.load_row rfl (fun w hw => hw.at (i := 4) rfl) Try.underlying28 rfl (sz28 _)) (by decide) ?_
  refine HV.val (Val.call en34 (mul34 ((subN w3 w4)) (((w1 + w2) % p25)) (sub256 _ _) (lt256 _)) rfl) (by decide) ?_
  refine HV.tail1 (New.alloc al28) (by decide) ?_
  intro b8 hb8
  refine HL.put 0 rfl (Put.row rfl rfl (sz28 _) (eqszN _ _ 16) (oneN 16 _)) (.inl hb8) ?_
  simp only [List.set_cons_zero]
  refine HL.nil ?_
  refine HQ.next ?_
  refine HC.seq ?_
  refine HC.draw1 7 (by kernel_rfl) (by kernel_rfl) rfl ?_
  simp only [List.take, List.drop]
  refine HV.val (Val.ixAddrQ 48 (i := 3) (m := 5) (s := 16) (e := 28) rfl rfl Try.underlying48 (by kernel_rfl) (by decide) (by decide)) (by decide) ?_
  refine HV.val (Val.load_mid rfl (fun w hw => hw.at (i := 7) rfl) (dgA 16 (dig w3)) (w5_get3 _ _ _ _ _) Try.underlying28 rfl (sz28 _)) (by decide) ?_
  refine HV.val (Val.ixAddrQ 64 (i := 4) (m := 5) (s := 16) (e := 28) rfl rfl Try.underlying48 (by kernel_rfl) (by decide) (by decide)) (by decide) ?_
  refine HV.val (Val.load_mid rfl (fun w hw => hw.at (i := 7) rfl) (dgA 16 (dig w4)) (w5_get4 _ _ _ _ _) Try.underlying28 rfl (sz28 _)) (by decide) ?_
  refine HV.val (Val.call en30 (add30 w3 w4 h3 h4) rfl) (by decide) ?_
  refine HV.val (Val.load_row rfl (fun w hw => hw.at (i := 4) rfl) Try.underlying28 rfl (sz28 _)) (by decide) ?_
  refine HV.val (Val.call en34 (mul34 (((w3 + w4) % p25)) ((subN w1 w2)) (lt256 _) (sub256 _ _)) rfl) (by decide) ?_
  refine HV.tail1 (New.alloc al28) (by decide) ?_
  intro b9 hb9
  refine HL.put 0 rfl (Put.row rfl rfl (sz28 _) (eqszN _ _ 16) (oneN 16 _)) (.inl hb9) ?_
  simp only [List.set_cons_zero]
  refine HL.nil ?_
  refine HQ.next ?_
  refine HC.seq ?_
  refine HC.draw2 6 (by kernel_rfl) (by kernel_rfl) rfl rfl (by kernel_rfl) ?_
  simp only [List.take, List.drop]
  refine HV.val (Val.load_row rfl (fun w hw => hw.at (i := 1) rfl) Try.underlying28 rfl (sz28 _)) (by decide) ?_
  refine HV.val (Val.load_row rfl (fun w hw => hw.at (i := 0) rfl) Try.underlying28 rfl (sz28 _)) (by decide) ?_
  refine HV.val (Val.call en30 (add30 (((((subN w3 w4)) * (((w1 + w2) % p25))) % p25)) ((((((w3 + w4) % p25)) * ((subN w1 w2))) % p25)) (lt256 _) (lt256 _)) rfl) (by decide) ?_
  refine HV.val (Val.load_row rfl (fun w hw => hw.at (i := 1) rfl) Try.underlying28 rfl (sz28 _)) (by decide) ?_
  refine HV.val (Val.load_row rfl (fun w hw => hw.at (i := 0) rfl) Try.underlying28 rfl (sz28 _)) (by decide) ?_
  refine HV.val (Val.call en32 (sub32N (((((subN w3 w4)) * (((w1 + w2) % p25))) % p25)) ((((((w3 + w4) % p25)) * ((subN w1 w2))) % p25)) (lt256 _) (lt256 _)) rfl) (by decide) ?_
  refine HV.tail2 (New.alloc al28) (New.alloc al28) (by decide) (by decide) ?_
  intro b10 b11 hb10 hb11
  refine HL.put 1 rfl (Put.row rfl rfl (sz28 _) (eqszN _ _ 16) (oneN 16 _)) (.inl hb10) ?_
  simp only [List.set_cons_zero, List.set_cons_succ]
  refine HL.put 0 rfl (Put.row rfl rfl (sz28 _) (eqszN _ _ 16) (oneN 16 _)) (.inl hb11) ?_
  simp only [List.set_cons_zero]
  refine HL.nil ?_
  refine HQ.next ?_
  refine HC.seq ?_
  refine HC.draw0 23 (by kernel_rfl) (by kernel_rfl) ?_
  simp only [List.take, List.drop]
  refine HV.val (Val.ixAddrQ 0 (i := 0) (m := 5) (s := 16) (e := 28) rfl rfl Try.underlying48 (by kernel_rfl) (by decide) (by decide)) (by decide) ?_
  refine HV.val (Val.load_mid rfl (fun w hw => hw.at (i := 10) rfl) (dgA 16 (dig w0)) (w5_get0 _ _ _ _ _) Try.underlying28 rfl (sz28 _)) (by decide) ?_
  refine HV.val (Val.call en22 (mod22 w0 h0) rfl) (by decide) ?_
  refine HV.val (Val.load_row rfl (fun w hw => hw.at (i := 6) rfl) Try.underlying28 rfl (sz28 _)) (by decide) ?_
  refine HV.val (Val.load_row rfl (fun w hw => hw.at (i := 5) rfl) Try.underlying28 rfl (sz28 _)) (by decide) ?_
  refine HV.val (Val.call en34 (mul34 ((((((w1 + w2) % p25)) * (((w1 + w2) % p25))) % p25)) (((((subN w1 w2)) * ((subN w1 w2))) % p25)) (lt256 _) (lt256 _)) rfl) (by decide) ?_
  refine HV.val (Val.load_row rfl (fun w hw => hw.at (i := 4) rfl) Try.underlying28 rfl (sz28 _)) (by decide) ?_
  refine HV.val (Val.load_row rfl (fun w hw => hw.at (i := 6) rfl) Try.underlying28 rfl (sz28 _)) (by decide) ?_
  refine HV.val (Val.call en35 (small35 121665 (by decide)) rfl) (by decide) ?_
  refine HV.val (Val.load_row rfl (fun w hw => hw.at (i := 4) rfl) Try.underlying28 rfl (sz28 _)) (by decide) ?_
  refine HV.val (Val.call en34 (mul34 121665 ((subN ((((((w1 + w2) % p25)) * (((w1 + w2) % p25))) % p25)) (((((subN w1 w2)) * ((subN w1 w2))) % p25)))) (by decide) (sub256 _ _)) rfl) (by decide) ?_
  refine HV.val (Val.call en30 (add30 ((((((w1 + w2) % p25)) * (((w1 + w2) % p25))) % p25)) (((121665 * ((subN ((((((w1 + w2) % p25)) * (((w1 + w2) % p25))) % p25)) (((((subN w1 w2)) * ((subN w1 w2))) % p25))))) % p25)) (lt256 _) (lt256 _)) rfl) (by decide) ?_
  refine HV.val (Val.call en34 (mul34 ((subN ((((((w1 + w2) % p25)) * (((w1 + w2) % p25))) % p25)) (((((subN w1 w2)) * ((subN w1 w2))) % p25)))) (((((((((w1 + w2) % p25)) * (((w1 + w2) % p25))) % p25)) + (((121665 * ((subN ((((((w1 + w2) % p25)) * (((w1 + w2) % p25))) % p25)) (((((subN w1 w2)) * ((subN w1 w2))) % p25))))) % p25))) % p25)) (sub256 _ _) (lt256 _)) rfl) (by decide) ?_
  refine HV.val (Val.load_row rfl (fun w hw => hw.at (i := 1) rfl) Try.underlying28 rfl (sz28 _)) (by decide) ?_
  refine HV.val (Val.load_row rfl (fun w hw => hw.at (i := 1) rfl) Try.underlying28 rfl (sz28 _)) (by decide) ?_
  refine HV.val (Val.call en34 (mul34 ((((((((subN w3 w4)) * (((w1 + w2) % p25))) % p25)) + ((((((w3 + w4) % p25)) * ((subN w1 w2))) % p25))) % p25)) ((((((((subN w3 w4)) * (((w1 + w2) % p25))) % p25)) + ((((((w3 + w4) % p25)) * ((subN w1 w2))) % p25))) % p25)) (lt256 _) (lt256 _)) rfl) (by decide) ?_
  refine HV.val (Val.ixAddrQ 0 (i := 0) (m := 5) (s := 16) (e := 28) rfl rfl Try.underlying48 (by kernel_rfl) (by decide) (by decide)) (by decide) ?_
  refine HV.val (Val.load_mid rfl (fun w hw => hw.at (i := 10) rfl) (dgA 16 (dig w0)) (w5_get0 _ _ _ _ _) Try.underlying28 rfl (sz28 _)) (by decide) ?_
  refine HV.val (Val.load_row rfl (fun w hw => hw.at (i := 0) rfl) Try.underlying28 rfl (sz28 _)) (by decide) ?_
  refine HV.val (Val.load_row rfl (fun w hw => hw.at (i := 0) rfl) Try.underlying28 rfl (sz28 _)) (by decide) ?_
  refine HV.val (Val.call en34 (mul34 ((subN (((((subN w3 w4)) * (((w1 + w2) % p25))) % p25)) ((((((w3 + w4) % p25)) * ((subN w1 w2))) % p25)))) ((subN (((((subN w3 w4)) * (((w1 + w2) % p25))) % p25)) ((((((w3 + w4) % p25)) * ((subN w1 w2))) % p25)))) (sub256 _ _) (sub256 _ _)) rfl) (by decide) ?_
  refine HV.val (Val.call en34 (mul34 w0 (((((subN (((((subN w3 w4)) * (((w1 + w2) % p25))) % p25)) ((((((w3 + w4) % p25)) * ((subN w1 w2))) % p25)))) * ((subN (((((subN w3 w4)) * (((w1 + w2) % p25))) % p25)) ((((((w3 + w4) % p25)) * ((subN w1 w2))) % p25))))) % p25)) h0 (lt256 _)) rfl) (by decide) ?_
  refine HV.val (Val.build rfl (built_5 ((w0 % p25)) (((((((((w1 + w2) % p25)) * (((w1 + w2) % p25))) % p25)) * (((((subN w1 w2)) * ((subN w1 w2))) % p25))) % p25)) (((((subN ((((((w1 + w2) % p25)) * (((w1 + w2) % p25))) % p25)) (((((subN w1 w2)) * ((subN w1 w2))) % p25)))) * (((((((((w1 + w2) % p25)) * (((w1 + w2) % p25))) % p25)) + (((121665 * ((subN ((((((w1 + w2) % p25)) * (((w1 + w2) % p25))) % p25)) (((((subN w1 w2)) * ((subN w1 w2))) % p25))))) % p25))) % p25))) % p25)) (((((((((((subN w3 w4)) * (((w1 + w2) % p25))) % p25)) + ((((((w3 + w4) % p25)) * ((subN w1 w2))) % p25))) % p25)) * ((((((((subN w3 w4)) * (((w1 + w2) % p25))) % p25)) + ((((((w3 + w4) % p25)) * ((subN w1 w2))) % p25))) % p25))) % p25)) (((w0 * (((((subN (((((subN w3 w4)) * (((w1 + w2) % p25))) % p25)) ((((((w3 + w4) % p25)) * ((subN w1 w2))) % p25)))) * ((subN (((((subN w3 w4)) * (((w1 + w2) % p25))) % p25)) ((((((w3 + w4) % p25)) * ((subN w1 w2))) % p25))))) % p25))) % p25)))) (by decide) ?_
  refine HV.tail0 ?_
  refine HL.put 9 rfl (Put.row rfl rfl (sz48 _) (eqszN _ _ 80) (oneN 80 _)) (.inl hb2) ?_
  simp only [List.set_cons_zero, List.set_cons_succ]
  refine HL.nil ?_
  refine HQ.next ?_
  refine HC.ret ?_
  exact HQ.retc 9 rfl rfl rfl Try.underlying48 rfl (sz48 _) (pure_end (by simp only [subN_fs]; rfl))
set_option maxRecDepth 100000 in
theorem specStep1 (w0 w1 w2 w3 w4 : Nat) (h0 : w0 < 2 ^ 256) (h1 : w1 < 2 ^ 256) (h2 : w2 < 2 ^ 256) (h3 : w3 < 2 ^ 256) (h4 : w4 < 2 ^ 256) :
    Pure Try.prog 40 #[dgV 80 (w5F w0 w1 w2 w3 w4), .int .u64 1] (dgV 80 (w5F (w0 % p25) (dN 1 w1 w2 w3 w4).1 (dN 1 w1 w2 w3 w4).2 (aN 1 w0 w1 w2 w3 w4).1 (aN 1 w0 w1 w2 w3 w4).2)) := by
  intro w
  refine calls_H (args := [dgV 80 (w5F w0 w1 w2 w3 w4), .int .u64 1]) noD [] Try.func40 rfl (m := 90) rfl rfl (hold_nil _ _) ?_
  refine HC.seq ?_
  refine HC.region ?_
  refine HL.new (New.box rfl) (by decide) ?_
  intro b1 hb1
  refine HL.new (New.alloc al48) (by decide) ?_
  intro b2 hb2
  refine HL.nil ?_
  refine HQ.next ?_
  refine HC.seq ?_
  refine HC.seq ?_
  refine HC.region ?_
  refine HL.val (Val.move rfl) (by decide) ?_
  refine HL.val (Val.eqlI rfl rfl) (by decide) ?_
  refine HL.nil ?_
  refine HQ.next ?_
  refine HC.yes rfl ?_
  refine HC.region ?_
  refine HL.val (Val.ixAddrQ 48 (i := 3) (m := 5) (s := 16) (e := 28) rfl rfl Try.underlying48 (by kernel_rfl) (by decide) (by decide)) (by decide) ?_
  refine HL.val (Val.load_mid rfl (fun w hw => hw.at (i := 1) rfl) (dgA 16 (dig w3)) (w5_get3 _ _ _ _ _) Try.underlying28 rfl (sz28 _)) (by decide) ?_
  refine HL.val (Val.ixAddrQ 64 (i := 4) (m := 5) (s := 16) (e := 28) rfl rfl Try.underlying48 (by kernel_rfl) (by decide) (by decide)) (by decide) ?_
  refine HL.val (Val.load_mid rfl (fun w hw => hw.at (i := 1) rfl) (dgA 16 (dig w4)) (w5_get4 _ _ _ _ _) Try.underlying28 rfl (sz28 _)) (by decide) ?_
  refine HL.val (Val.ixAddrQ 16 (i := 1) (m := 5) (s := 16) (e := 28) rfl rfl Try.underlying48 (by kernel_rfl) (by decide) (by decide)) (by decide) ?_
  refine HL.val (Val.load_mid rfl (fun w hw => hw.at (i := 1) rfl) (dgA 16 (dig w1)) (w5_get1 _ _ _ _ _) Try.underlying28 rfl (sz28 _)) (by decide) ?_
  refine HL.val (Val.ixAddrQ 32 (i := 2) (m := 5) (s := 16) (e := 28) rfl rfl Try.underlying48 (by kernel_rfl) (by decide) (by decide)) (by decide) ?_
  refine HL.val (Val.load_mid rfl (fun w hw => hw.at (i := 1) rfl) (dgA 16 (dig w2)) (w5_get2 _ _ _ _ _) Try.underlying28 rfl (sz28 _)) (by decide) ?_
  refine HL.val (Val.ixAddrQ 16 (i := 1) (m := 5) (s := 16) (e := 28) rfl rfl Try.underlying48 (by kernel_rfl) (by decide) (by decide)) (by decide) ?_
  refine HL.put 1 rfl (Put.mid (new := dgA 80 (w5F w0 w3 w2 w3 w4)) rfl rfl (sz28 _) (by rw [dgA_size, dgA_size]; decide) (oneN 16 _) (eqszN _ _ 80) (w5_put1 w0 w1 w2 w3 w4 w3)) (.inl hb1) ?_
  simp only [List.set_cons_zero, List.set_cons_succ]
  refine HL.val (Val.ixAddrQ 32 (i := 2) (m := 5) (s := 16) (e := 28) rfl rfl Try.underlying48 (by kernel_rfl) (by decide) (by decide)) (by decide) ?_
  refine HL.put 1 rfl (Put.mid (new := dgA 80 (w5F w0 w3 w4 w3 w4)) rfl rfl (sz28 _) (by rw [dgA_size, dgA_size]; decide) (oneN 16 _) (eqszN _ _ 80) (w5_put2 w0 w3 w2 w3 w4 w4)) (.inl hb1) ?_
  simp only [List.set_cons_zero, List.set_cons_succ]
  refine HL.val (Val.ixAddrQ 48 (i := 3) (m := 5) (s := 16) (e := 28) rfl rfl Try.underlying48 (by kernel_rfl) (by decide) (by decide)) (by decide) ?_
  refine HL.put 1 rfl (Put.mid (new := dgA 80 (w5F w0 w3 w4 w1 w4)) rfl rfl (sz28 _) (by rw [dgA_size, dgA_size]; decide) (oneN 16 _) (eqszN _ _ 80) (w5_put3 w0 w3 w4 w3 w4 w1)) (.inl hb1) ?_
  simp only [List.set_cons_zero, List.set_cons_succ]
  refine HL.val (Val.ixAddrQ 64 (i := 4) (m := 5) (s := 16) (e := 28) rfl rfl Try.underlying48 (by kernel_rfl) (by decide) (by decide)) (by decide) ?_
  refine HL.put 1 rfl (Put.mid (new := dgA 80 (w5F w0 w3 w4 w1 w2)) rfl rfl (sz28 _) (by rw [dgA_size, dgA_size]; decide) (oneN 16 _) (eqszN _ _ 80) (w5_put4 w0 w3 w4 w1 w4 w2)) (.inl hb1) ?_
  simp only [List.set_cons_zero, List.set_cons_succ]
  refine HL.nil ?_
  refine HQ.next ?_
  refine HC.seq ?_
  refine HC.draw2 10 (by kernel_rfl) (by kernel_rfl) rfl rfl (by kernel_rfl) ?_
  simp only [List.take, List.drop]
  refine HV.val (Val.ixAddrQ 16 (i := 1) (m := 5) (s := 16) (e := 28) rfl rfl Try.underlying48 (by kernel_rfl) (by decide) (by decide)) (by decide) ?_
  refine HV.val (Val.load_mid rfl (fun w hw => hw.at (i := 1) rfl) (dgA 16 (dig w3)) (w5_get1 _ _ _ _ _) Try.underlying28 rfl (sz28 _)) (by decide) ?_
  refine HV.val (Val.ixAddrQ 32 (i := 2) (m := 5) (s := 16) (e := 28) rfl rfl Try.underlying48 (by kernel_rfl) (by decide) (by decide)) (by decide) ?_
  refine HV.val (Val.load_mid rfl (fun w hw => hw.at (i := 1) rfl) (dgA 16 (dig w4)) (w5_get2 _ _ _ _ _) Try.underlying28 rfl (sz28 _)) (by decide) ?_
  refine HV.val (Val.call en30 (add30 w3 w4 h3 h4) rfl) (by decide) ?_
  refine HV.val (Val.ixAddrQ 16 (i := 1) (m := 5) (s := 16) (e := 28) rfl rfl Try.underlying48 (by kernel_rfl) (by decide) (by decide)) (by decide) ?_
  refine HV.val (Val.load_mid rfl (fun w hw => hw.at (i := 1) rfl) (dgA 16 (dig w3)) (w5_get1 _ _ _ _ _) Try.underlying28 rfl (sz28 _)) (by decide) ?_
  refine HV.val (Val.ixAddrQ 32 (i := 2) (m := 5) (s := 16) (e := 28) rfl rfl Try.underlying48 (by kernel_rfl) (by decide) (by decide)) (by decide) ?_
  refine HV.val (Val.load_mid rfl (fun w hw => hw.at (i := 1) rfl) (dgA 16 (dig w4)) (w5_get2 _ _ _ _ _) Try.underlying28 rfl (sz28 _)) (by decide) ?_
  refine HV.val (Val.call en32 (sub32N w3 w4 h3 h4) rfl) (by decide) ?_
  refine HV.tail2 (New.alloc al28) (New.alloc al28) (by decide) (by decide) ?_
  intro b3 b4 hb3 hb4
  refine HL.put 1 rfl (Put.row rfl rfl (sz28 _) (eqszN _ _ 16) (oneN 16 _)) (.inl hb3) ?_
  simp only [List.set_cons_zero, List.set_cons_succ]
  refine HL.put 0 rfl (Put.row rfl rfl (sz28 _) (eqszN _ _ 16) (oneN 16 _)) (.inl hb4) ?_
  simp only [List.set_cons_zero]
  refine HL.nil ?_
  refine HQ.next ?_
  refine HC.seq ?_
  refine HC.draw2 6 (by kernel_rfl) (by kernel_rfl) rfl rfl (by kernel_rfl) ?_
  simp only [List.take, List.drop]
  refine HV.val (Val.load_row rfl (fun w hw => hw.at (i := 1) rfl) Try.underlying28 rfl (sz28 _)) (by decide) ?_
  refine HV.val (Val.load_row rfl (fun w hw => hw.at (i := 1) rfl) Try.underlying28 rfl (sz28 _)) (by decide) ?_
  refine HV.val (Val.call en34 (mul34 (((w3 + w4) % p25)) (((w3 + w4) % p25)) (lt256 _) (lt256 _)) rfl) (by decide) ?_
  refine HV.val (Val.load_row rfl (fun w hw => hw.at (i := 0) rfl) Try.underlying28 rfl (sz28 _)) (by decide) ?_
  refine HV.val (Val.load_row rfl (fun w hw => hw.at (i := 0) rfl) Try.underlying28 rfl (sz28 _)) (by decide) ?_
  refine HV.val (Val.call en34 (mul34 ((subN w3 w4)) ((subN w3 w4)) (sub256 _ _) (sub256 _ _)) rfl) (by decide) ?_
  refine HV.tail2 (New.alloc al28) (New.alloc al28) (by decide) (by decide) ?_
  intro b5 b6 hb5 hb6
  refine HL.put 1 rfl (Put.row rfl rfl (sz28 _) (eqszN _ _ 16) (oneN 16 _)) (.inl hb5) ?_
  simp only [List.set_cons_zero, List.set_cons_succ]
  refine HL.put 0 rfl (Put.row rfl rfl (sz28 _) (eqszN _ _ 16) (oneN 16 _)) (.inl hb6) ?_
  simp only [List.set_cons_zero]
  refine HL.nil ?_
  refine HQ.next ?_
  refine HC.seq ?_
  refine HC.region ?_
  refine HL.val (Val.load_row rfl (fun w hw => hw.at (i := 1) rfl) Try.underlying28 rfl (sz28 _)) (by decide) ?_
  refine HL.val (Val.load_row rfl (fun w hw => hw.at (i := 0) rfl) Try.underlying28 rfl (sz28 _)) (by decide) ?_
  refine HL.val (Val.call en32 (sub32N ((((((w3 + w4) % p25)) * (((w3 + w4) % p25))) % p25)) (((((subN w3 w4)) * ((subN w3 w4))) % p25)) (lt256 _) (lt256 _)) rfl) (by decide) ?_
  refine HL.new (New.alloc al28) (by decide) ?_
  intro b7 hb7
  refine HL.put 0 rfl (Put.row rfl rfl (sz28 _) (eqszN _ _ 16) (oneN 16 _)) (.inl hb7) ?_
  simp only [List.set_cons_zero]
  refine HL.nil ?_
  refine HQ.next ?_
  refine HC.seq ?_
  refine HC.draw1 7 (by kernel_rfl) (by kernel_rfl) rfl ?_
  simp only [List.take, List.drop]
  refine HV.val (Val.ixAddrQ 48 (i := 3) (m := 5) (s := 16) (e := 28) rfl rfl Try.underlying48 (by kernel_rfl) (by decide) (by decide)) (by decide) ?_
  refine HV.val (Val.load_mid rfl (fun w hw => hw.at (i := 6) rfl) (dgA 16 (dig w1)) (w5_get3 _ _ _ _ _) Try.underlying28 rfl (sz28 _)) (by decide) ?_
  refine HV.val (Val.ixAddrQ 64 (i := 4) (m := 5) (s := 16) (e := 28) rfl rfl Try.underlying48 (by kernel_rfl) (by decide) (by decide)) (by decide) ?_
  refine HV.val (Val.load_mid rfl (fun w hw => hw.at (i := 6) rfl) (dgA 16 (dig w2)) (w5_get4 _ _ _ _ _) Try.underlying28 rfl (sz28 _)) (by decide) ?_
  refine HV.val (Val.call en32 (sub32N w1 w2 h1 h2) rfl) (by decide) ?_
  refine HV.val (Val.load_row rfl (fun w hw => hw.at (i := 4) rfl) Try.underlying28 rfl (sz28 _)) (by decide) ?_
  refine HV.val (Val.call en34 (mul34 ((subN w1 w2)) (((w3 + w4) % p25)) (sub256 _ _) (lt256 _)) rfl) (by decide) ?_
  refine HV.tail1 (New.alloc al28) (by decide) ?_
  intro b8 hb8
  refine HL.put 0 rfl (Put.row rfl rfl (sz28 _) (eqszN _ _ 16) (oneN 16 _)) (.inl hb8) ?_
  simp only [List.set_cons_zero]
  refine HL.nil ?_
  refine HQ.next ?_
  refine HC.seq ?_
  refine HC.draw1 7 (by kernel_rfl) (by kernel_rfl) rfl ?_
  simp only [List.take, List.drop]
  refine HV.val (Val.ixAddrQ 48 (i := 3) (m := 5) (s := 16) (e := 28) rfl rfl Try.underlying48 (by kernel_rfl) (by decide) (by decide)) (by decide) ?_
  refine HV.val (Val.load_mid rfl (fun w hw => hw.at (i := 7) rfl) (dgA 16 (dig w1)) (w5_get3 _ _ _ _ _) Try.underlying28 rfl (sz28 _)) (by decide) ?_
  refine HV.val (Val.ixAddrQ 64 (i := 4) (m := 5) (s := 16) (e := 28) rfl rfl Try.underlying48 (by kernel_rfl) (by decide) (by decide)) (by decide) ?_
  refine HV.val (Val.load_mid rfl (fun w hw => hw.at (i := 7) rfl) (dgA 16 (dig w2)) (w5_get4 _ _ _ _ _) Try.underlying28 rfl (sz28 _)) (by decide) ?_
  refine HV.val (Val.call en30 (add30 w1 w2 h1 h2) rfl) (by decide) ?_
  refine HV.val (Val.load_row rfl (fun w hw => hw.at (i := 4) rfl) Try.underlying28 rfl (sz28 _)) (by decide) ?_
  refine HV.val (Val.call en34 (mul34 (((w1 + w2) % p25)) ((subN w3 w4)) (lt256 _) (sub256 _ _)) rfl) (by decide) ?_
  refine HV.tail1 (New.alloc al28) (by decide) ?_
  intro b9 hb9
  refine HL.put 0 rfl (Put.row rfl rfl (sz28 _) (eqszN _ _ 16) (oneN 16 _)) (.inl hb9) ?_
  simp only [List.set_cons_zero]
  refine HL.nil ?_
  refine HQ.next ?_
  refine HC.seq ?_
  refine HC.draw2 6 (by kernel_rfl) (by kernel_rfl) rfl rfl (by kernel_rfl) ?_
  simp only [List.take, List.drop]
  refine HV.val (Val.load_row rfl (fun w hw => hw.at (i := 1) rfl) Try.underlying28 rfl (sz28 _)) (by decide) ?_
  refine HV.val (Val.load_row rfl (fun w hw => hw.at (i := 0) rfl) Try.underlying28 rfl (sz28 _)) (by decide) ?_
  refine HV.val (Val.call en30 (add30 (((((subN w1 w2)) * (((w3 + w4) % p25))) % p25)) ((((((w1 + w2) % p25)) * ((subN w3 w4))) % p25)) (lt256 _) (lt256 _)) rfl) (by decide) ?_
  refine HV.val (Val.load_row rfl (fun w hw => hw.at (i := 1) rfl) Try.underlying28 rfl (sz28 _)) (by decide) ?_
  refine HV.val (Val.load_row rfl (fun w hw => hw.at (i := 0) rfl) Try.underlying28 rfl (sz28 _)) (by decide) ?_
  refine HV.val (Val.call en32 (sub32N (((((subN w1 w2)) * (((w3 + w4) % p25))) % p25)) ((((((w1 + w2) % p25)) * ((subN w3 w4))) % p25)) (lt256 _) (lt256 _)) rfl) (by decide) ?_
  refine HV.tail2 (New.alloc al28) (New.alloc al28) (by decide) (by decide) ?_
  intro b10 b11 hb10 hb11
  refine HL.put 1 rfl (Put.row rfl rfl (sz28 _) (eqszN _ _ 16) (oneN 16 _)) (.inl hb10) ?_
  simp only [List.set_cons_zero, List.set_cons_succ]
  refine HL.put 0 rfl (Put.row rfl rfl (sz28 _) (eqszN _ _ 16) (oneN 16 _)) (.inl hb11) ?_
  simp only [List.set_cons_zero]
  refine HL.nil ?_
  refine HQ.next ?_
  refine HC.seq ?_
  refine HC.draw0 23 (by kernel_rfl) (by kernel_rfl) ?_
  simp only [List.take, List.drop]
  refine HV.val (Val.ixAddrQ 0 (i := 0) (m := 5) (s := 16) (e := 28) rfl rfl Try.underlying48 (by kernel_rfl) (by decide) (by decide)) (by decide) ?_
  refine HV.val (Val.load_mid rfl (fun w hw => hw.at (i := 10) rfl) (dgA 16 (dig w0)) (w5_get0 _ _ _ _ _) Try.underlying28 rfl (sz28 _)) (by decide) ?_
  refine HV.val (Val.call en22 (mod22 w0 h0) rfl) (by decide) ?_
  refine HV.val (Val.load_row rfl (fun w hw => hw.at (i := 6) rfl) Try.underlying28 rfl (sz28 _)) (by decide) ?_
  refine HV.val (Val.load_row rfl (fun w hw => hw.at (i := 5) rfl) Try.underlying28 rfl (sz28 _)) (by decide) ?_
  refine HV.val (Val.call en34 (mul34 ((((((w3 + w4) % p25)) * (((w3 + w4) % p25))) % p25)) (((((subN w3 w4)) * ((subN w3 w4))) % p25)) (lt256 _) (lt256 _)) rfl) (by decide) ?_
  refine HV.val (Val.load_row rfl (fun w hw => hw.at (i := 4) rfl) Try.underlying28 rfl (sz28 _)) (by decide) ?_
  refine HV.val (Val.load_row rfl (fun w hw => hw.at (i := 6) rfl) Try.underlying28 rfl (sz28 _)) (by decide) ?_
  refine HV.val (Val.call en35 (small35 121665 (by decide)) rfl) (by decide) ?_
  refine HV.val (Val.load_row rfl (fun w hw => hw.at (i := 4) rfl) Try.underlying28 rfl (sz28 _)) (by decide) ?_
  refine HV.val (Val.call en34 (mul34 121665 ((subN ((((((w3 + w4) % p25)) * (((w3 + w4) % p25))) % p25)) (((((subN w3 w4)) * ((subN w3 w4))) % p25)))) (by decide) (sub256 _ _)) rfl) (by decide) ?_
  refine HV.val (Val.call en30 (add30 ((((((w3 + w4) % p25)) * (((w3 + w4) % p25))) % p25)) (((121665 * ((subN ((((((w3 + w4) % p25)) * (((w3 + w4) % p25))) % p25)) (((((subN w3 w4)) * ((subN w3 w4))) % p25))))) % p25)) (lt256 _) (lt256 _)) rfl) (by decide) ?_
  refine HV.val (Val.call en34 (mul34 ((subN ((((((w3 + w4) % p25)) * (((w3 + w4) % p25))) % p25)) (((((subN w3 w4)) * ((subN w3 w4))) % p25)))) (((((((((w3 + w4) % p25)) * (((w3 + w4) % p25))) % p25)) + (((121665 * ((subN ((((((w3 + w4) % p25)) * (((w3 + w4) % p25))) % p25)) (((((subN w3 w4)) * ((subN w3 w4))) % p25))))) % p25))) % p25)) (sub256 _ _) (lt256 _)) rfl) (by decide) ?_
  refine HV.val (Val.load_row rfl (fun w hw => hw.at (i := 1) rfl) Try.underlying28 rfl (sz28 _)) (by decide) ?_
  refine HV.val (Val.load_row rfl (fun w hw => hw.at (i := 1) rfl) Try.underlying28 rfl (sz28 _)) (by decide) ?_
  refine HV.val (Val.call en34 (mul34 ((((((((subN w1 w2)) * (((w3 + w4) % p25))) % p25)) + ((((((w1 + w2) % p25)) * ((subN w3 w4))) % p25))) % p25)) ((((((((subN w1 w2)) * (((w3 + w4) % p25))) % p25)) + ((((((w1 + w2) % p25)) * ((subN w3 w4))) % p25))) % p25)) (lt256 _) (lt256 _)) rfl) (by decide) ?_
  refine HV.val (Val.ixAddrQ 0 (i := 0) (m := 5) (s := 16) (e := 28) rfl rfl Try.underlying48 (by kernel_rfl) (by decide) (by decide)) (by decide) ?_
  refine HV.val (Val.load_mid rfl (fun w hw => hw.at (i := 10) rfl) (dgA 16 (dig w0)) (w5_get0 _ _ _ _ _) Try.underlying28 rfl (sz28 _)) (by decide) ?_
  refine HV.val (Val.load_row rfl (fun w hw => hw.at (i := 0) rfl) Try.underlying28 rfl (sz28 _)) (by decide) ?_
  refine HV.val (Val.load_row rfl (fun w hw => hw.at (i := 0) rfl) Try.underlying28 rfl (sz28 _)) (by decide) ?_
  refine HV.val (Val.call en34 (mul34 ((subN (((((subN w1 w2)) * (((w3 + w4) % p25))) % p25)) ((((((w1 + w2) % p25)) * ((subN w3 w4))) % p25)))) ((subN (((((subN w1 w2)) * (((w3 + w4) % p25))) % p25)) ((((((w1 + w2) % p25)) * ((subN w3 w4))) % p25)))) (sub256 _ _) (sub256 _ _)) rfl) (by decide) ?_
  refine HV.val (Val.call en34 (mul34 w0 (((((subN (((((subN w1 w2)) * (((w3 + w4) % p25))) % p25)) ((((((w1 + w2) % p25)) * ((subN w3 w4))) % p25)))) * ((subN (((((subN w1 w2)) * (((w3 + w4) % p25))) % p25)) ((((((w1 + w2) % p25)) * ((subN w3 w4))) % p25))))) % p25)) h0 (lt256 _)) rfl) (by decide) ?_
  refine HV.val (Val.build rfl (built_5 ((w0 % p25)) (((((((((w3 + w4) % p25)) * (((w3 + w4) % p25))) % p25)) * (((((subN w3 w4)) * ((subN w3 w4))) % p25))) % p25)) (((((subN ((((((w3 + w4) % p25)) * (((w3 + w4) % p25))) % p25)) (((((subN w3 w4)) * ((subN w3 w4))) % p25)))) * (((((((((w3 + w4) % p25)) * (((w3 + w4) % p25))) % p25)) + (((121665 * ((subN ((((((w3 + w4) % p25)) * (((w3 + w4) % p25))) % p25)) (((((subN w3 w4)) * ((subN w3 w4))) % p25))))) % p25))) % p25))) % p25)) (((((((((((subN w1 w2)) * (((w3 + w4) % p25))) % p25)) + ((((((w1 + w2) % p25)) * ((subN w3 w4))) % p25))) % p25)) * ((((((((subN w1 w2)) * (((w3 + w4) % p25))) % p25)) + ((((((w1 + w2) % p25)) * ((subN w3 w4))) % p25))) % p25))) % p25)) (((w0 * (((((subN (((((subN w1 w2)) * (((w3 + w4) % p25))) % p25)) ((((((w1 + w2) % p25)) * ((subN w3 w4))) % p25)))) * ((subN (((((subN w1 w2)) * (((w3 + w4) % p25))) % p25)) ((((((w1 + w2) % p25)) * ((subN w3 w4))) % p25))))) % p25))) % p25)))) (by decide) ?_
  refine HV.tail0 ?_
  refine HL.put 9 rfl (Put.row rfl rfl (sz48 _) (eqszN _ _ 80) (oneN 80 _)) (.inl hb2) ?_
  simp only [List.set_cons_zero, List.set_cons_succ]
  refine HL.nil ?_
  refine HQ.next ?_
  refine HC.ret ?_
  exact HQ.retc 9 rfl rfl rfl Try.underlying48 rfl (sz48 _) (pure_end (by simp only [subN_fs]; rfl))
theorem specStep (w0 w1 w2 w3 w4 m : Nat) (h0 : w0 < 2 ^ 256) (h1 : w1 < 2 ^ 256) (h2 : w2 < 2 ^ 256) (h3 : w3 < 2 ^ 256) (h4 : w4 < 2 ^ 256) (hm : m ≤ 1) :
    Pure Try.prog 40 #[dgV 80 (w5F w0 w1 w2 w3 w4), .int .u64 (m : Nat)] (dgV 80 (w5F (w0 % p25) (dN m w1 w2 w3 w4).1 (dN m w1 w2 w3 w4).2 (aN m w0 w1 w2 w3 w4).1 (aN m w0 w1 w2 w3 w4).2)) := by
  rcases (show m = 0 ∨ m = 1 by omega) with rfl | rfl
  · exact specStep0 w0 w1 w2 w3 w4 h0 h1 h2 h3 h4
  · exact specStep1 w0 w1 w2 w3 w4 h0 h1 h2 h3 h4
end Go.Proofs.Yteehdjkmjncehaa
