/-
  FnInv: an element that is not 0 times impl.Inv of it is 1, and the inverse's inverse is the element: the law answers true. No condition.
-/
import Derived.Test.YteehdjkmjncehaaInv2
import Derived.Test.YteehdjkmjncehaaMPrimes
namespace Go.Proofs.Yteehdjkmjncehaa
open Go.ChangeShapes Go.WideShapes Go.ChangeAt Go.RowKit

theorem own1 : ownKnob Try.prog.godebug = none := by kernel_rfl
theorem laidOut1 : laidOutB Try.prog = true := by kernel_rfl

theorem p25_pr : Num.Pr p25 := Num.pr_57896044618658097711785492504343953926634992332820282019728792003956564819949
theorem mul_inv {x : Nat} (h : ¬ x % p25 = 0) : (x * invN x) % p25 = 1 := by
  have hf := Num.fermat p25_pr h
  unfold invN
  rw [Nat.mul_mod_mod, ← Nat.pow_succ', show (p25 - 2).succ = p25 - 1 by decide +kernel]
  exact hf
theorem inv_inv {x : Nat} (h : ¬ x % p25 = 0) : invN (invN x) = x % p25 := by
  have h1 := mul_inv h
  have h2 : ¬ invN x % p25 = 0 := fun e => by
    rw [Nat.mul_mod, e, Nat.mul_zero] at h1
    exact absurd h1 (by decide)
  have h3 := mul_inv h2
  have e1 : invN (invN x) = invN (invN x) % p25 := by unfold invN; rw [Nat.mod_mod]
  have e2 : (x * invN x) * invN (invN x) % p25 = invN (invN x) % p25 := by rw [Nat.mul_mod, h1, Nat.one_mul, Nat.mod_mod]
  have e3 : (x * invN x) * invN (invN x) % p25 = x % p25 := by rw [Nat.mul_assoc, Nat.mul_mod, h3, Nat.mul_one, Nat.mod_mod]
  rw [e1, ← e2, e3]
set_option maxRecDepth 100000 in
theorem fnInv (x : Nat) (hx : x < 2 ^ 256) : Pure Try.prog 14 #[byV 32 x] (.bool true) := by
  intro w
  refine calls_H (args := [byV 32 x]) noD [] Try.func14 rfl (m := 23) rfl rfl (hold_nil _ _) ?_
  refine HC.seq ?_
  refine HC.region ?_
  refine HL.new (New.box rfl) (by decide) ?_
  intro b1 hb1
  refine HL.val (Val.assign rfl) (by decide) ?_
  refine HL.nil ?_
  refine HQ.next ?_
  refine HC.seq ?_
  refine HC.seq ?_
  refine HC.region ?_
  refine HL.val (Val.load_row rfl (fun w hw => hw.at (i := 0) rfl) Try.underlying22 rfl (sz22 _)) (by decide) ?_
  refine HL.val (Val.call en23 (of23 x) rfl) (by decide) ?_
  refine HL.val (Val.call en22 (mod22 x hx) rfl) (by decide) ?_
  refine HL.val (Val.build rfl bz28) (by decide) ?_
  by_cases h0 : x % p25 = 0
  · refine HL.val ((Val.eqlA rfl rfl (by kernel_rfl) (eqlN (x % p25) 0 (lt256 _) (by decide))).as (congrArg Value.bool (decide_eq_true h0))) (by decide) ?_
    refine HL.nil ?_
    refine HQ.next ?_
    refine HC.yes rfl ?_
    refine HC.seq ?_
    refine HC.region ?_
    refine HL.val (Val.assign rfl) (by decide) ?_
    refine HL.nil ?_
    refine HQ.next ?_
    refine HC.ret ?_
    refine HQ.thenRet ?_
    exact HQ.ret1 rfl rfl (pure_end rfl)
  · refine HL.val ((Val.eqlA rfl rfl (by kernel_rfl) (eqlN (x % p25) 0 (lt256 _) (by decide))).as (congrArg Value.bool (decide_eq_false h0))) (by decide) ?_
    refine HL.nil ?_
    refine HQ.next ?_
    refine HC.no rfl ?_
    refine HC.skip ?_
    refine HQ.next ?_
    refine HC.seq ?_
    refine HC.region ?_
    refine HL.val (Val.load_row rfl (fun w hw => hw.at (i := 0) rfl) Try.underlying22 rfl (sz22 _)) (by decide) ?_
    refine HL.val (Val.call en39 (implInv x hx) rfl) (by decide) ?_
    refine HL.new (New.alloc al22) (by decide) ?_
    intro b2 hb2
    refine HL.put 0 rfl (Put.row rfl rfl (sz22 _) (eqsz32 _ _) (one32 _)) (.inl hb2) ?_
    simp only [List.set_cons_zero]
    refine HL.nil ?_
    refine HQ.next ?_
    refine HC.seq ?_
    refine HC.draw0 12 (by kernel_rfl) (by kernel_rfl) ?_
    simp only [List.take, List.drop]
    refine HV.val (Val.load_row rfl (fun w hw => hw.at (i := 1) rfl) Try.underlying22 rfl (sz22 _)) (by decide) ?_
    refine HV.val (Val.load_row rfl (fun w hw => hw.at (i := 0) rfl) Try.underlying22 rfl (sz22 _)) (by decide) ?_
    refine HV.val (Val.call en38 (implMul x ((invN x)) hx (invN_lt _)) rfl) (by decide) ?_
    refine HV.val (Val.call en28 (one28) rfl) (by decide) ?_
    refine HV.val ((Val.eqlA rfl rfl (by kernel_rfl) (eql22 ((x * invN x) % p25) 1 (lt_256_32 (lt256 _)) (by decide))).as (congrArg Value.bool (decide_eq_true (mul_inv h0)))) (by decide) ?_
    refine HV.val (Val.move rfl) (by decide) ?_
    refine HV.valg rfl (Val.load_row rfl (fun w hw => hw.at (i := 0) rfl) Try.underlying22 rfl (sz22 _)) (by decide) ?_
    refine HV.valg rfl (Val.call en39 (implInv ((invN x)) (invN_lt _)) rfl) (by decide) ?_
    refine HV.valg rfl (Val.load_row rfl (fun w hw => hw.at (i := 1) rfl) Try.underlying22 rfl (sz22 _)) (by decide) ?_
    refine HV.valg rfl (Val.call en21 (implModp x hx) rfl) (by decide) ?_
    refine HV.valg rfl ((Val.eqlA rfl rfl (by kernel_rfl) (eql22 (invN (invN x)) (x % p25) (lt_256_32 (invN_lt _)) (lt_256_32 (lt256 _)))).as (congrArg Value.bool (decide_eq_true (inv_inv h0)))) (by decide) ?_
    refine HV.val (Val.pickT rfl rfl) (by decide) ?_
    refine HV.tail0 ?_
    refine HL.val (Val.assign rfl) (by decide) ?_
    refine HL.nil ?_
    refine HQ.next ?_
    refine HC.ret ?_
    exact HQ.ret1 rfl rfl (pure_end rfl)
set_option maxRecDepth 100000 in
theorem fnInv_lifted (os : Os) (started : os.Started) (H : Type) (enc : TypeId × Value → H) :
    ReturnsInHanded {} Try.checked os 14 .any (Rows.fnInvSpec.pre6 enc Try.prog Try.f14 Rows.fnInvRow.domain false) (Rows.fnInvSpec.post enc Try.prog Try.f14 false true false false) := by
  refine returnsInHanded_of_change (C := Try.checked) own1 started (by kernel_rfl) Try.func14
    (ChangeSpec.witness6 (enc := enc) (C := Try.checked) false ⟨#[], #[byV 32 0], []⟩ 8 (by kernel_rfl) (by kernel_rfl) (by kernel_rfl) (by kernel_rfl)) ?_
  intro W base args ds gs before hval0 hW hcnd _
  have hval : ∀ (j : Nat) t v, Try.f14.params[j]? = some t → args[j]? = some v → Value.okWide Try.prog W .any base t v := hval0
  have hW' := hW
  obtain ⟨p, q, hA0, hV, rfl, hfz, hnd⟩ := hW
  have hA : DataW.TrodAll enc Try.prog W 0 (fun _ => true) true Try.f14.params.toList args.toList ds p := hA0
  rw [Try.params14] at hA hval
  obtain ⟨v0, d0, rfl, rfl, h0⟩ := trodAll_one hA
  obtain ⟨rfl, rfl⟩ := trodVars_none hV
  obtain ⟨x, hx, rfl, rfl⟩ := open_by Try.underlying22 Try.underlying5 (by kernel_rfl) (by kernel_rfl) (hval 0 22 v0 rfl rfl) h0
  clear hA0 hval0
  refine (fnInv x hx W).mono fun e W' ⟨he, hb⟩ => ?_
  subst he
  exact ⟨_, rfl, ⟨_, _, _, [], [], [], hW', trodAll_mk1 (shut_bool Try.underlying4 true), trodAll_mk1 (Below.trod laidOut1 (by kernel_rfl) (of_decide_eq_true (by kernel_rfl)) h0 hb (by simp)), rfl, hb.frame _, fun h => by cases h⟩⟩

theorem fnInv_holds : Rows.FnInvSaid :=
  OpenClaim.holds_of_wide 14 Try.f14 rfl rfl rfl rfl rfl rfl rfl ⟨rfl, rfl, rfl, rfl, rfl⟩ rfl rfl rfl rfl rfl (by kernel_rfl) Try.func14 (by kernel_rfl)
    (of_decide_eq_true (by kernel_rfl)) (by unfold Func.isWrapper; first | (rw [if_pos (by decide +kernel)]; kernel_rfl) | (rw [if_neg (by decide +kernel)]; exact ⟨rfl, rfl⟩))
    (fun os started H enc _ => fnInv_lifted os started H enc)
#print axioms fnInv_holds
end Go.Proofs.Yteehdjkmjncehaa
