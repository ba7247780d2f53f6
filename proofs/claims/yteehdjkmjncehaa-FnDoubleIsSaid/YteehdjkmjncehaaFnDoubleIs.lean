/-
  FnDoubleIs: impl.Double of every two elements is the doubled point of spec.Step: the law answers true. No condition.
-/
import Derived.Test.YteehdjkmjncehaaHE2
import Derived.Test.YteehdjkmjncehaaDbl2
namespace Go.Proofs.Yteehdjkmjncehaa
open Go.ChangeShapes Go.WideShapes Go.ChangeAt Go.RowKit

theorem own1 : ownKnob Try.prog.godebug = none := by kernel_rfl
theorem laidOut1 : laidOutB Try.prog = true := by kernel_rfl

set_option maxRecDepth 100000 in
theorem fnDoubleIs (x z : Nat) (hx : x < 2 ^ 256) (hz : z < 2 ^ 256) : Pure Try.prog 15 #[byV 32 x, byV 32 z] (.bool true) := by
  intro w
  refine calls_H (args := [byV 32 x, byV 32 z]) noD [] Try.func15 rfl (m := 31) rfl rfl (hold_nil _ _) ?_
  refine HC.seq ?_
  refine HC.region ?_
  refine HL.new (New.box rfl) (by decide) ?_
  intro b1 hb1
  refine HL.new (New.box rfl) (by decide) ?_
  intro b2 hb2
  refine HL.val (Val.assign rfl) (by decide) ?_
  refine HL.nil ?_
  refine HQ.next ?_
  refine HC.seq ?_
  refine HC.draw1 7 (by kernel_rfl) (by kernel_rfl) rfl ?_
  simp only [List.take, List.drop]
  refine HV.val (Val.build rfl bz28) (by decide) ?_
  refine HV.val (Val.load_row rfl (fun w hw => hw.at (i := 1) rfl) Try.underlying22 rfl (sz22 _)) (by decide) ?_
  refine HV.val (Val.call en23 (of23 x) rfl) (by decide) ?_
  refine HV.val (Val.load_row rfl (fun w hw => hw.at (i := 0) rfl) Try.underlying22 rfl (sz22 _)) (by decide) ?_
  refine HV.val (Val.call en23 (of23 z) rfl) (by decide) ?_
  refine HV.val (Val.build rfl (bn3 0 x z)) (by decide) ?_
  refine HV.val (Val.call en40 (step40_0 0 x z 0 0 (by decide) hx hz (by decide) (by decide)) rfl) (by decide) ?_
  refine HV.tail1 (New.alloc al48) (by decide) ?_
  intro b3 hb3
  refine HL.put 0 rfl (Put.row rfl rfl (sz48 _) (eqszN _ _ 80) (oneN 80 _)) (.inl hb3) ?_
  simp only [List.set_cons_zero, List.set_cons_succ]
  refine HL.nil ?_
  refine HQ.next ?_
  refine HC.seq ?_
  refine HC.region ?_
  refine HL.val (Val.load_row rfl (fun w hw => hw.at (i := 2) rfl) Try.underlying22 rfl (sz22 _)) (by decide) ?_
  refine HL.val (Val.load_row rfl (fun w hw => hw.at (i := 1) rfl) Try.underlying22 rfl (sz22 _)) (by decide) ?_
  refine HL.val (Val.call en41 (implDouble x z hx hz) rfl) (by decide) ?_
  refine HL.val (Val.move rfl) (by decide) ?_
  refine HL.val (Val.extract rfl rfl) (by decide) ?_
  refine HL.val (Val.extract rfl rfl) (by decide) ?_
  refine HL.new (New.alloc al22) (by decide) ?_
  intro b4 hb4
  refine HL.new (New.alloc al22) (by decide) ?_
  intro b5 hb5
  refine HL.put 1 rfl (Put.row rfl rfl (sz22 _) (eqsz32 _ _) (one32 _)) (.inl hb4) ?_
  simp only [List.set_cons_zero, List.set_cons_succ]
  refine HL.put 0 rfl (Put.row rfl rfl (sz22 _) (eqsz32 _ _) (one32 _)) (.inl hb5) ?_
  simp only [List.set_cons_zero, List.set_cons_succ]
  refine HL.nil ?_
  refine HQ.next ?_
  refine HC.seq ?_
  refine HC.region ?_
  refine HL.val (Val.load_row rfl (fun w hw => hw.at (i := 1) rfl) Try.underlying22 rfl (sz22 _)) (by decide) ?_
  refine HL.val (Val.ixAddr (i := 1) (m := 5) (s := 16) (e := 28) rfl rfl Try.underlying48 (by kernel_rfl) (by decide)) (by decide) ?_
  refine HL.val (Val.load_mid rfl (fun w hw => hw.at (i := 2) rfl) (dgA 16 (dig ((st1 x z)))) (w5_get1 _ _ _ _ _) Try.underlying28 rfl (sz28 _)) (by decide) ?_
  refine HL.val (Val.call en20 (is20T ((st1 x z)) (lt_256_32 (lt256 _))) rfl) (by decide) ?_
  refine HL.val (Val.move rfl) (by decide) ?_
  refine HL.valg rfl (Val.load_row rfl (fun w hw => hw.at (i := 0) rfl) Try.underlying22 rfl (sz22 _)) (by decide) ?_
  refine HL.valg rfl (Val.ixAddr (i := 2) (m := 5) (s := 16) (e := 28) rfl rfl Try.underlying48 (by kernel_rfl) (by decide)) (by decide) ?_
  refine HL.valg rfl (Val.load_mid rfl (fun w hw => hw.at (i := 2) rfl) (dgA 16 (dig ((st2 x z)))) (w5_get2 _ _ _ _ _) Try.underlying28 rfl (sz28 _)) (by decide) ?_
  refine HL.valg rfl (Val.call en20 (is20T ((st2 x z)) (lt_256_32 (lt256 _))) rfl) (by decide) ?_
  refine HL.val (Val.pickT rfl rfl) (by decide) ?_
  refine HL.val (Val.assign rfl) (by decide) ?_
  refine HL.nil ?_
  refine HQ.next ?_
  refine HC.ret ?_
  exact HQ.ret1 rfl rfl (pure_end rfl)
set_option maxRecDepth 100000 in
theorem fnDoubleIs_lifted (os : Os) (started : os.Started) (H : Type) (enc : TypeId × Value → H) :
    ReturnsInHanded {} Try.checked os 15 .any (Rows.fnDoubleIsSpec.pre6 enc Try.prog Try.f15 Rows.fnDoubleIsRow.domain false) (Rows.fnDoubleIsSpec.post enc Try.prog Try.f15 false true false false) := by
  refine returnsInHanded_of_change (C := Try.checked) own1 started (by kernel_rfl) Try.func15
    (ChangeSpec.witness6 (enc := enc) (C := Try.checked) false ⟨#[], #[byV 32 0, byV 32 0], []⟩ 8 (by kernel_rfl) (by kernel_rfl) (by kernel_rfl) (by kernel_rfl)) ?_
  intro W base args ds gs before hval0 hW hcnd _
  have hval : ∀ (j : Nat) t v, Try.f15.params[j]? = some t → args[j]? = some v → Value.okWide Try.prog W .any base t v := hval0
  have hW' := hW
  obtain ⟨p, q, hA0, hV, rfl, hfz, hnd⟩ := hW
  have hA : DataW.TrodAll enc Try.prog W 0 (fun _ => true) true Try.f15.params.toList args.toList ds p := hA0
  rw [Try.params15] at hA hval
  obtain ⟨v0, v1, d0, d1, p0, p1, rfl, rfl, rfl, h0, h1⟩ := trodAll_two hA
  obtain ⟨rfl, rfl⟩ := trodVars_none hV
  obtain ⟨x, hx, rfl, rfl⟩ := open_by Try.underlying22 Try.underlying5 (by kernel_rfl) (by kernel_rfl) (hval 0 22 v0 rfl rfl) h0
  obtain ⟨z, hz, rfl, rfl⟩ := open_by Try.underlying22 Try.underlying5 (by kernel_rfl) (by kernel_rfl) (hval 1 22 v1 rfl rfl) h1
  clear hA0 hval0
  refine (fnDoubleIs x z hx hz W).mono fun e W' ⟨he, hb⟩ => ?_
  subst he
  exact ⟨_, rfl, ⟨_, _, _, [], [], [], hW', trodAll_mk1 (shut_bool Try.underlying4 true), trodAll_mk2 (Below.trod laidOut1 (by kernel_rfl) (of_decide_eq_true (by kernel_rfl)) h0 hb (by simp)) (Below.trod laidOut1 (by kernel_rfl) (of_decide_eq_true (by kernel_rfl)) h1 hb (by simp)), rfl, hb.frame _, fun h => by cases h⟩⟩

theorem fnDoubleIs_holds : Rows.FnDoubleIsSaid :=
  OpenClaim.holds_of_wide 15 Try.f15 rfl rfl rfl rfl rfl rfl rfl ⟨rfl, rfl, rfl, rfl, rfl⟩ rfl rfl rfl rfl rfl (by kernel_rfl) Try.func15 (by kernel_rfl)
    (of_decide_eq_true (by kernel_rfl)) (by unfold Func.isWrapper; first | (rw [if_pos (by decide +kernel)]; kernel_rfl) | (rw [if_neg (by decide +kernel)]; exact ⟨rfl, rfl⟩))
    (fun os started H enc _ => fnDoubleIs_lifted os started H enc)
#print axioms fnDoubleIs_holds
end Go.Proofs.Yteehdjkmjncehaa
