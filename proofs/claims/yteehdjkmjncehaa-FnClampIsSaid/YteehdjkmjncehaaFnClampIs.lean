/-
  FnClampIs: impl.Clamp of every 32 bytes is spec.Clamped of them: the law answers true. No condition.
-/
import Derived.Test.YteehdjkmjncehaaClamp
namespace Go.Proofs.Yteehdjkmjncehaa
open Go.ChangeShapes Go.WideShapes Go.ChangeAt Go.RowKit

theorem own1 : ownKnob Try.prog.godebug = none := by kernel_rfl
theorem laidOut1 : laidOutB Try.prog = true := by kernel_rfl

set_option maxRecDepth 100000 in
set_option maxHeartbeats 800000 in
theorem fnClampIs (v : Nat) : Pure Try.prog 3 #[byV 32 v] (.bool true) := by
  intro w
  have hu := Try.underlying22
  have hl := byL_length 32 v
  have hi : (Try.prog.info? 22).map (·.size) = some (byL 32 v).length := by rw [hl]; kernel_rfl
  have hr := rangeAt_new w (byL 32 v) 22
  unfold byV
  go_enter Try.func3, Try.ntmps3
  go_wp2_with fail
  generalize hw0 : w.alloc (.cells (byA 32 v) 22) = w0 at *
  refine wp_region_steady (Since w0) (by kernel_rfl) (by kernel_rfl) (Since.drew _) ?_
  refine wpSL_load (by rfl) _ _ rfl _ _ rfl _ _ (fun w hw => hw.range hr (by subst hw0; simp)) hu rfl hi ?_
  simp only [Act.put, List.setIfInBounds_toArray, List.set_cons_zero, List.set_cons_succ]
  refine wpSL_call (by rfl) (fun w => by go_simp; with_reducible rfl) (Pure.since (clamp18 _)) ?_
  simp only [Act.put, List.setIfInBounds_toArray, List.set_cons_zero, List.set_cons_succ]
  refine wpSL_load (by rfl) _ _ rfl _ _ rfl _ _ (fun w hw => hw.range hr (by subst hw0; simp)) hu rfl hi ?_
  simp only [Act.put, List.setIfInBounds_toArray, List.set_cons_zero, List.set_cons_succ]
  refine wpSL_call (by rfl) (fun w => by go_simp; with_reducible rfl) (Pure.since (clamp19 _)) ?_
  simp only [Act.put, List.setIfInBounds_toArray, List.set_cons_zero, List.set_cons_succ]
  refine wpSL_eql (by rfl) _ _ _ _ rfl _ _ rfl rfl (by kernel_rfl) (fun w => run_eql_by hu Try.underlying5 (by kernel_rfl) (clampN_lt _) (clampN_lt _) w) ?_
  simp only [Act.put, List.setIfInBounds_toArray, List.set_cons_zero, List.set_cons_succ]
  refine wpSL_value (by rfl) (fun w hw => by go_simp; with_reducible rfl) ?_
  simp only [Act.put, List.setIfInBounds_toArray, List.set_cons_zero, List.set_cons_succ]
  refine wpSL_nil ?_
  intro w1 hw1
  go_wp2_with fail
  go_ret
  subst hw0
  exact ⟨by simp, (Below.refl _ _).alloc (Nat.le_refl _) _ |>.trans (hw1.mono (by simp))⟩

set_option maxRecDepth 100000 in
theorem fnClampIs_lifted (os : Os) (started : os.Started) (H : Type) (enc : TypeId × Value → H) :
    ReturnsInHanded {} Try.checked os 3 .any (Rows.fnClampIsSpec.pre6 enc Try.prog Try.f3 Rows.fnClampIsRow.domain false) (Rows.fnClampIsSpec.post enc Try.prog Try.f3 false true false false) := by
  refine returnsInHanded_of_change (C := Try.checked) own1 started (by kernel_rfl) Try.func3
    (ChangeSpec.witness6 (enc := enc) (C := Try.checked) false ⟨#[], #[byV 32 0], []⟩ 8 (by kernel_rfl) (by kernel_rfl) (by kernel_rfl) (by kernel_rfl)) ?_
  intro W base args ds gs before hval0 hW hcnd _
  have hval : ∀ (j : Nat) t v, Try.f3.params[j]? = some t → args[j]? = some v → Value.okWide Try.prog W .any base t v := hval0
  have hW' := hW
  obtain ⟨p, q, hA0, hV, rfl, hfz, hnd⟩ := hW
  have hA : DataW.TrodAll enc Try.prog W 0 (fun _ => true) true Try.f3.params.toList args.toList ds p := hA0
  rw [Try.params3] at hA hval
  obtain ⟨v0, d0, rfl, rfl, h0⟩ := trodAll_one hA
  obtain ⟨rfl, rfl⟩ := trodVars_none hV
  obtain ⟨x, hx, rfl, rfl⟩ := open_by Try.underlying22 Try.underlying5 (by kernel_rfl) (by kernel_rfl) (hval 0 22 v0 rfl rfl) h0
  clear hA0 hval0
  refine (fnClampIs x W).mono fun e W' ⟨he, hb⟩ => ?_
  subst he
  exact ⟨_, rfl, ⟨_, _, _, [], [], [], hW', trodAll_mk1 (shut_bool Try.underlying4 true), trodAll_mk1 (Below.trod laidOut1 (by kernel_rfl) (of_decide_eq_true (by kernel_rfl)) h0 hb (by simp)), rfl, hb.frame _, fun h => by cases h⟩⟩

theorem fnClampIs_holds : Rows.FnClampIsSaid :=
  OpenClaim.holds_of_wide 3 Try.f3 rfl rfl rfl rfl rfl rfl rfl ⟨rfl, rfl, rfl, rfl, rfl⟩ rfl rfl rfl rfl rfl (by kernel_rfl) Try.func3 (by kernel_rfl)
    (of_decide_eq_true (by kernel_rfl)) (by unfold Func.isWrapper; first | (rw [if_pos (by decide +kernel)]; kernel_rfl) | (rw [if_neg (by decide +kernel)]; exact ⟨rfl, rfl⟩))
    (fun os started H enc _ => fnClampIs_lifted os started H enc)
#print axioms fnClampIs_holds
end Go.Proofs.Yteehdjkmjncehaa
