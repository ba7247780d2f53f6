/-
  FnMulA24Is: impl.MulA24 of every element is spec.Mul of its number and 121666: the law answers true. No condition.
-/
import Derived.Test.YteehdjkmjncehaaA24b
namespace Go.Proofs.Yteehdjkmjncehaa
open Go.ChangeShapes Go.WideShapes Go.ChangeAt Go.RowKit

theorem own1 : ownKnob Try.prog.godebug = none := by kernel_rfl
theorem laidOut1 : laidOutB Try.prog = true := by kernel_rfl

set_option maxRecDepth 100000 in
set_option maxHeartbeats 1600000 in
theorem fnMulA24Is (x : Nat) (hx : x < 2 ^ 256) : Pure Try.prog 9 #[byV 32 x] (.bool true) := by
  intro w
  have hu := Try.underlying22
  have hi : ∀ f, (Try.prog.info? 22).map (·.size) = some (byL 32 f).length := by intro f; rw [byL_length]; kernel_rfl
  unfold byV
  go_enter Try.func9, Try.ntmps9
  go_wp2_with fail
  obtain ⟨w0, hw0⟩ : ∃ w0, w0 = (w.alloc (Obj.cells (byA 32 x) 22)) := ⟨_, rfl⟩
  have hx0 : w0.rangeAt (w.heap.size) 0 (byL 32 x) := by subst hw0; exact ByAt.range (f := byt x) (heap_alloc_new w _)
  have hL : Below w.heap.size w w0 := by subst hw0; exact (Below.refl _ _).alloc (Nat.le_refl _) _
  have hsz : w0.heap.size = w.heap.size + 1 := by subst hw0; simp
  rw [← hw0]
  clear hw0
  refine wp_region_steady (Since w0) (by kernel_rfl) (by kernel_rfl) (Since.drew _) ?_
  refine wpSL_load (by rfl) _ _ rfl _ _ rfl _ _ (fun w hw => hw.range hx0 (by omega)) hu rfl (hi _) ?_
  simp only [Act.put, List.setIfInBounds_toArray, List.set_cons_zero, List.set_cons_succ]
  refine wpSL_call (by rfl) (fun w => by go_simp) (Pure.since (implMulA24 x hx)) ?_
  simp only [Act.put, List.setIfInBounds_toArray, List.set_cons_zero, List.set_cons_succ]
  refine wpSL_load (by rfl) _ _ rfl _ _ rfl _ _ (fun w hw => hw.range hx0 (by omega)) hu rfl (hi _) ?_
  simp only [Act.put, List.setIfInBounds_toArray, List.set_cons_zero, List.set_cons_succ]
  refine wpSL_call (by rfl) (fun w => by go_simp) (Pure.since (of23 x)) ?_
  simp only [Act.put, List.setIfInBounds_toArray, List.set_cons_zero, List.set_cons_succ]
  refine wpSL_call (by rfl) (fun w => by go_simp) (Pure.since (small35 121666 (by decide))) ?_
  simp only [Act.put, List.setIfInBounds_toArray, List.set_cons_zero, List.set_cons_succ]
  refine wpSL_call (by rfl) (fun w => by go_simp) (Pure.since (mul34 x 121666 hx (by decide))) ?_
  simp only [Act.put, List.setIfInBounds_toArray, List.set_cons_zero, List.set_cons_succ]
  refine wpSL_call (by rfl) (fun w => by go_simp) (Pure.since (is20 (x * 121666 % p25) (x * 121666 % p25) (Nat.lt_of_lt_of_le (Nat.mod_lt _ (by decide +kernel)) (Nat.le_of_lt p25_256)) (Nat.lt_of_lt_of_le (Nat.mod_lt _ (by decide +kernel)) (Nat.le_of_lt p25_256)))) ?_
  simp only [Act.put, List.setIfInBounds_toArray, List.set_cons_zero, List.set_cons_succ]
  refine wpSL_value (by rfl) (fun w hw => by go_simp; with_reducible rfl) ?_
  simp only [Act.put, List.setIfInBounds_toArray, List.set_cons_zero, List.set_cons_succ]
  refine wpSL_nil ?_
  intro w1 hw1
  have HL := Lib.hid (hL.trans (hw1.mono (by omega)))
  clear hw1 hL hsz hx0
  go_wp2_with fail
  go_ret
  exact ⟨by simp, HL.out⟩

set_option maxRecDepth 100000 in
theorem fnMulA24Is_lifted (os : Os) (started : os.Started) (H : Type) (enc : TypeId × Value → H) :
    ReturnsInHanded {} Try.checked os 9 .any (Rows.fnMulA24IsSpec.pre6 enc Try.prog Try.f9 Rows.fnMulA24IsRow.domain false) (Rows.fnMulA24IsSpec.post enc Try.prog Try.f9 false true false false) := by
  refine returnsInHanded_of_change (C := Try.checked) own1 started (by kernel_rfl) Try.func9
    (ChangeSpec.witness6 (enc := enc) (C := Try.checked) false ⟨#[], #[byV 32 0], []⟩ 8 (by kernel_rfl) (by kernel_rfl) (by kernel_rfl) (by kernel_rfl)) ?_
  intro W base args ds gs before hval0 hW hcnd _
  have hval : ∀ (j : Nat) t v, Try.f9.params[j]? = some t → args[j]? = some v → Value.okWide Try.prog W .any base t v := hval0
  have hW' := hW
  obtain ⟨p, q, hA0, hV, rfl, hfz, hnd⟩ := hW
  have hA : DataW.TrodAll enc Try.prog W 0 (fun _ => true) true Try.f9.params.toList args.toList ds p := hA0
  rw [Try.params9] at hA hval
  obtain ⟨v0, d0, rfl, rfl, h0⟩ := trodAll_one hA
  obtain ⟨rfl, rfl⟩ := trodVars_none hV
  obtain ⟨x, hx, rfl, rfl⟩ := open_by Try.underlying22 Try.underlying5 (by kernel_rfl) (by kernel_rfl) (hval 0 22 v0 rfl rfl) h0
  clear hA0 hval0
  refine (fnMulA24Is x hx W).mono fun e W' ⟨he, hb⟩ => ?_
  subst he
  exact ⟨_, rfl, ⟨_, _, _, [], [], [], hW', trodAll_mk1 (shut_bool Try.underlying4 true), trodAll_mk1 (Below.trod laidOut1 (by kernel_rfl) (of_decide_eq_true (by kernel_rfl)) h0 hb (by simp)), rfl, hb.frame _, fun h => by cases h⟩⟩

theorem fnMulA24Is_holds : Rows.FnMulA24IsSaid :=
  OpenClaim.holds_of_wide 9 Try.f9 rfl rfl rfl rfl rfl rfl rfl ⟨rfl, rfl, rfl, rfl, rfl⟩ rfl rfl rfl rfl rfl (by kernel_rfl) Try.func9 (by kernel_rfl)
    (of_decide_eq_true (by kernel_rfl)) (by unfold Func.isWrapper; first | (rw [if_pos (by decide +kernel)]; kernel_rfl) | (rw [if_neg (by decide +kernel)]; exact ⟨rfl, rfl⟩))
    (fun os started H enc _ => fnMulA24Is_lifted os started H enc)
#print axioms fnMulA24Is_holds
end Go.Proofs.Yteehdjkmjncehaa
