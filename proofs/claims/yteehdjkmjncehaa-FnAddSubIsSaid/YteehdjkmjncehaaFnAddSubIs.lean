/-
  FnAddSubIs: impl.AddSub of every two elements is spec.Add and spec.Sub of their numbers: the law answers true. No condition.
-/
import Derived.Test.YteehdjkmjncehaaAddSub3
namespace Go.Proofs.Yteehdjkmjncehaa
open Go.ChangeShapes Go.WideShapes Go.ChangeAt Go.RowKit

theorem own1 : ownKnob Try.prog.godebug = none := by kernel_rfl
theorem laidOut1 : laidOutB Try.prog = true := by kernel_rfl

set_option maxRecDepth 100000 in
set_option maxHeartbeats 1600000 in
theorem fnAddSubIs (x y : Nat) (hx : x < 2 ^ 256) (hy : y < 2 ^ 256) : Pure Try.prog 10 #[byV 32 x, byV 32 y] (.bool true) := by
  intro w
  have hu := Try.underlying22
  have hi : ∀ f, (Try.prog.info? 22).map (·.size) = some (byL 32 f).length := by intro f; rw [byL_length]; kernel_rfl
  have hi' : ∀ f, (Try.prog.info? 22).map (·.size) = some (byA 32 f).size := by intro f; rw [byA_size]; kernel_rfl
  unfold byV
  go_enter Try.func10, Try.ntmps10
  go_wp2_with (first
    | (refine wpList_load_row (o := ⟨some 8, _, _, _, _, _⟩) rfl 22 _ rfl _ rfl _ _ _ _ (heap_alloc2_old w _ _) hu rfl (hi' _) ?_)
    | (refine wpList_load_row (o := ⟨some 9, _, _, _, _, _⟩) rfl 22 _ rfl _ rfl _ _ _ _ (heap_alloc2_new w _ _) hu rfl (hi' _) ?_)
    | (go_at_call 36; refine (implAddSub x y hx hy _).mono ?_; rintro e w1 ⟨rfl, hb1⟩; have HB1 := Lib.hid hb1; clear hb1)
    | (refine wpList_store_row (o := ⟨none, .store 22 (.tmp 5) (.tmp 11), _, _, _, _⟩) rfl 22 _ _ rfl w1.heap.size (byA 32 ((x + y) % p25)) rfl rfl 22 (bfA 32 (fun _ => 0)) (heap_alloc2_old w1 _ _) (hi' _) rfl (all_oneCell_toArray (byL_one _ _)) ?_)
    | (refine wpList_store_row (o := ⟨none, .store 22 (.tmp 6) (.tmp 12), _, _, _, _⟩) rfl 22 _ _ rfl (w1.heap.size + 1) (byA 32 (subN x y)) rfl rfl 22 (bfA 32 (fun _ => 0)) (by rw [setRow_other _ _ _ _ (by omega)]; exact heap_alloc2_new w1 _ _) (hi' _) rfl (all_oneCell_toArray (byL_one _ _)) ?_))
  have hw1s : w.heap.size + 2 ≤ w1.heap.size := by have := HB1.out.size; simpa using this
  have hB1 := HB1.out
  clear HB1
  generalize hw0 : World.setRow (World.setRow _ _ _) _ _ = w0
  have ha0 : w0.rangeAt w1.heap.size 0 (byL 32 ((x + y) % p25)) := by
    subst hw0; refine ByAt.range (n := 32) (T := 22) (f := byt ((x + y) % p25)) ?_
    unfold ByAt
    rw [setRow_other _ _ _ _ (by omega)]; exact setRow_heap _ _ _ _ _ _ (heap_alloc2_old w1 _ _)
  have hb0 : w0.rangeAt (w1.heap.size + 1) 0 (byL 32 (subN x y)) := by
    subst hw0; refine ByAt.range (n := 32) (T := 22) (f := byt (subN x y)) ?_
    exact setRow_heap _ _ (bfA 32 (fun _ => 0)) _ _ _ (by rw [setRow_other _ _ _ _ (by omega)]; exact heap_alloc2_new w1 _ _)
  have hBB : Below w1.heap.size w1 w0 := by
    subst hw0
    exact ((below2 w1 _ _).trans ((only_setRow _ _ _).below (by omega) (by simp; omega))).trans ((only_setRow _ _ _).below (by omega) (by simp; omega))
  have hsz : w1.heap.size + 1 < w0.heap.size := by subst hw0; simp
  have hx1 : w1.rangeAt w.heap.size 0 (byL 32 x) := ByAt.range (n := 32) (T := 22) (f := byt x) ((hB1.block _ (by simp; omega)).trans (heap_alloc2_old w _ _))
  have hy1 : w1.rangeAt (w.heap.size + 1) 0 (byL 32 y) := ByAt.range (n := 32) (T := 22) (f := byt y) ((hB1.block _ (by simp)).trans (heap_alloc2_new w _ _))
  have hx0 := Since.range (hBB.mono (Nat.le_refl _)) hx1 (by omega)
  have hy0 := Since.range (hBB.mono (Nat.le_refl _)) hy1 (by omega)
  have hL : Below w.heap.size w w0 := ((below2 w _ _).trans (hB1.mono (by simp; omega))).trans (hBB.mono (by omega))
  clear hw0 hBB hx1 hy1 hB1
  refine wp_region_steady (Since w0) (by kernel_rfl) (by kernel_rfl) (Since.drew _) ?_
  refine wpSL_load (by rfl) _ _ rfl _ _ rfl _ _ (fun w hw => hw.range ha0 (by have := hsz; omega)) hu rfl (hi _) ?_
  simp only [Act.put, List.setIfInBounds_toArray, List.set_cons_zero, List.set_cons_succ]
  refine wpSL_load (by rfl) _ _ rfl _ _ rfl _ _ (fun w hw => hw.range hx0 (by have := hsz; omega)) hu rfl (hi _) ?_
  simp only [Act.put, List.setIfInBounds_toArray, List.set_cons_zero, List.set_cons_succ]
  refine wpSL_call (by rfl) (fun w => by go_simp) (Pure.since (of23 x)) ?_
  simp only [Act.put, List.setIfInBounds_toArray, List.set_cons_zero, List.set_cons_succ]
  refine wpSL_load (by rfl) _ _ rfl _ _ rfl _ _ (fun w hw => hw.range hy0 (by have := hsz; omega)) hu rfl (hi _) ?_
  simp only [Act.put, List.setIfInBounds_toArray, List.set_cons_zero, List.set_cons_succ]
  refine wpSL_call (by rfl) (fun w => by go_simp) (Pure.since (of23 y)) ?_
  simp only [Act.put, List.setIfInBounds_toArray, List.set_cons_zero, List.set_cons_succ]
  refine wpSL_call (by rfl) (fun w => by go_simp) (Pure.since (add30 x y hx hy)) ?_
  simp only [Act.put, List.setIfInBounds_toArray, List.set_cons_zero, List.set_cons_succ]
  refine wpSL_call (by rfl) (fun w => by go_simp) (Pure.since (is20T ((x + y) % p25) (Nat.lt_of_lt_of_le (Nat.mod_lt _ (by decide +kernel)) (Nat.le_of_lt p25_256)))) ?_
  simp only [Act.put, List.setIfInBounds_toArray, List.set_cons_zero, List.set_cons_succ]
  refine wpSL_value (v := .bool true) (by rfl) (fun w hw => by go_simp; try with_reducible rfl) ?_
  simp only [Act.put, List.setIfInBounds_toArray, List.set_cons_zero, List.set_cons_succ]
  refine wpSL_load (by rfl) _ _ rfl _ _ rfl _ _ (fun w hw => hw.range hb0 (by have := hsz; omega)) hu rfl (hi _) ?_
  simp only [Act.put, List.setIfInBounds_toArray, List.set_cons_zero, List.set_cons_succ]
  refine wpSL_load (by rfl) _ _ rfl _ _ rfl _ _ (fun w hw => hw.range hx0 (by have := hsz; omega)) hu rfl (hi _) ?_
  simp only [Act.put, List.setIfInBounds_toArray, List.set_cons_zero, List.set_cons_succ]
  refine wpSL_call (by rfl) (fun w => by go_simp) (Pure.since (of23 x)) ?_
  simp only [Act.put, List.setIfInBounds_toArray, List.set_cons_zero, List.set_cons_succ]
  refine wpSL_load (by rfl) _ _ rfl _ _ rfl _ _ (fun w hw => hw.range hy0 (by have := hsz; omega)) hu rfl (hi _) ?_
  simp only [Act.put, List.setIfInBounds_toArray, List.set_cons_zero, List.set_cons_succ]
  refine wpSL_call (by rfl) (fun w => by go_simp) (Pure.since (of23 y)) ?_
  simp only [Act.put, List.setIfInBounds_toArray, List.set_cons_zero, List.set_cons_succ]
  refine wpSL_call (by rfl) (fun w => by go_simp) (Pure.since (sub32N x y hx hy)) ?_
  simp only [Act.put, List.setIfInBounds_toArray, List.set_cons_zero, List.set_cons_succ]
  refine wpSL_call (by rfl) (fun w => by go_simp) (Pure.since (is20T (subN x y) (Nat.lt_of_lt_of_le (subN_lt _ _) (Nat.le_of_lt p25_256)))) ?_
  simp only [Act.put, List.setIfInBounds_toArray, List.set_cons_zero, List.set_cons_succ]
  refine wpSL_value (v := .bool true) (by rfl) (fun w hw => by go_simp; try with_reducible rfl) ?_
  simp only [Act.put, List.setIfInBounds_toArray, List.set_cons_zero, List.set_cons_succ]
  refine wpSL_value (by rfl) (fun w hw => by go_simp; with_reducible rfl) ?_
  simp only [Act.put, List.setIfInBounds_toArray, List.set_cons_zero, List.set_cons_succ]
  refine wpSL_nil ?_
  intro w1 hw1
  have HL := Lib.hid (hL.trans (hw1.mono (by omega)))
  clear hw1 hL hsz hx0 hy0 ha0 hb0
  go_wp2_with fail
  go_ret
  exact ⟨by simp, HL.out⟩

set_option maxRecDepth 100000 in
theorem fnAddSubIs_lifted (os : Os) (started : os.Started) (H : Type) (enc : TypeId × Value → H) :
    ReturnsInHanded {} Try.checked os 10 .any (Rows.fnAddSubIsSpec.pre6 enc Try.prog Try.f10 Rows.fnAddSubIsRow.domain false) (Rows.fnAddSubIsSpec.post enc Try.prog Try.f10 false true false false) := by
  refine returnsInHanded_of_change (C := Try.checked) own1 started (by kernel_rfl) Try.func10
    (ChangeSpec.witness6 (enc := enc) (C := Try.checked) false ⟨#[], #[byV 32 0, byV 32 0], []⟩ 8 (by kernel_rfl) (by kernel_rfl) (by kernel_rfl) (by kernel_rfl)) ?_
  intro W base args ds gs before hval0 hW hcnd _
  have hval : ∀ (j : Nat) t v, Try.f10.params[j]? = some t → args[j]? = some v → Value.okWide Try.prog W .any base t v := hval0
  have hW' := hW
  obtain ⟨p, q, hA0, hV, rfl, hfz, hnd⟩ := hW
  have hA : DataW.TrodAll enc Try.prog W 0 (fun _ => true) true Try.f10.params.toList args.toList ds p := hA0
  rw [Try.params10] at hA hval
  obtain ⟨v0, v1, d0, d1, p0, p1, rfl, rfl, rfl, h0, h1⟩ := trodAll_two hA
  obtain ⟨rfl, rfl⟩ := trodVars_none hV
  obtain ⟨x, hx, rfl, rfl⟩ := open_by Try.underlying22 Try.underlying5 (by kernel_rfl) (by kernel_rfl) (hval 0 22 v0 rfl rfl) h0
  obtain ⟨y, hy, rfl, rfl⟩ := open_by Try.underlying22 Try.underlying5 (by kernel_rfl) (by kernel_rfl) (hval 1 22 v1 rfl rfl) h1
  clear hA0 hval0
  refine (fnAddSubIs x y hx hy W).mono fun e W' ⟨he, hb⟩ => ?_
  subst he
  exact ⟨_, rfl, ⟨_, _, _, [], [], [], hW', trodAll_mk1 (shut_bool Try.underlying4 true), trodAll_mk2 (Below.trod laidOut1 (by kernel_rfl) (of_decide_eq_true (by kernel_rfl)) h0 hb (by simp)) (Below.trod laidOut1 (by kernel_rfl) (of_decide_eq_true (by kernel_rfl)) h1 hb (by simp)), rfl, hb.frame _, fun h => by cases h⟩⟩

theorem fnAddSubIs_holds : Rows.FnAddSubIsSaid :=
  OpenClaim.holds_of_wide 10 Try.f10 rfl rfl rfl rfl rfl rfl rfl ⟨rfl, rfl, rfl, rfl, rfl⟩ rfl rfl rfl rfl rfl (by kernel_rfl) Try.func10 (by kernel_rfl)
    (of_decide_eq_true (by kernel_rfl)) (by unfold Func.isWrapper; first | (rw [if_pos (by decide +kernel)]; kernel_rfl) | (rw [if_neg (by decide +kernel)]; exact ⟨rfl, rfl⟩))
    (fun os started H enc _ => fnAddSubIs_lifted os started H enc)
#print axioms fnAddSubIs_holds
end Go.Proofs.Yteehdjkmjncehaa
