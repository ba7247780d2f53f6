/-
  FnRing: impl.Add and impl.Mul are commutative and associative, a product of a sum is the sum of products, and 1 + 1 is 2: the law answers true. No condition.
-/
import Derived.Test.YteehdjkmjncehaaLst
namespace Go.Proofs.Yteehdjkmjncehaa
open Go.ChangeShapes Go.WideShapes Go.ChangeAt Go.RowKit

theorem own1 : ownKnob Try.prog.godebug = none := by kernel_rfl
theorem laidOut1 : laidOutB Try.prog = true := by kernel_rfl
theorem lt256 (a : Nat) : a % p25 < 2 ^ 256 := Nat.lt_trans (Nat.mod_lt _ (by decide +kernel)) p25_lt
theorem two_mod : (1 + 1) % p25 = 2 := by decide +kernel

set_option maxRecDepth 100000 in
set_option maxHeartbeats 1600000 in
theorem fnRing (x y z : Nat) (hx : x < 2 ^ 256) (hy : y < 2 ^ 256) (hz : z < 2 ^ 256) : Pure Try.prog 13 #[byV 32 x, byV 32 y, byV 32 z] (.bool true) := by
  intro w
  have hu := Try.underlying22
  have hi : ∀ f, (Try.prog.info? 22).map (·.size) = some (byL 32 f).length := by intro f; rw [byL_length]; kernel_rfl
  unfold byV
  go_enter Try.func13, Try.ntmps13
  go_wp2_with fail
  obtain ⟨w0, hw0⟩ : ∃ w0, w0 = (((w.alloc (Obj.cells (byA 32 x) 22)).alloc (Obj.cells (byA 32 y) 22)).alloc (Obj.cells (byA 32 z) 22)) := ⟨_, rfl⟩
  have hx0 : w0.rangeAt (w.heap.size) 0 (byL 32 x) := by subst hw0; exact ByAt.range (f := byt x) (new3_0 w _ _ _)
  have hy0 : w0.rangeAt (w.heap.size + 1) 0 (byL 32 y) := by subst hw0; exact ByAt.range (f := byt y) (new3_1 w _ _ _)
  have hz0 : w0.rangeAt (w.heap.size + 1 + 1) 0 (byL 32 z) := by subst hw0; exact ByAt.range (f := byt z) (new3_2 w _ _ _)
  have hL : Below w.heap.size w w0 := by subst hw0; exact below3 w _ _ _
  have hsz : w0.heap.size = w.heap.size + 3 := by subst hw0; simp
  rw [← hw0]
  clear hw0
  simp only [List.append]
  refine wp_region_steady (Since w0) (by kernel_rfl) (by kernel_rfl) (Since.drew _) ?_
  refine wpSL_load (by rfl) _ _ rfl _ _ rfl _ _ (fun w hw => hw.range hx0 (by omega)) hu rfl (hi _) ?_
  simp only [Act.put, List.setIfInBounds_toArray, List.set_cons_zero, List.set_cons_succ]
  refine wpSL_load (by rfl) _ _ rfl _ _ rfl _ _ (fun w hw => hw.range hy0 (by omega)) hu rfl (hi _) ?_
  simp only [Act.put, List.setIfInBounds_toArray, List.set_cons_zero, List.set_cons_succ]
  refine wpSL_call (by rfl) (fun w => by go_simp) (Pure.since (implAdd x y hx hy)) ?_
  simp only [Act.put, List.setIfInBounds_toArray, List.set_cons_zero, List.set_cons_succ]
  refine wpSL_load (by rfl) _ _ rfl _ _ rfl _ _ (fun w hw => hw.range hy0 (by omega)) hu rfl (hi _) ?_
  simp only [Act.put, List.setIfInBounds_toArray, List.set_cons_zero, List.set_cons_succ]
  refine wpSL_load (by rfl) _ _ rfl _ _ rfl _ _ (fun w hw => hw.range hx0 (by omega)) hu rfl (hi _) ?_
  simp only [Act.put, List.setIfInBounds_toArray, List.set_cons_zero, List.set_cons_succ]
  refine wpSL_call (by rfl) (fun w => by go_simp) (Pure.since (implAdd y x hy hx)) ?_
  simp only [Act.put, List.setIfInBounds_toArray, List.set_cons_zero, List.set_cons_succ]
  refine wpSL_eql (by rfl) _ _ _ _ rfl _ _ rfl rfl (by kernel_rfl) (fun w => run_eql_same hu Try.underlying5 (by kernel_rfl) (lt256 _) (by rw [Nat.add_comm]) w) ?_
  simp only [Act.put, List.setIfInBounds_toArray, List.set_cons_zero, List.set_cons_succ]
  refine wpSL_value (v := .bool true) (by rfl) (fun w hw => by go_simp; try with_reducible rfl) ?_
  simp only [Act.put, List.setIfInBounds_toArray, List.set_cons_zero, List.set_cons_succ]
  refine wpSL_load (by rfl) _ _ rfl _ _ rfl _ _ (fun w hw => hw.range hx0 (by omega)) hu rfl (hi _) ?_
  simp only [Act.put, List.setIfInBounds_toArray, List.set_cons_zero, List.set_cons_succ]
  refine wpSL_load (by rfl) _ _ rfl _ _ rfl _ _ (fun w hw => hw.range hy0 (by omega)) hu rfl (hi _) ?_
  simp only [Act.put, List.setIfInBounds_toArray, List.set_cons_zero, List.set_cons_succ]
  refine wpSL_call (by rfl) (fun w => by go_simp) (Pure.since (implMul x y hx hy)) ?_
  simp only [Act.put, List.setIfInBounds_toArray, List.set_cons_zero, List.set_cons_succ]
  refine wpSL_load (by rfl) _ _ rfl _ _ rfl _ _ (fun w hw => hw.range hy0 (by omega)) hu rfl (hi _) ?_
  simp only [Act.put, List.setIfInBounds_toArray, List.set_cons_zero, List.set_cons_succ]
  refine wpSL_load (by rfl) _ _ rfl _ _ rfl _ _ (fun w hw => hw.range hx0 (by omega)) hu rfl (hi _) ?_
  simp only [Act.put, List.setIfInBounds_toArray, List.set_cons_zero, List.set_cons_succ]
  refine wpSL_call (by rfl) (fun w => by go_simp) (Pure.since (implMul y x hy hx)) ?_
  simp only [Act.put, List.setIfInBounds_toArray, List.set_cons_zero, List.set_cons_succ]
  refine wpSL_eql (by rfl) _ _ _ _ rfl _ _ rfl rfl (by kernel_rfl) (fun w => run_eql_same hu Try.underlying5 (by kernel_rfl) (lt256 _) (by rw [Nat.mul_comm]) w) ?_
  simp only [Act.put, List.setIfInBounds_toArray, List.set_cons_zero, List.set_cons_succ]
  refine wpSL_value (v := .bool true) (by rfl) (fun w hw => by go_simp; try with_reducible rfl) ?_
  simp only [Act.put, List.setIfInBounds_toArray, List.set_cons_zero, List.set_cons_succ]
  refine wpSL_value (v := .bool true) (by rfl) (fun w hw => by go_simp; try with_reducible rfl) ?_
  simp only [Act.put, List.setIfInBounds_toArray, List.set_cons_zero, List.set_cons_succ]
  refine wpSL_load (by rfl) _ _ rfl _ _ rfl _ _ (fun w hw => hw.range hx0 (by omega)) hu rfl (hi _) ?_
  simp only [Act.put, List.setIfInBounds_toArray, List.set_cons_zero, List.set_cons_succ]
  refine wpSL_load (by rfl) _ _ rfl _ _ rfl _ _ (fun w hw => hw.range hy0 (by omega)) hu rfl (hi _) ?_
  simp only [Act.put, List.setIfInBounds_toArray, List.set_cons_zero, List.set_cons_succ]
  refine wpSL_call (by rfl) (fun w => by go_simp) (Pure.since (implAdd x y hx hy)) ?_
  simp only [Act.put, List.setIfInBounds_toArray, List.set_cons_zero, List.set_cons_succ]
  refine wpSL_load (by rfl) _ _ rfl _ _ rfl _ _ (fun w hw => hw.range hz0 (by omega)) hu rfl (hi _) ?_
  simp only [Act.put, List.setIfInBounds_toArray, List.set_cons_zero, List.set_cons_succ]
  refine wpSL_call (by rfl) (fun w => by go_simp) (Pure.since (implAdd ((x + y) % p25) z (lt256 _) hz)) ?_
  simp only [Act.put, List.setIfInBounds_toArray, List.set_cons_zero, List.set_cons_succ]
  refine wpSL_load (by rfl) _ _ rfl _ _ rfl _ _ (fun w hw => hw.range hx0 (by omega)) hu rfl (hi _) ?_
  simp only [Act.put, List.setIfInBounds_toArray, List.set_cons_zero, List.set_cons_succ]
  refine wpSL_load (by rfl) _ _ rfl _ _ rfl _ _ (fun w hw => hw.range hy0 (by omega)) hu rfl (hi _) ?_
  simp only [Act.put, List.setIfInBounds_toArray, List.set_cons_zero, List.set_cons_succ]
  refine wpSL_load (by rfl) _ _ rfl _ _ rfl _ _ (fun w hw => hw.range hz0 (by omega)) hu rfl (hi _) ?_
  simp only [Act.put, List.setIfInBounds_toArray, List.set_cons_zero, List.set_cons_succ]
  refine wpSL_call (by rfl) (fun w => by go_simp) (Pure.since (implAdd y z hy hz)) ?_
  simp only [Act.put, List.setIfInBounds_toArray, List.set_cons_zero, List.set_cons_succ]
  refine wpSL_call (by rfl) (fun w => by go_simp) (Pure.since (implAdd x ((y + z) % p25) hx (lt256 _))) ?_
  simp only [Act.put, List.setIfInBounds_toArray, List.set_cons_zero, List.set_cons_succ]
  refine wpSL_eql (by rfl) _ _ _ _ rfl _ _ rfl rfl (by kernel_rfl) (fun w => run_eql_same hu Try.underlying5 (by kernel_rfl) (lt256 _) (by rw [Nat.mod_add_mod, Nat.add_mod_mod, Nat.add_assoc]) w) ?_
  simp only [Act.put, List.setIfInBounds_toArray, List.set_cons_zero, List.set_cons_succ]
  refine wpSL_value (v := .bool true) (by rfl) (fun w hw => by go_simp; try with_reducible rfl) ?_
  simp only [Act.put, List.setIfInBounds_toArray, List.set_cons_zero, List.set_cons_succ]
  refine wpSL_value (v := .bool true) (by rfl) (fun w hw => by go_simp; try with_reducible rfl) ?_
  simp only [Act.put, List.setIfInBounds_toArray, List.set_cons_zero, List.set_cons_succ]
  refine wpSL_load (by rfl) _ _ rfl _ _ rfl _ _ (fun w hw => hw.range hx0 (by omega)) hu rfl (hi _) ?_
  simp only [Act.put, List.setIfInBounds_toArray, List.set_cons_zero, List.set_cons_succ]
  refine wpSL_load (by rfl) _ _ rfl _ _ rfl _ _ (fun w hw => hw.range hy0 (by omega)) hu rfl (hi _) ?_
  simp only [Act.put, List.setIfInBounds_toArray, List.set_cons_zero, List.set_cons_succ]
  refine wpSL_call (by rfl) (fun w => by go_simp) (Pure.since (implMul x y hx hy)) ?_
  simp only [Act.put, List.setIfInBounds_toArray, List.set_cons_zero, List.set_cons_succ]
  refine wpSL_load (by rfl) _ _ rfl _ _ rfl _ _ (fun w hw => hw.range hz0 (by omega)) hu rfl (hi _) ?_
  simp only [Act.put, List.setIfInBounds_toArray, List.set_cons_zero, List.set_cons_succ]
  refine wpSL_call (by rfl) (fun w => by go_simp) (Pure.since (implMul (x * y % p25) z (lt256 _) hz)) ?_
  simp only [Act.put, List.setIfInBounds_toArray, List.set_cons_zero, List.set_cons_succ]
  refine wpSL_load (by rfl) _ _ rfl _ _ rfl _ _ (fun w hw => hw.range hx0 (by omega)) hu rfl (hi _) ?_
  simp only [Act.put, List.setIfInBounds_toArray, List.set_cons_zero, List.set_cons_succ]
  refine wpSL_load (by rfl) _ _ rfl _ _ rfl _ _ (fun w hw => hw.range hy0 (by omega)) hu rfl (hi _) ?_
  simp only [Act.put, List.setIfInBounds_toArray, List.set_cons_zero, List.set_cons_succ]
  refine wpSL_load (by rfl) _ _ rfl _ _ rfl _ _ (fun w hw => hw.range hz0 (by omega)) hu rfl (hi _) ?_
  simp only [Act.put, List.setIfInBounds_toArray, List.set_cons_zero, List.set_cons_succ]
  refine wpSL_call (by rfl) (fun w => by go_simp) (Pure.since (implMul y z hy hz)) ?_
  simp only [Act.put, List.setIfInBounds_toArray, List.set_cons_zero, List.set_cons_succ]
  refine wpSL_call (by rfl) (fun w => by go_simp) (Pure.since (implMul x (y * z % p25) hx (lt256 _))) ?_
  simp only [Act.put, List.setIfInBounds_toArray, List.set_cons_zero, List.set_cons_succ]
  refine wpSL_eql (by rfl) _ _ _ _ rfl _ _ rfl rfl (by kernel_rfl) (fun w => run_eql_same hu Try.underlying5 (by kernel_rfl) (lt256 _) (by rw [Nat.mod_mul_mod, Nat.mul_mod_mod, Nat.mul_assoc]) w) ?_
  simp only [Act.put, List.setIfInBounds_toArray, List.set_cons_zero, List.set_cons_succ]
  refine wpSL_value (v := .bool true) (by rfl) (fun w hw => by go_simp; try with_reducible rfl) ?_
  simp only [Act.put, List.setIfInBounds_toArray, List.set_cons_zero, List.set_cons_succ]
  refine wpSL_value (v := .bool true) (by rfl) (fun w hw => by go_simp; try with_reducible rfl) ?_
  simp only [Act.put, List.setIfInBounds_toArray, List.set_cons_zero, List.set_cons_succ]
  refine wpSL_load (by rfl) _ _ rfl _ _ rfl _ _ (fun w hw => hw.range hx0 (by omega)) hu rfl (hi _) ?_
  simp only [Act.put, List.setIfInBounds_toArray, List.set_cons_zero, List.set_cons_succ]
  refine wpSL_load (by rfl) _ _ rfl _ _ rfl _ _ (fun w hw => hw.range hy0 (by omega)) hu rfl (hi _) ?_
  simp only [Act.put, List.setIfInBounds_toArray, List.set_cons_zero, List.set_cons_succ]
  refine wpSL_load (by rfl) _ _ rfl _ _ rfl _ _ (fun w hw => hw.range hz0 (by omega)) hu rfl (hi _) ?_
  simp only [Act.put, List.setIfInBounds_toArray, List.set_cons_zero, List.set_cons_succ]
  refine wpSL_call (by rfl) (fun w => by go_simp) (Pure.since (implAdd y z hy hz)) ?_
  simp only [Act.put, List.setIfInBounds_toArray, List.set_cons_zero, List.set_cons_succ]
  refine wpSL_call (by rfl) (fun w => by go_simp) (Pure.since (implMul x ((y + z) % p25) hx (lt256 _))) ?_
  simp only [Act.put, List.setIfInBounds_toArray, List.set_cons_zero, List.set_cons_succ]
  refine wpSL_load (by rfl) _ _ rfl _ _ rfl _ _ (fun w hw => hw.range hx0 (by omega)) hu rfl (hi _) ?_
  simp only [Act.put, List.setIfInBounds_toArray, List.set_cons_zero, List.set_cons_succ]
  refine wpSL_load (by rfl) _ _ rfl _ _ rfl _ _ (fun w hw => hw.range hy0 (by omega)) hu rfl (hi _) ?_
  simp only [Act.put, List.setIfInBounds_toArray, List.set_cons_zero, List.set_cons_succ]
  refine wpSL_call (by rfl) (fun w => by go_simp) (Pure.since (implMul x y hx hy)) ?_
  simp only [Act.put, List.setIfInBounds_toArray, List.set_cons_zero, List.set_cons_succ]
  refine wpSL_load (by rfl) _ _ rfl _ _ rfl _ _ (fun w hw => hw.range hx0 (by omega)) hu rfl (hi _) ?_
  simp only [Act.put, List.setIfInBounds_toArray, List.set_cons_zero, List.set_cons_succ]
  refine wpSL_load (by rfl) _ _ rfl _ _ rfl _ _ (fun w hw => hw.range hz0 (by omega)) hu rfl (hi _) ?_
  simp only [Act.put, List.setIfInBounds_toArray, List.set_cons_zero, List.set_cons_succ]
  refine wpSL_call (by rfl) (fun w => by go_simp) (Pure.since (implMul x z hx hz)) ?_
  simp only [Act.put, List.setIfInBounds_toArray, List.set_cons_zero, List.set_cons_succ]
  refine wpSL_call (by rfl) (fun w => by go_simp) (Pure.since (implAdd (x * y % p25) (x * z % p25) (lt256 _) (lt256 _))) ?_
  simp only [Act.put, List.setIfInBounds_toArray, List.set_cons_zero, List.set_cons_succ]
  refine wpSL_eql (by rfl) _ _ _ _ rfl _ _ rfl rfl (by kernel_rfl) (fun w => run_eql_same hu Try.underlying5 (by kernel_rfl) (lt256 _) (by rw [Nat.mul_mod_mod, Nat.mul_add, Nat.add_mod]) w) ?_
  simp only [Act.put, List.setIfInBounds_toArray, List.set_cons_zero, List.set_cons_succ]
  refine wpSL_value (v := .bool true) (by rfl) (fun w hw => by go_simp; try with_reducible rfl) ?_
  simp only [Act.put, List.setIfInBounds_toArray, List.set_cons_zero, List.set_cons_succ]
  refine wpSL_value (v := .bool true) (by rfl) (fun w hw => by go_simp; try with_reducible rfl) ?_
  simp only [Act.put, List.setIfInBounds_toArray, List.set_cons_zero, List.set_cons_succ]
  refine wpSL_call (by rfl) (fun w => by go_simp) (Pure.since (one28)) ?_
  simp only [Act.put, List.setIfInBounds_toArray, List.set_cons_zero, List.set_cons_succ]
  refine wpSL_call (by rfl) (fun w => by go_simp) (Pure.since (one28)) ?_
  simp only [Act.put, List.setIfInBounds_toArray, List.set_cons_zero, List.set_cons_succ]
  refine wpSL_call (by rfl) (fun w => by go_simp) (Pure.since (implAdd 1 1 (by decide) (by decide))) ?_
  simp only [Act.put, List.setIfInBounds_toArray, List.set_cons_zero, List.set_cons_succ]
  refine wpSL_build (by rfl) _ _ rfl (byA 32 2) (by simp only [List.map_toArray, List.map_cons, List.map_nil]; exact built_2) ?_
  simp only [Act.put, List.setIfInBounds_toArray, List.set_cons_zero, List.set_cons_succ]
  refine wpSL_eql (by rfl) _ _ _ _ rfl _ _ rfl rfl (by kernel_rfl) (fun w => run_eql_same hu Try.underlying5 (by kernel_rfl) (lt256 _) two_mod w) ?_
  simp only [Act.put, List.setIfInBounds_toArray, List.set_cons_zero, List.set_cons_succ]
  refine wpSL_value (v := .bool true) (by rfl) (fun w hw => by go_simp; try with_reducible rfl) ?_
  simp only [Act.put, List.setIfInBounds_toArray, List.set_cons_zero, List.set_cons_succ]
  refine wpSL_value (by rfl) (fun w hw => by go_simp; with_reducible rfl) ?_
  simp only [Act.put, List.setIfInBounds_toArray, List.set_cons_zero, List.set_cons_succ]
  refine wpSL_nil ?_
  intro w1 hw1
  have HL := Lib.hid (hL.trans (hw1.mono (by omega)))
  clear hw1 hL hsz hx0 hy0 hz0
  go_wp2_with fail
  go_ret
  exact ⟨by simp, HL.out⟩

set_option maxRecDepth 100000 in
theorem fnRing_lifted (os : Os) (started : os.Started) (H : Type) (enc : TypeId × Value → H) :
    ReturnsInHanded {} Try.checked os 13 .any (Rows.fnRingSpec.pre6 enc Try.prog Try.f13 Rows.fnRingRow.domain false) (Rows.fnRingSpec.post enc Try.prog Try.f13 false true false false) := by
  refine returnsInHanded_of_change (C := Try.checked) own1 started (by kernel_rfl) Try.func13
    (ChangeSpec.witness6 (enc := enc) (C := Try.checked) false ⟨#[], #[byV 32 0, byV 32 0, byV 32 0], []⟩ 8 (by kernel_rfl) (by kernel_rfl) (by kernel_rfl) (by kernel_rfl)) ?_
  intro W base args ds gs before hval0 hW hcnd _
  have hval : ∀ (j : Nat) t v, Try.f13.params[j]? = some t → args[j]? = some v → Value.okWide Try.prog W .any base t v := hval0
  have hW' := hW
  obtain ⟨p, q, hA0, hV, rfl, hfz, hnd⟩ := hW
  have hA : DataW.TrodAll enc Try.prog W 0 (fun _ => true) true Try.f13.params.toList args.toList ds p := hA0
  rw [Try.params13] at hA hval
  obtain ⟨v0, v1, v2, d0, d1, d2, p0, p1, p2, rfl, rfl, rfl, h0, h1, h2⟩ := trodAll_three hA
  obtain ⟨rfl, rfl⟩ := trodVars_none hV
  obtain ⟨x, hx, rfl, rfl⟩ := open_by Try.underlying22 Try.underlying5 (by kernel_rfl) (by kernel_rfl) (hval 0 22 v0 rfl rfl) h0
  obtain ⟨y, hy, rfl, rfl⟩ := open_by Try.underlying22 Try.underlying5 (by kernel_rfl) (by kernel_rfl) (hval 1 22 v1 rfl rfl) h1
  obtain ⟨z, hz, rfl, rfl⟩ := open_by Try.underlying22 Try.underlying5 (by kernel_rfl) (by kernel_rfl) (hval 2 22 v2 rfl rfl) h2
  clear hA0 hval0
  refine (fnRing x y z hx hy hz W).mono fun e W' ⟨he, hb⟩ => ?_
  subst he
  exact ⟨_, rfl, ⟨_, _, _, [], [], [], hW', trodAll_mk1 (shut_bool Try.underlying4 true), trodAll_mk3 (Below.trod laidOut1 (by kernel_rfl) (of_decide_eq_true (by kernel_rfl)) h0 hb (by simp)) (Below.trod laidOut1 (by kernel_rfl) (of_decide_eq_true (by kernel_rfl)) h1 hb (by simp)) (Below.trod laidOut1 (by kernel_rfl) (of_decide_eq_true (by kernel_rfl)) h2 hb (by simp)), rfl, hb.frame _, fun h => by cases h⟩⟩

theorem fnRing_holds : Rows.FnRingSaid :=
  OpenClaim.holds_of_wide 13 Try.f13 rfl rfl rfl rfl rfl rfl rfl ⟨rfl, rfl, rfl, rfl, rfl⟩ rfl rfl rfl rfl rfl (by kernel_rfl) Try.func13 (by kernel_rfl)
    (of_decide_eq_true (by kernel_rfl)) (by unfold Func.isWrapper; first | (rw [if_pos (by decide +kernel)]; kernel_rfl) | (rw [if_neg (by decide +kernel)]; exact ⟨rfl, rfl⟩))
    (fun os started H enc _ => fnRing_lifted os started H enc)
#print axioms fnRing_holds
end Go.Proofs.Yteehdjkmjncehaa
