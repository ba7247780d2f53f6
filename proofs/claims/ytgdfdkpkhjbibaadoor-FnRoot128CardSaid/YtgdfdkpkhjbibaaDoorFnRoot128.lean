/-
  FnRoot128: whatever the input, the law answers true (written by laws2.py).
  Conditions: the package variables that the row lists read as listed (the card ties them to the program's text).
-/
import Derived.Test.YtgdfdkpkhjbibaaDoorFp7
import Derived.Test.YtgdfdkpkhjbibaaDoorTie
import Derived.Test.YtgdfdkpkhjbibaaDoorCards
import Derived.SevenTiedAt
namespace Go.Proofs.YtgdfdkpkhjbibaaDoor
open Go.ChangeShapes Go.WideShapes Go.ChangeAt Go.WideElems Go.RowKit
theorem conv_i (k : Nat) (h : k < 1000) : IntKind.i64.wrap (k : Int) = (k : Int) := by
  rw [IntKind.wrap_i64]; omega
set_option maxRecDepth 100000 in
theorem main_w {k : Nat} {w : World} (ht : RT w)  :
    Calls Tryd.prog 3 #[.int .u64 (k : Int)] w fun e w' => e = .returned (.bool true) ∧ Below w.heap.size w w' := by
  by_cases hk : k ≤ 66
  · refine calls_H (args := [.int .u64 (k : Int)]) noD [] Tryd.func3 rfl (m := 18) rfl rfl (hold_nil _ _) ?_
    refine HC.seq ?_
    refine HC.region ?_
    refine HL.val (Val.assign rfl) (by decide) ?_
    refine HL.nil ?_
    refine HQ.next ?_
    refine HC.seq ?_
    refine HC.region ?_
    refine HL.val (Val.move rfl) (by decide) ?_
    refine HL.val (Val.call en21 (fl_p) rfl) (by decide) ?_
    refine HL.val (Val.field1 rfl (fieldA2)) (by decide) ?_
    refine HL.val ((Val.convI rfl rfl Tryd.underlying22).as (v := .int .u64 66) rfl) (by decide) ?_
    refine HL.val ((Val.gtr rfl rfl).as (congrArg Value.bool ((gtrN 66 k).trans (decide_eq_false (by omega))))) (by decide) ?_
    refine HL.val (Val.move rfl) (by decide) ?_
    refine HL.valg rfl (Val.move rfl) (by decide) ?_
    refine HL.valg rfl (Val.calls en23 (fun w hw => root_good (ht.sn hw.sn rfl) hk) rfl) (by decide) ?_
    refine HL.valg rfl (Val.call en22 (n_p (pf_by (rt_lt (by omega)))) rfl) (by decide) ?_
    refine HL.valg rfl (Val.call en21 (fl_p) rfl) (by decide) ?_
    refine HL.valg rfl (Val.move rfl) (by decide) ?_
    refine HL.valg rfl ((Val.convI rfl rfl Tryd.underlying3).as (congrArg (Value.int .i64) (conv_i k (by omega)))) (by decide) ?_
    refine HL.valg rfl (Val.call en24 (sroot_p k hk) rfl) (by decide) ?_
    refine HL.valg rfl ((Val.eqlA rfl rfl (by kernel_rfl) (eqlW (lt_w (rt_lt (by omega))) (lt_w (rt_lt (by omega))))).as (congrArg Value.bool (decide_eq_true rfl))) (by decide) ?_
    refine HL.val (Val.pickF rfl rfl) (by decide) ?_
    refine HL.val (Val.assign rfl) (by decide) ?_
    refine HL.nil ?_
    refine HQ.next ?_
    refine HC.ret ?_
    exact HQ.ret1 rfl rfl (pure_end rfl)
  · refine calls_H (args := [.int .u64 (k : Int)]) noD [] Tryd.func3 rfl (m := 18) rfl rfl (hold_nil _ _) ?_
    refine HC.seq ?_
    refine HC.region ?_
    refine HL.val (Val.assign rfl) (by decide) ?_
    refine HL.nil ?_
    refine HQ.next ?_
    refine HC.seq ?_
    refine HC.region ?_
    refine HL.val (Val.move rfl) (by decide) ?_
    refine HL.val (Val.call en21 (fl_p) rfl) (by decide) ?_
    refine HL.val (Val.field1 rfl (fieldA2)) (by decide) ?_
    refine HL.val ((Val.convI rfl rfl Tryd.underlying22).as (v := .int .u64 66) rfl) (by decide) ?_
    refine HL.val ((Val.gtr rfl rfl).as (congrArg Value.bool ((gtrN 66 k).trans (decide_eq_true (by omega))))) (by decide) ?_
    refine HL.val (Val.move rfl) (by decide) ?_
    refine HL.skip rfl (by decide) ?_
    refine HL.skip rfl (by decide) ?_
    refine HL.skip rfl (by decide) ?_
    refine HL.skip rfl (by decide) ?_
    refine HL.skip rfl (by decide) ?_
    refine HL.skip rfl (by decide) ?_
    refine HL.skip rfl (by decide) ?_
    refine HL.skip rfl (by decide) ?_
    refine HL.val (Val.pickT rfl rfl) (by decide) ?_
    refine HL.val (Val.assign rfl) (by decide) ?_
    refine HL.nil ?_
    refine HQ.next ?_
    refine HC.ret ?_
    exact HQ.ret1 rfl rfl (pure_end rfl)
set_option maxRecDepth 100000 in
theorem fnRoot128_met (os : Os) (args : Array Value) : laidMetH Tryd.prog Rows.fnRoot128Row.laid ((World.doorLaid Tryd.prog 400 os).forCall (fun _ _ => 0) ⟨#[], args, []⟩).memory :=
  laidMetH_of_parts3 (fuel := 8) (laidMet_of_run' 8 (by kernel_rfl) (by kernel_rfl)) (by kernel_rfl) (by kernel_rfl)
set_option maxRecDepth 100000 in
theorem fnRoot128_lifted (os : Os) (started : os.Started) (H : Type) (enc : TypeId × Value → H) :
    ReturnsInHanded {} Tryd.checked os 3 .any (fun w args => (Rows.fnRoot128Spec.pre enc Tryd.prog Tryd.f3 [] false w args ∧ laidMetH Tryd.prog Rows.fnRoot128Row.laid w) ∧ sizedMet enc Tryd.prog Tryd.f3 (OpenSpec.ofChange Rows.fnRoot128Spec) false w args)
      (Rows.fnRoot128Spec.post enc Tryd.prog Tryd.f3 false true false false) := by
  refine returnsInHanded_of_change_and (C := Tryd.checked) (X := fun w _ => laidMetH Tryd.prog Rows.fnRoot128Row.laid w) (fun _ _ _ hh h => h.of_heap hh) own1 started (by kernel_rfl) Tryd.func3
    (ChangeSpec.witness_shaped (enc := enc) (C := Tryd.checked) (os := os) (X := fun w _ => laidMetH Tryd.prog Rows.fnRoot128Row.laid w) false (World.doorLaid Tryd.prog 400 os) #[.int .u64 0] 8 rfl (World.shaped_of_RefB (by kernel_rfl) (by kernel_rfl)) (by kernel_rfl) (by kernel_rfl) (by kernel_rfl) (fnRoot128_met os _)) ?_
  intro W base args ds gs before hval0 hW _ _ hL _
  have hval : ∀ (j : Nat) t v, Tryd.f3.params[j]? = some t → args[j]? = some v → Value.okWide Tryd.prog W .any base t v := hval0
  have hW' := hW
  obtain ⟨p, q, hA0, hV, rfl, hfz, hnd⟩ := hW
  have hV0 := hV
  have hA : DataW.TrodAll enc Tryd.prog W 0 (fun _ => true) true Tryd.f3.params.toList args.toList ds p := hA0
  rw [Tryd.params3] at hA hval
  obtain ⟨v0, d0, rfl, rfl, h0⟩ := trodAll_one hA
  obtain ⟨g0, g1, rfl⟩ : ∃ g0 g1, gs = [g0, g1] := by
    have hgl := trodVars_len hV0
    match gs, hgl with
    | [g0, g1], _ => exact ⟨g0, g1, rfl⟩
  obtain ⟨ki, rfl, rfl, rfl, wk⟩ := open_int Tryd.underlying22 (hval 0 22 v0 rfl rfl) h0
  obtain ⟨k, rfl, lk⟩ := nat_of_u64 wk
  clear hA0 hval0
  refine (main_w (rt_at (laid_at (by kernel_rfl) hL 0 rfl))).mono fun e W' ⟨he, hb⟩ => ?_
  subst he
  exact ⟨_, rfl, ⟨_, _, _, [], _, _, hW', trodAll_mk1 (shut_bool Tryd.underlying4 true), trodAll_mk1 (shut_int Tryd.underlying22 wk), Below.trodVars laidOut1 hb (by kernel_rfl) hV, hb.frame _, fun h => by cases h⟩⟩
theorem fnRoot128_c1 : (Rows.fnRoot128Row.inPlace == Tryd.pinned.checked.prog.inPlace 3) = true := by kernel_rfl
theorem fnRoot128_c2 : (Rows.fnRoot128Row.unfollowed == Tryd.pinned.checked.prog.unfollowed 3) = true := by kernel_rfl
theorem fnRoot128_c3 : (Rows.fnRoot128Row.recurses == Tryd.pinned.checked.prog.recurses 3) = true := by kernel_rfl
theorem fnRoot128_c4 : (Rows.fnRoot128Row.named == Tryd.pinned.checked.prog.varsNamed 3) = true := by kernel_rfl
theorem fnRoot128_c5 : Rows.fnRoot128Row.wf (OpenSpec.ofChange Rows.fnRoot128Spec) = true := by kernel_rfl
theorem fnRoot128_c8 : (Rows.fnRoot128Row.plainKeys == Tryd.pinned.checked.prog.plainKeys) = true := by kernel_rfl
theorem fnRoot128_d1 : (Rows.fnRoot128Row.lifted == Tryd.pinned.checked.prog.liftsFinal) = true := by rw [lifts1]; rfl
theorem fnRoot128_d2 : (Tryd.pinned.checked.prog.make == some Rows.fnRoot128Row.make) = true := by rw [make1]; rfl
theorem looks1 : false = Tryd.pinned.checked.prog.looks [] := by kernel_rfl
theorem fnRoot128_closed : joinedFacts Tryd.pinned.checked.prog 3 Tryd.f3 Rows.fnRoot128Spec Rows.fnRoot128Row = true := by
  delta joinedFacts
  repeat' with_reducible apply and_i
  all_goals first | with_reducible exact fnRoot128_c1 | with_reducible exact fnRoot128_c2 | with_reducible exact fnRoot128_c3 | with_reducible exact fnRoot128_c4 | with_reducible exact fnRoot128_c5 | with_reducible exact c6 | with_reducible exact c7 | with_reducible exact fnRoot128_c8 | with_reducible exact c9 | with_reducible exact may1 | with_reducible exact fnRoot128_d1 | with_reducible exact fnRoot128_d2 | kernel_rfl
theorem fnRoot128_named : Tryd.pinned.checked.prog.funcNamed Rows.fnRoot128Row.func = some 3 := by kernel_rfl
theorem fnRoot128_inst : Tryd.f3.isInstance Tryd.pinned.checked.prog Rows.fnRoot128Row.origin Rows.fnRoot128Row.targs := of_decide_eq_true (by kernel_rfl)
theorem fnRoot128_wrap : Tryd.f3.isWrapper Tryd.pinned.checked.prog Rows.fnRoot128Row.wrapper Rows.fnRoot128Row.mainSum := by unfold Func.isWrapper; first | (rw [if_pos (by decide +kernel)]; kernel_rfl) | (rw [if_neg (by decide +kernel)]; exact ⟨rfl, rfl⟩)
theorem fnRoot128_holds : Rows.FnRoot128Said :=
  OpenClaim.holds_of_wide 3 Tryd.f3 rfl rfl rfl rfl rfl rfl rfl ⟨rfl, rfl, rfl, rfl, rfl⟩ rfl rfl rfl rfl rfl fnRoot128_named Tryd.func3 fnRoot128_closed
    fnRoot128_inst fnRoot128_wrap
    (fun os started H enc _ => fnRoot128_lifted os started H enc)
theorem fnRoot128_w : Rows.fnRoot128Row.wfByText (OpenSpec.ofChange Rows.fnRoot128Spec) = true := by kernel_rfl
theorem fnRoot128_main1 : Tryd.pinned.checked.prog.mainIs = some (Rows.fnRoot128Card.stood.harness.1, Rows.fnRoot128Card.stood.harness.2.toList) := main1.trans (by kernel_rfl)
theorem fnRoot128_goes : false = Rows.fnRoot128Row.goesBy Tryd.pinned.checked.prog := by kernel_rfl
theorem fnRoot128_har : (!Rows.fnRoot128Card.stood.harness.1 && Rows.fnRoot128Card.stood.harness.2.isEmpty && !false) = false := by kernel_rfl
theorem fnRoot128_hl : ∀ f fn, Tryd.pinned.checked.prog.funcNamed Rows.fnRoot128Row.func = some f → Tryd.pinned.checked.prog.funcs[f]? = some fn → false = Tryd.pinned.checked.prog.looks [] ∧ ∀ (j : Nat) t, fn.params[j]? = some t → Tryd.pinned.checked.prog.wantsStandIn t = false := fun f fn hf hfn => by
  obtain rfl : f = 3 := (Option.some.inj (fnRoot128_named.symm.trans hf)).symm
  obtain rfl : fn = Tryd.f3 := (Option.some.inj (Tryd.func3.symm.trans hfn)).symm
  exact ⟨looks1, fun j t ht => by
    rw [Tryd.params3] at ht
    have hm : t ∈ [22] := by simpa using Array.mem_of_getElem? ht
    have hall : ([22].all fun u => !Tryd.pinned.checked.prog.wantsStandIn u) = true := by kernel_rfl
    exact (show Tryd.pinned.checked.prog.wantsStandIn t = false by simpa using List.all_eq_true.1 hall t hm)⟩
theorem fnRoot128Card_holds : Rows.FnRoot128CardSaid :=
  Claim7.holds_tied_plain_at .later [] Rows.fnRoot128Card.laidKinds true Rows.fnRoot128Card.stood.harness false
    fnRoot128_holds (fun _ h => by cases h) fnRoot128_w (fun _ h => by cases h) fnRoot128_row_tie rfl ⟨rfl, rfl⟩ fnRoot128_main1 fnRoot128_har fnRoot128_hl fnRoot128_goes
#print axioms fnRoot128Card_holds
end Go.Proofs.YtgdfdkpkhjbibaaDoor
