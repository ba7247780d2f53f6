/-
  FnValidIs: a public key is valid just if its point, doubled three times, adds something; and 9 is valid: the law answers true.
  Conditions: the package variables that the row lists read as listed (the card ties them to the program's text).
-/
import Derived.Test.YteehdjkmjncehaaDoorLo
import Derived.Test.YteehdjkmjncehaaDoorTie
import Derived.Test.YteehdjkmjncehaaDoorCards
import Derived.SevenTiedAt
namespace Go.Proofs.YteehdjkmjncehaaDoor
open Go.ChangeShapes Go.WideShapes Go.ChangeAt Go.WideElems Go.RowKit
set_option maxRecDepth 100000 in
theorem bl22_9 : Tryd.prog.built 22 [(0, .int .u8 9)] = some (byA 32 9) := by kernel_rfl
set_option maxRecDepth 100000 in
set_option maxHeartbeats 1600000 in
theorem main_w {u : Nat} {w : World} (hl : LG w) (hu : u < 2 ^ 256) :
    Calls Tryd.prog 4 #[byV 32 u] w fun e w' => e = .returned (.bool true) ∧ Below w.heap.size w w' := by
  by_cases h : 127 < u / 256 ^ 31 % 256
  · refine calls_H (args := [byV 32 u]) noD [] Tryd.func4 rfl (m := 19) rfl rfl (hold_nil _ _) ?_
    refine HC.seq ?_
    refine HC.region ?_
    refine HL.new (New.box rfl) (by decide) ?_
    intro b1 hb1
    refine HL.val (Val.assign rfl) (by decide) ?_
    refine HL.nil ?_
    refine HQ.next ?_
    refine HC.seq ?_
    refine HC.draw0 16 (by kernel_rfl) (by kernel_rfl) ?_
    simp only [List.take, List.drop]
    refine HV.val (Val.ixAddrQ 31 (i := 31) (m := 32) (s := 1) (e := 5) rfl rfl Tryd.underlying22 (by kernel_rfl) (by decide) (by decide)) (by decide) ?_
    refine HV.val (Val.load_cell rfl (fun w hw => hw.at (i := 0) rfl) (byA_get (n := 32) (v := u) (i := 31) (by decide)) Tryd.underlying5 rfl) (by decide) ?_
    refine HV.val ((Val.gtr rfl rfl).as (congrArg Value.bool (decide_eq_true (by omega)))) (by decide) ?_
    refine HV.val (Val.move rfl) (by decide) ?_
    refine HV.skip rfl (by decide) ?_
    refine HV.skip rfl (by decide) ?_
    refine HV.skip rfl (by decide) ?_
    refine HV.skip rfl (by decide) ?_
    refine HV.skip rfl (by decide) ?_
    refine HV.skip rfl (by decide) ?_
    refine HV.skip rfl (by decide) ?_
    refine HV.skip rfl (by decide) ?_
    refine HV.skip rfl (by decide) ?_
    refine HV.skip rfl (by decide) ?_
    refine HV.skip rfl (by decide) ?_
    refine HV.val (Val.pickT rfl rfl) (by decide) ?_
    refine HV.tail0 ?_
    refine HL.val (Val.assign rfl) (by decide) ?_
    refine HL.nil ?_
    refine HQ.next ?_
    refine HC.ret ?_
    exact HQ.ret1 rfl rfl (pure_end rfl)
  · refine calls_H (args := [byV 32 u]) noD [] Tryd.func4 rfl (m := 19) rfl rfl (hold_nil _ _) ?_
    refine HC.seq ?_
    refine HC.region ?_
    refine HL.new (New.box rfl) (by decide) ?_
    intro b1 hb1
    refine HL.val (Val.assign rfl) (by decide) ?_
    refine HL.nil ?_
    refine HQ.next ?_
    refine HC.seq ?_
    refine HC.draw0 16 (by kernel_rfl) (by kernel_rfl) ?_
    simp only [List.take, List.drop]
    refine HV.val (Val.ixAddrQ 31 (i := 31) (m := 32) (s := 1) (e := 5) rfl rfl Tryd.underlying22 (by kernel_rfl) (by decide) (by decide)) (by decide) ?_
    refine HV.val (Val.load_cell rfl (fun w hw => hw.at (i := 0) rfl) (byA_get (n := 32) (v := u) (i := 31) (by decide)) Tryd.underlying5 rfl) (by decide) ?_
    refine HV.val ((Val.gtr rfl rfl).as (congrArg Value.bool (decide_eq_false (by omega)))) (by decide) ?_
    refine HV.val (Val.move rfl) (by decide) ?_
    refine HV.valg rfl (Val.load_row rfl (fun w hw => hw.at (i := 0) rfl) Tryd.underlying22 rfl (sz22 _)) (by decide) ?_
    refine HV.valg rfl ((Val.calls en18 (fun w hw => implValid (hl.sn hw.sn rfl) hu) rfl).as (congrArg Value.bool (vld_low u))) (by decide) ?_
    refine HV.valg rfl (Val.load_row rfl (fun w hw => hw.at (i := 0) rfl) Tryd.underlying22 rfl (sz22 _)) (by decide) ?_
    refine HV.valg rfl (Val.call en10 (of23 u) rfl) (by decide) ?_
    refine HV.valg rfl (Val.call en19 (isLow_p u hu) rfl) (by decide) ?_
    refine HV.valg rfl (Val.not rfl) (by decide) ?_
    refine HV.valg rfl ((Val.eqlBool rfl rfl Tryd.underlying4).as (congrArg Value.bool (beq_self_eq_true _))) (by decide) ?_
    refine HV.valg rfl (Val.move rfl) (by decide) ?_
    refine HV.valg rfl (Val.build rfl bl22_9) (by decide) ?_
    refine HV.valg rfl ((Val.calls en18 (fun w hw => implValid (hl.sn hw.sn rfl) (show 9 < 2 ^ 256 by decide)) rfl).as (congrArg Value.bool vld_9)) (by decide) ?_
    refine HV.valg rfl (Val.pickT rfl rfl) (by decide) ?_
    refine HV.val (Val.pickF rfl rfl) (by decide) ?_
    refine HV.tail0 ?_
    refine HL.val (Val.assign rfl) (by decide) ?_
    refine HL.nil ?_
    refine HQ.next ?_
    refine HC.ret ?_
    exact HQ.ret1 rfl rfl (pure_end rfl)
set_option maxRecDepth 100000 in
theorem fnValidIs_met (os : Os) (args : Array Value) : laidMetH Tryd.prog Rows.fnValidIsRow.laid ((World.doorLaid Tryd.prog 400 os).forCall (fun _ _ => 0) ⟨#[], args, []⟩).memory :=
  laidMetH_of_parts3 (fuel := 8) (laidMet_of_run' 8 (by kernel_rfl) (by kernel_rfl)) (by kernel_rfl) (by kernel_rfl)
set_option maxRecDepth 100000 in
theorem fnValidIs_lifted (os : Os) (started : os.Started) (H : Type) (enc : TypeId × Value → H) :
    ReturnsInHanded {} Tryd.checked os 4 .any (fun w args => (Rows.fnValidIsSpec.pre enc Tryd.prog Tryd.f4 [] false w args ∧ laidMetH Tryd.prog Rows.fnValidIsRow.laid w) ∧ sizedMet enc Tryd.prog Tryd.f4 (OpenSpec.ofChange Rows.fnValidIsSpec) false w args)
      (Rows.fnValidIsSpec.post enc Tryd.prog Tryd.f4 false true false false) := by
  refine returnsInHanded_of_change_and (C := Tryd.checked) (X := fun w _ => laidMetH Tryd.prog Rows.fnValidIsRow.laid w) (fun _ _ _ hh h => h.of_heap hh) own1 started (by kernel_rfl) Tryd.func4
    (ChangeSpec.witness_shaped (enc := enc) (C := Tryd.checked) (os := os) (X := fun w _ => laidMetH Tryd.prog Rows.fnValidIsRow.laid w) false (World.doorLaid Tryd.prog 400 os) #[byV 32 0] 8 rfl (World.shaped_of_RefB (by kernel_rfl) (by kernel_rfl)) (by kernel_rfl) (by kernel_rfl) (by kernel_rfl) (fnValidIs_met os _)) ?_
  intro W base args ds gs before hval0 hW _ _ hL _
  have hval : ∀ (j : Nat) t v, Tryd.f4.params[j]? = some t → args[j]? = some v → Value.okWide Tryd.prog W .any base t v := hval0
  have hW' := hW
  obtain ⟨p, q, hA0, hV, rfl, hfz, hnd⟩ := hW
  have hV0 := hV
  have hA : DataW.TrodAll enc Tryd.prog W 0 (fun _ => true) true Tryd.f4.params.toList args.toList ds p := hA0
  rw [Tryd.params4] at hA hval
  obtain ⟨v0, d0, rfl, rfl, h0⟩ := trodAll_one hA
  obtain ⟨g0, rfl⟩ : ∃ g0, gs = [g0] := by
    have hgl := trodVars_len hV0
    match gs, hgl with
    | [g0], _ => exact ⟨g0, rfl⟩
  obtain ⟨u, hu, rfl, rfl⟩ := open_by Tryd.underlying22 Tryd.underlying5 (by kernel_rfl) (by kernel_rfl) (hval 0 22 v0 rfl rfl) h0
  clear hA0 hval0
  refine (main_w (lg_at (laid_at (by kernel_rfl) hL 0 rfl)) hu).mono fun e W' ⟨he, hb⟩ => ?_
  subst he
  exact ⟨_, rfl, ⟨_, _, _, [], _, _, hW', trodAll_mk1 (shut_bool Tryd.underlying4 true), trodAll_mk1 (Below.trod laidOut1 (by kernel_rfl) (of_decide_eq_true (by kernel_rfl)) h0 hb (by simp)), Below.trodVars laidOut1 hb (by kernel_rfl) hV, hb.frame _, fun h => by cases h⟩⟩
theorem fnValidIs_c1 : (Rows.fnValidIsRow.inPlace == Tryd.pinned.checked.prog.inPlace 4) = true := by kernel_rfl
theorem fnValidIs_c2 : (Rows.fnValidIsRow.unfollowed == Tryd.pinned.checked.prog.unfollowed 4) = true := by kernel_rfl
theorem fnValidIs_c3 : (Rows.fnValidIsRow.recurses == Tryd.pinned.checked.prog.recurses 4) = true := by kernel_rfl
theorem fnValidIs_c4 : (Rows.fnValidIsRow.named == Tryd.pinned.checked.prog.varsNamed 4) = true := by kernel_rfl
theorem fnValidIs_c5 : Rows.fnValidIsRow.wf (OpenSpec.ofChange Rows.fnValidIsSpec) = true := by kernel_rfl
theorem fnValidIs_c8 : (Rows.fnValidIsRow.plainKeys == Tryd.pinned.checked.prog.plainKeys) = true := by kernel_rfl
theorem fnValidIs_d1 : (Rows.fnValidIsRow.lifted == Tryd.pinned.checked.prog.liftsFinal) = true := by rw [lifts1]; rfl
theorem fnValidIs_d2 : (Tryd.pinned.checked.prog.make == some Rows.fnValidIsRow.make) = true := by rw [make1]; rfl
theorem looks1 : false = Tryd.pinned.checked.prog.looks [] := by kernel_rfl
theorem fnValidIs_closed : joinedFacts Tryd.pinned.checked.prog 4 Tryd.f4 Rows.fnValidIsSpec Rows.fnValidIsRow = true := by
  delta joinedFacts
  repeat' with_reducible apply and_i
  all_goals first | with_reducible exact fnValidIs_c1 | with_reducible exact fnValidIs_c2 | with_reducible exact fnValidIs_c3 | with_reducible exact fnValidIs_c4 | with_reducible exact fnValidIs_c5 | with_reducible exact c6 | with_reducible exact c7 | with_reducible exact fnValidIs_c8 | with_reducible exact c9 | with_reducible exact may1 | with_reducible exact fnValidIs_d1 | with_reducible exact fnValidIs_d2 | kernel_rfl
theorem fnValidIs_named : Tryd.pinned.checked.prog.funcNamed Rows.fnValidIsRow.func = some 4 := by kernel_rfl
theorem fnValidIs_inst : Tryd.f4.isInstance Tryd.pinned.checked.prog Rows.fnValidIsRow.origin Rows.fnValidIsRow.targs := of_decide_eq_true (by kernel_rfl)
theorem fnValidIs_wrap : Tryd.f4.isWrapper Tryd.pinned.checked.prog Rows.fnValidIsRow.wrapper Rows.fnValidIsRow.mainSum := by unfold Func.isWrapper; first | (rw [if_pos (by decide +kernel)]; kernel_rfl) | (rw [if_neg (by decide +kernel)]; exact ⟨rfl, rfl⟩)
theorem fnValidIs_holds : Rows.FnValidIsSaid :=
  OpenClaim.holds_of_wide 4 Tryd.f4 rfl rfl rfl rfl rfl rfl rfl ⟨rfl, rfl, rfl, rfl, rfl⟩ rfl rfl rfl rfl rfl fnValidIs_named Tryd.func4 fnValidIs_closed
    fnValidIs_inst fnValidIs_wrap
    (fun os started H enc _ => fnValidIs_lifted os started H enc)
theorem fnValidIs_w : Rows.fnValidIsRow.wfByText (OpenSpec.ofChange Rows.fnValidIsSpec) = true := by kernel_rfl
theorem fnValidIs_main1 : Tryd.pinned.checked.prog.mainIs = some (Rows.fnValidIsCard.stood.harness.1, Rows.fnValidIsCard.stood.harness.2.toList) := main1.trans (by kernel_rfl)
theorem fnValidIs_goes : false = Rows.fnValidIsRow.goesBy Tryd.pinned.checked.prog := by kernel_rfl
theorem fnValidIs_har : (!Rows.fnValidIsCard.stood.harness.1 && Rows.fnValidIsCard.stood.harness.2.isEmpty && !false) = false := by kernel_rfl
theorem fnValidIs_hl : ∀ f fn, Tryd.pinned.checked.prog.funcNamed Rows.fnValidIsRow.func = some f → Tryd.pinned.checked.prog.funcs[f]? = some fn → false = Tryd.pinned.checked.prog.looks [] ∧ ∀ (j : Nat) t, fn.params[j]? = some t → Tryd.pinned.checked.prog.wantsStandIn t = false := fun f fn hf hfn => by
  obtain rfl : f = 4 := (Option.some.inj (fnValidIs_named.symm.trans hf)).symm
  obtain rfl : fn = Tryd.f4 := (Option.some.inj (Tryd.func4.symm.trans hfn)).symm
  exact ⟨looks1, fun j t ht => by
    rw [Tryd.params4] at ht
    have hm : t ∈ [22] := by simpa using Array.mem_of_getElem? ht
    have hall : ([22].all fun u => !Tryd.pinned.checked.prog.wantsStandIn u) = true := by kernel_rfl
    exact (show Tryd.pinned.checked.prog.wantsStandIn t = false by simpa using List.all_eq_true.1 hall t hm)⟩
theorem fnValidIsCard_holds : Rows.FnValidIsCardSaid :=
  Claim7.holds_tied_plain_at .later [] Rows.fnValidIsCard.laidKinds true Rows.fnValidIsCard.stood.harness false
    fnValidIs_holds (fun _ h => by cases h) fnValidIs_w (fun _ h => by cases h) fnValidIs_row_tie rfl ⟨rfl, rfl⟩ fnValidIs_main1 fnValidIs_har fnValidIs_hl fnValidIs_goes
#print axioms fnValidIsCard_holds
end Go.Proofs.YteehdjkmjncehaaDoor
