/-
  FnTells: which elements are 0, and what 1 and the prime are, is told as in the reference: the law answers true.
  Conditions: the package variables that the row lists read as listed (the card ties them to the program's text).
-/
import Derived.Test.YteehdjkmjncehaaDoorIz
import Derived.Test.YteehdjkmjncehaaDoorTie
import Derived.Test.YteehdjkmjncehaaDoorCards
import Derived.SevenTiedAt
namespace Go.Proofs.YteehdjkmjncehaaDoor
open Go.ChangeShapes Go.WideShapes Go.ChangeAt Go.WideElems Go.RowKit
set_option maxRecDepth 100000 in
set_option maxHeartbeats 1600000 in
theorem main_w {x : Nat} {w : World} (hp : PG w) (hx : x < 2 ^ 256) :
    Calls Tryd.prog 3 #[byV 32 x] w fun e w' => e = .returned (.bool true) ∧ Below w.heap.size w w' := by
  refine calls_H (args := [byV 32 x]) noD [] Tryd.func3 rfl (m := 28) rfl rfl (hold_nil _ _) ?_
  refine HC.seq ?_
  refine HC.region ?_
  refine HL.new (New.box rfl) (by decide) ?_
  intro b1 hb1
  refine HL.val (Val.assign rfl) (by decide) ?_
  refine HL.nil ?_
  refine HQ.next ?_
  refine HC.seq ?_
  refine HC.region ?_
  refine HL.val (Val.load_row rfl (fun w hw => hw.at (i := 0) rfl) Tryd.underlying22 rfl (sz22 _)) (by decide) ?_
  refine HL.val (Val.call en10 (of23 x) rfl) (by decide) ?_
  refine HL.val (Val.call en9 (mod22 x hx) rfl) (by decide) ?_
  refine HL.new (New.alloc al25) (by decide) ?_
  intro b2 hb2
  refine HL.put 0 rfl (Put.row rfl rfl (sz25 _) (eqszN _ _ 16) (oneN 16 _)) (.inl hb2) ?_
  simp only [List.set_cons_zero]
  refine HL.nil ?_
  refine HQ.next ?_
  refine HC.seq ?_
  refine HC.draw0 21 (by kernel_rfl) (by kernel_rfl) ?_
  simp only [List.take, List.drop]
  refine HV.val (Val.load_row rfl (fun w hw => hw.at (i := 1) rfl) Tryd.underlying22 rfl (sz22 _)) (by decide) ?_
  refine HV.val (Val.call en11 (implIsZero x hx) rfl) (by decide) ?_
  refine HV.val (Val.load_row rfl (fun w hw => hw.at (i := 0) rfl) Tryd.underlying25 rfl (sz25 _)) (by decide) ?_
  refine HV.val (Val.build rfl bz25) (by decide) ?_
  refine HV.val (Val.eqlA rfl rfl (by kernel_rfl) (eqlN ((x % p25)) 0 (lt256 _) (by decide))) (by decide) ?_
  refine HV.val ((Val.eqlBool rfl rfl Tryd.underlying4).as (congrArg Value.bool (beq_self_eq_true (decide (x % p25 = 0))))) (by decide) ?_
  refine HV.val (Val.move rfl) (by decide) ?_
  refine HV.valg rfl (Val.call en13 (p65) rfl) (by decide) ?_
  refine HV.valg rfl (Val.call en12 (bytes25 p25) rfl) (by decide) ?_
  refine HV.valg rfl ((Val.call en11 (implIsZero p25 p25_lt) rfl).as (congrArg Value.bool (decide_eq_true (Nat.mod_self _)))) (by decide) ?_
  refine HV.val (Val.pickT rfl rfl) (by decide) ?_
  refine HV.val (Val.move rfl) (by decide) ?_
  refine HV.valg rfl (Val.call en14 (implOne) rfl) (by decide) ?_
  refine HV.valg rfl (Val.call en15 (one28) rfl) (by decide) ?_
  refine HV.valg rfl ((Val.eqlA rfl rfl (by kernel_rfl) (eql22 1 1 (lt_256_32 (by decide)) (lt_256_32 (by decide)))).as (congrArg Value.bool (decide_eq_true rfl))) (by decide) ?_
  refine HV.val (Val.pickT rfl rfl) (by decide) ?_
  refine HV.val (Val.move rfl) (by decide) ?_
  refine HV.valg rfl (Val.calls en17 (fun w hw => implP (hp.sn hw.sn rfl)) rfl) (by decide) ?_
  refine HV.valg rfl (Val.call en13 (p65) rfl) (by decide) ?_
  refine HV.valg rfl (Val.call en16 (is20T p25 (lt_256_32 p25_lt)) rfl) (by decide) ?_
  refine HV.val (Val.pickT rfl rfl) (by decide) ?_
  refine HV.tail0 ?_
  refine HL.val (Val.assign rfl) (by decide) ?_
  refine HL.nil ?_
  refine HQ.next ?_
  refine HC.ret ?_
  exact HQ.ret1 rfl rfl (pure_end rfl)
set_option maxRecDepth 100000 in
theorem fnTells_met (os : Os) (args : Array Value) : laidMetH Tryd.prog Rows.fnTellsRow.laid ((World.doorLaid Tryd.prog 400 os).forCall (fun _ _ => 0) ⟨#[], args, []⟩).memory :=
  laidMetH_of_parts3 (fuel := 8) (laidMet_of_run' 8 (by kernel_rfl) (by kernel_rfl)) (by kernel_rfl) (by kernel_rfl)
set_option maxRecDepth 100000 in
theorem fnTells_lifted (os : Os) (started : os.Started) (H : Type) (enc : TypeId × Value → H) :
    ReturnsInHanded {} Tryd.checked os 3 .any (fun w args => (Rows.fnTellsSpec.pre enc Tryd.prog Tryd.f3 [] false w args ∧ laidMetH Tryd.prog Rows.fnTellsRow.laid w) ∧ sizedMet enc Tryd.prog Tryd.f3 (OpenSpec.ofChange Rows.fnTellsSpec) false w args)
      (Rows.fnTellsSpec.post enc Tryd.prog Tryd.f3 false true false false) := by
  refine returnsInHanded_of_change_and (C := Tryd.checked) (X := fun w _ => laidMetH Tryd.prog Rows.fnTellsRow.laid w) (fun _ _ _ hh h => h.of_heap hh) own1 started (by kernel_rfl) Tryd.func3
    (ChangeSpec.witness_shaped (enc := enc) (C := Tryd.checked) (os := os) (X := fun w _ => laidMetH Tryd.prog Rows.fnTellsRow.laid w) false (World.doorLaid Tryd.prog 400 os) #[byV 32 0] 8 rfl (World.shaped_of_RefB (by kernel_rfl) (by kernel_rfl)) (by kernel_rfl) (by kernel_rfl) (by kernel_rfl) (fnTells_met os _)) ?_
  intro W base args ds gs before hval0 hW _ _ hL _
  have hval : ∀ (j : Nat) t v, Tryd.f3.params[j]? = some t → args[j]? = some v → Value.okWide Tryd.prog W .any base t v := hval0
  have hW' := hW
  obtain ⟨p, q, hA0, hV, rfl, hfz, hnd⟩ := hW
  have hV0 := hV
  have hA : DataW.TrodAll enc Tryd.prog W 0 (fun _ => true) true Tryd.f3.params.toList args.toList ds p := hA0
  rw [Tryd.params3] at hA hval
  obtain ⟨v0, d0, rfl, rfl, h0⟩ := trodAll_one hA
  obtain ⟨g0, rfl⟩ : ∃ g0, gs = [g0] := by
    have hgl := trodVars_len hV0
    match gs, hgl with
    | [g0], _ => exact ⟨g0, rfl⟩
  obtain ⟨x, hx, rfl, rfl⟩ := open_by Tryd.underlying22 Tryd.underlying5 (by kernel_rfl) (by kernel_rfl) (hval 0 22 v0 rfl rfl) h0
  clear hA0 hval0
  refine (main_w (pg_at (laid_at (by kernel_rfl) hL 0 rfl)) hx).mono fun e W' ⟨he, hb⟩ => ?_
  subst he
  exact ⟨_, rfl, ⟨_, _, _, [], _, _, hW', trodAll_mk1 (shut_bool Tryd.underlying4 true), trodAll_mk1 (Below.trod laidOut1 (by kernel_rfl) (of_decide_eq_true (by kernel_rfl)) h0 hb (by simp)), Below.trodVars laidOut1 hb (by kernel_rfl) hV, hb.frame _, fun h => by cases h⟩⟩
theorem fnTells_c1 : (Rows.fnTellsRow.inPlace == Tryd.pinned.checked.prog.inPlace 3) = true := by kernel_rfl
theorem fnTells_c2 : (Rows.fnTellsRow.unfollowed == Tryd.pinned.checked.prog.unfollowed 3) = true := by kernel_rfl
theorem fnTells_c3 : (Rows.fnTellsRow.recurses == Tryd.pinned.checked.prog.recurses 3) = true := by kernel_rfl
theorem fnTells_c4 : (Rows.fnTellsRow.named == Tryd.pinned.checked.prog.varsNamed 3) = true := by kernel_rfl
theorem fnTells_c5 : Rows.fnTellsRow.wf (OpenSpec.ofChange Rows.fnTellsSpec) = true := by kernel_rfl
theorem fnTells_c8 : (Rows.fnTellsRow.plainKeys == Tryd.pinned.checked.prog.plainKeys) = true := by kernel_rfl
theorem fnTells_d1 : (Rows.fnTellsRow.lifted == Tryd.pinned.checked.prog.liftsFinal) = true := by rw [lifts1]; rfl
theorem fnTells_d2 : (Tryd.pinned.checked.prog.make == some Rows.fnTellsRow.make) = true := by rw [make1]; rfl
theorem looks1 : false = Tryd.pinned.checked.prog.looks [] := by kernel_rfl
theorem fnTells_closed : joinedFacts Tryd.pinned.checked.prog 3 Tryd.f3 Rows.fnTellsSpec Rows.fnTellsRow = true := by
  delta joinedFacts
  repeat' with_reducible apply and_i
  all_goals first | with_reducible exact fnTells_c1 | with_reducible exact fnTells_c2 | with_reducible exact fnTells_c3 | with_reducible exact fnTells_c4 | with_reducible exact fnTells_c5 | with_reducible exact c6 | with_reducible exact c7 | with_reducible exact fnTells_c8 | with_reducible exact c9 | with_reducible exact may1 | with_reducible exact fnTells_d1 | with_reducible exact fnTells_d2 | kernel_rfl
theorem fnTells_named : Tryd.pinned.checked.prog.funcNamed Rows.fnTellsRow.func = some 3 := by kernel_rfl
theorem fnTells_inst : Tryd.f3.isInstance Tryd.pinned.checked.prog Rows.fnTellsRow.origin Rows.fnTellsRow.targs := of_decide_eq_true (by kernel_rfl)
theorem fnTells_wrap : Tryd.f3.isWrapper Tryd.pinned.checked.prog Rows.fnTellsRow.wrapper Rows.fnTellsRow.mainSum := by unfold Func.isWrapper; first | (rw [if_pos (by decide +kernel)]; kernel_rfl) | (rw [if_neg (by decide +kernel)]; exact ⟨rfl, rfl⟩)
theorem fnTells_holds : Rows.FnTellsSaid :=
  OpenClaim.holds_of_wide 3 Tryd.f3 rfl rfl rfl rfl rfl rfl rfl ⟨rfl, rfl, rfl, rfl, rfl⟩ rfl rfl rfl rfl rfl fnTells_named Tryd.func3 fnTells_closed
    fnTells_inst fnTells_wrap
    (fun os started H enc _ => fnTells_lifted os started H enc)
theorem fnTells_w : Rows.fnTellsRow.wfByText (OpenSpec.ofChange Rows.fnTellsSpec) = true := by kernel_rfl
theorem fnTells_main1 : Tryd.pinned.checked.prog.mainIs = some (Rows.fnTellsCard.stood.harness.1, Rows.fnTellsCard.stood.harness.2.toList) := main1.trans (by kernel_rfl)
theorem fnTells_goes : false = Rows.fnTellsRow.goesBy Tryd.pinned.checked.prog := by kernel_rfl
theorem fnTells_har : (!Rows.fnTellsCard.stood.harness.1 && Rows.fnTellsCard.stood.harness.2.isEmpty && !false) = false := by kernel_rfl
theorem fnTells_hl : ∀ f fn, Tryd.pinned.checked.prog.funcNamed Rows.fnTellsRow.func = some f → Tryd.pinned.checked.prog.funcs[f]? = some fn → false = Tryd.pinned.checked.prog.looks [] ∧ ∀ (j : Nat) t, fn.params[j]? = some t → Tryd.pinned.checked.prog.wantsStandIn t = false := fun f fn hf hfn => by
  obtain rfl : f = 3 := (Option.some.inj (fnTells_named.symm.trans hf)).symm
  obtain rfl : fn = Tryd.f3 := (Option.some.inj (Tryd.func3.symm.trans hfn)).symm
  exact ⟨looks1, fun j t ht => by
    rw [Tryd.params3] at ht
    have hm : t ∈ [22] := by simpa using Array.mem_of_getElem? ht
    have hall : ([22].all fun u => !Tryd.pinned.checked.prog.wantsStandIn u) = true := by kernel_rfl
    exact (show Tryd.pinned.checked.prog.wantsStandIn t = false by simpa using List.all_eq_true.1 hall t hm)⟩
theorem fnTellsCard_holds : Rows.FnTellsCardSaid :=
  Claim7.holds_tied_plain_at .later [] Rows.fnTellsCard.laidKinds true Rows.fnTellsCard.stood.harness false
    fnTells_holds (fun _ h => by cases h) fnTells_w (fun _ h => by cases h) fnTells_row_tie rfl ⟨rfl, rfl⟩ fnTells_main1 fnTells_har fnTells_hl fnTells_goes
#print axioms fnTellsCard_holds
end Go.Proofs.YteehdjkmjncehaaDoor
