/-
  FnNegIs: impl.Neg of every element is its opposite: the law answers true.
  Conditions: the package variables that the row lists read as listed (the card ties them to the program's text).
-/
import Derived.Test.YteehdjkmjncehaaDoorIz
import Derived.Test.YteehdjkmjncehaaDoorTie
import Derived.Test.YteehdjkmjncehaaDoorCards
import Derived.SevenTiedAt
namespace Go.Proofs.YteehdjkmjncehaaDoor
open Go.ChangeShapes Go.WideShapes Go.ChangeAt Go.WideElems Go.RowKit
theorem neg53N (a : Nat) (ha : a < 2 ^ 256) : Pure Tryd.prog 23 #[nV a] (nV (subN 0 a)) := by
  have h := neg53 a ha
  unfold subN
  rw [Nat.zero_add, Nat.mod_mod]; exact h
set_option maxRecDepth 100000 in
set_option maxHeartbeats 1600000 in
theorem main_w {x : Nat} {w : World} (hp : PG w) (hx : x < 2 ^ 256) :
    Calls Tryd.prog 6 #[byV 32 x] w fun e w' => e = .returned (.bool true) ∧ Below w.heap.size w w' := by
  refine calls_H (args := [byV 32 x]) noD [] Tryd.func6 rfl (m := 9) rfl rfl (hold_nil _ _) ?_
  refine HC.seq ?_
  refine HC.region ?_
  refine HL.new (New.box rfl) (by decide) ?_
  intro b1 hb1
  refine HL.val (Val.assign rfl) (by decide) ?_
  refine HL.nil ?_
  refine HQ.next ?_
  refine HC.seq ?_
  refine HC.draw0 6 (by kernel_rfl) (by kernel_rfl) ?_
  simp only [List.take, List.drop]
  refine HV.val (Val.load_row rfl (fun w hw => hw.at (i := 0) rfl) Tryd.underlying22 rfl (sz22 _)) (by decide) ?_
  refine HV.val (Val.calls en22 (fun w hw => implNeg (hp.sn hw.sn rfl) hx) rfl) (by decide) ?_
  refine HV.val (Val.load_row rfl (fun w hw => hw.at (i := 0) rfl) Tryd.underlying22 rfl (sz22 _)) (by decide) ?_
  refine HV.val (Val.call en10 (of23 x) rfl) (by decide) ?_
  refine HV.val (Val.call en23 (neg53N x hx) rfl) (by decide) ?_
  refine HV.val (Val.call en16 (is20T ((subN 0 x)) (lt_256_32 (sub256 _ _))) rfl) (by decide) ?_
  refine HV.tail0 ?_
  refine HL.val (Val.assign rfl) (by decide) ?_
  refine HL.nil ?_
  refine HQ.next ?_
  refine HC.ret ?_
  exact HQ.ret1 rfl rfl (pure_end rfl)
set_option maxRecDepth 100000 in
theorem fnNegIs_met (os : Os) (args : Array Value) : laidMetH Tryd.prog Rows.fnNegIsRow.laid ((World.doorLaid Tryd.prog 400 os).forCall (fun _ _ => 0) ⟨#[], args, []⟩).memory :=
  laidMetH_of_parts3 (fuel := 8) (laidMet_of_run' 8 (by kernel_rfl) (by kernel_rfl)) (by kernel_rfl) (by kernel_rfl)
set_option maxRecDepth 100000 in
theorem fnNegIs_lifted (os : Os) (started : os.Started) (H : Type) (enc : TypeId × Value → H) :
    ReturnsInHanded {} Tryd.checked os 6 .any (fun w args => (Rows.fnNegIsSpec.pre enc Tryd.prog Tryd.f6 [] false w args ∧ laidMetH Tryd.prog Rows.fnNegIsRow.laid w) ∧ sizedMet enc Tryd.prog Tryd.f6 (OpenSpec.ofChange Rows.fnNegIsSpec) false w args)
      (Rows.fnNegIsSpec.post enc Tryd.prog Tryd.f6 false true false false) := by
  refine returnsInHanded_of_change_and (C := Tryd.checked) (X := fun w _ => laidMetH Tryd.prog Rows.fnNegIsRow.laid w) (fun _ _ _ hh h => h.of_heap hh) own1 started (by kernel_rfl) Tryd.func6
    (ChangeSpec.witness_shaped (enc := enc) (C := Tryd.checked) (os := os) (X := fun w _ => laidMetH Tryd.prog Rows.fnNegIsRow.laid w) false (World.doorLaid Tryd.prog 400 os) #[byV 32 0] 8 rfl (World.shaped_of_RefB (by kernel_rfl) (by kernel_rfl)) (by kernel_rfl) (by kernel_rfl) (by kernel_rfl) (fnNegIs_met os _)) ?_
  intro W base args ds gs before hval0 hW _ _ hL _
  have hval : ∀ (j : Nat) t v, Tryd.f6.params[j]? = some t → args[j]? = some v → Value.okWide Tryd.prog W .any base t v := hval0
  have hW' := hW
  obtain ⟨p, q, hA0, hV, rfl, hfz, hnd⟩ := hW
  have hV0 := hV
  have hA : DataW.TrodAll enc Tryd.prog W 0 (fun _ => true) true Tryd.f6.params.toList args.toList ds p := hA0
  rw [Tryd.params6] at hA hval
  obtain ⟨v0, d0, rfl, rfl, h0⟩ := trodAll_one hA
  obtain ⟨g0, rfl⟩ : ∃ g0, gs = [g0] := by
    have hgl := trodVars_len hV0
    match gs, hgl with
    | [g0], _ => exact ⟨g0, rfl⟩
  obtain ⟨x, hx, rfl, rfl⟩ := open_by Tryd.underlying22 Tryd.underlying5 (by kernel_rfl) (by kernel_rfl) (hval 0 22 v0 rfl rfl) h0
  clear hA0 hval0
  refine (main_w (pg_at (laid_at (by kernel_rfl) hL 0 rfl)) hx).mono fun e W' ⟨he, hb⟩ => ?_
  subst he
  exact ⟨_, rfl, ⟨_, _, _, [], _, _, hW', trodAll_mk1 (shut_bool Tryd.underlying4 true), trodAll_mk1 (Below.trod laidOut1 (by kernel_rfl) (of_decide_eq_true (by kernel_rfl)) h0 hb (by simp)), Below.trodVars laidOut1 hb (by kernel_rfl) hV, hb.frame _, fun h => by cases h⟩⟩
theorem fnNegIs_c1 : (Rows.fnNegIsRow.inPlace == Tryd.pinned.checked.prog.inPlace 6) = true := by kernel_rfl
theorem fnNegIs_c2 : (Rows.fnNegIsRow.unfollowed == Tryd.pinned.checked.prog.unfollowed 6) = true := by kernel_rfl
theorem fnNegIs_c3 : (Rows.fnNegIsRow.recurses == Tryd.pinned.checked.prog.recurses 6) = true := by kernel_rfl
theorem fnNegIs_c4 : (Rows.fnNegIsRow.named == Tryd.pinned.checked.prog.varsNamed 6) = true := by kernel_rfl
theorem fnNegIs_c5 : Rows.fnNegIsRow.wf (OpenSpec.ofChange Rows.fnNegIsSpec) = true := by kernel_rfl
theorem fnNegIs_c8 : (Rows.fnNegIsRow.plainKeys == Tryd.pinned.checked.prog.plainKeys) = true := by kernel_rfl
theorem fnNegIs_d1 : (Rows.fnNegIsRow.lifted == Tryd.pinned.checked.prog.liftsFinal) = true := by rw [lifts1]; rfl
theorem fnNegIs_d2 : (Tryd.pinned.checked.prog.make == some Rows.fnNegIsRow.make) = true := by rw [make1]; rfl
theorem looks1 : false = Tryd.pinned.checked.prog.looks [] := by kernel_rfl
theorem fnNegIs_closed : joinedFacts Tryd.pinned.checked.prog 6 Tryd.f6 Rows.fnNegIsSpec Rows.fnNegIsRow = true := by
  delta joinedFacts
  repeat' with_reducible apply and_i
  all_goals first | with_reducible exact fnNegIs_c1 | with_reducible exact fnNegIs_c2 | with_reducible exact fnNegIs_c3 | with_reducible exact fnNegIs_c4 | with_reducible exact fnNegIs_c5 | with_reducible exact c6 | with_reducible exact c7 | with_reducible exact fnNegIs_c8 | with_reducible exact c9 | with_reducible exact may1 | with_reducible exact fnNegIs_d1 | with_reducible exact fnNegIs_d2 | kernel_rfl
theorem fnNegIs_named : Tryd.pinned.checked.prog.funcNamed Rows.fnNegIsRow.func = some 6 := by kernel_rfl
theorem fnNegIs_inst : Tryd.f6.isInstance Tryd.pinned.checked.prog Rows.fnNegIsRow.origin Rows.fnNegIsRow.targs := of_decide_eq_true (by kernel_rfl)
theorem fnNegIs_wrap : Tryd.f6.isWrapper Tryd.pinned.checked.prog Rows.fnNegIsRow.wrapper Rows.fnNegIsRow.mainSum := by unfold Func.isWrapper; first | (rw [if_pos (by decide +kernel)]; kernel_rfl) | (rw [if_neg (by decide +kernel)]; exact ⟨rfl, rfl⟩)
theorem fnNegIs_holds : Rows.FnNegIsSaid :=
  OpenClaim.holds_of_wide 6 Tryd.f6 rfl rfl rfl rfl rfl rfl rfl ⟨rfl, rfl, rfl, rfl, rfl⟩ rfl rfl rfl rfl rfl fnNegIs_named Tryd.func6 fnNegIs_closed
    fnNegIs_inst fnNegIs_wrap
    (fun os started H enc _ => fnNegIs_lifted os started H enc)
theorem fnNegIs_w : Rows.fnNegIsRow.wfByText (OpenSpec.ofChange Rows.fnNegIsSpec) = true := by kernel_rfl
theorem fnNegIs_main1 : Tryd.pinned.checked.prog.mainIs = some (Rows.fnNegIsCard.stood.harness.1, Rows.fnNegIsCard.stood.harness.2.toList) := main1.trans (by kernel_rfl)
theorem fnNegIs_goes : false = Rows.fnNegIsRow.goesBy Tryd.pinned.checked.prog := by kernel_rfl
theorem fnNegIs_har : (!Rows.fnNegIsCard.stood.harness.1 && Rows.fnNegIsCard.stood.harness.2.isEmpty && !false) = false := by kernel_rfl
theorem fnNegIs_hl : ∀ f fn, Tryd.pinned.checked.prog.funcNamed Rows.fnNegIsRow.func = some f → Tryd.pinned.checked.prog.funcs[f]? = some fn → false = Tryd.pinned.checked.prog.looks [] ∧ ∀ (j : Nat) t, fn.params[j]? = some t → Tryd.pinned.checked.prog.wantsStandIn t = false := fun f fn hf hfn => by
  obtain rfl : f = 6 := (Option.some.inj (fnNegIs_named.symm.trans hf)).symm
  obtain rfl : fn = Tryd.f6 := (Option.some.inj (Tryd.func6.symm.trans hfn)).symm
  exact ⟨looks1, fun j t ht => by
    rw [Tryd.params6] at ht
    have hm : t ∈ [22] := by simpa using Array.mem_of_getElem? ht
    have hall : ([22].all fun u => !Tryd.pinned.checked.prog.wantsStandIn u) = true := by kernel_rfl
    exact (show Tryd.pinned.checked.prog.wantsStandIn t = false by simpa using List.all_eq_true.1 hall t hm)⟩
theorem fnNegIsCard_holds : Rows.FnNegIsCardSaid :=
  Claim7.holds_tied_plain_at .later [] Rows.fnNegIsCard.laidKinds true Rows.fnNegIsCard.stood.harness false
    fnNegIs_holds (fun _ h => by cases h) fnNegIs_w (fun _ h => by cases h) fnNegIs_row_tie rfl ⟨rfl, rfl⟩ fnNegIs_main1 fnNegIs_har fnNegIs_hl fnNegIs_goes
#print axioms fnNegIsCard_holds
end Go.Proofs.YteehdjkmjncehaaDoor
