/-
  FnInv128: whatever the input, the law answers true (written by laws2.py).
  Conditions: the package variables that the row lists read as listed (the card ties them to the program's text).
-/
import Derived.Test.YtgdfdkpkhjbibaaDoorFp7
import Derived.Test.YtgdfdkpkhjbibaaDoorTie
import Derived.Test.YtgdfdkpkhjbibaaDoorCards
import Derived.SevenTiedAt
namespace Go.Proofs.YtgdfdkpkhjbibaaDoor
open Go.ChangeShapes Go.WideShapes Go.ChangeAt Go.WideElems Go.RowKit
set_option maxRecDepth 100000 in
theorem main_w {x : Nat} {w : World} (hg : GR w) (ht : RT w) (hBx : x < 256 ^ 16) :
    Calls Tryd.prog 16 #[byV 16 x] w fun e w' => e = .returned (.bool true) ∧ Below w.heap.size w w' := by
  by_cases hx : x < pf
  · by_cases h0 : x = 0
    · refine calls_H (args := [byV 16 x]) noD [] Tryd.func16 rfl (m := 41) rfl rfl (hold_nil _ _) ?_
      refine HC.seq ?_
      refine HC.region ?_
      refine HL.new (New.box rfl) (by decide) ?_
      intro b1 hb1
      refine HL.val (Val.assign rfl) (by decide) ?_
      refine HL.nil ?_
      refine HQ.next ?_
      refine HC.seq ?_
      refine HC.seq ?_
      refine HC.region ?_
      refine HL.val (Val.load_row rfl (fun w hw => hw.at (i := 0) rfl) Tryd.underlying30 rfl (by kernel_rfl)) (by decide) ?_
      refine HL.new (New.bslice rfl Tryd.underlying47 (by kernel_rfl) info30 (by decide) (by decide) (fill1 x)) (by decide) ?_
      intro b2 hb2
      refine HL.val ((Val.calls en25 (fun w hw => has_any (l := [x]) (hw.at (i := 0) rfl) (fun k hk => by match k, hk with | 0, _ => exact (pf_by hx)) (show 1 < 4611686018427387904 from by decide)) rfl).as (v := .bool true) (congrArg Value.bool (by simpa using hx))) (by decide) ?_
      refine HL.val (Val.not rfl) (by decide) ?_
      refine HL.val (Val.move rfl) (by decide) ?_
      refine HL.valg rfl (Val.load_row rfl (fun w hw => hw.at (i := 1) rfl) Tryd.underlying30 rfl (by kernel_rfl)) (by decide) ?_
      refine HL.valg rfl (Val.build rfl built_by0) (by decide) ?_
      refine HL.valg rfl ((Val.eqlA rfl rfl (by kernel_rfl) (eqlB (pf_by hx) (by decide))).as (congrArg Value.bool (decide_eq_true h0))) (by decide) ?_
      refine HL.val (Val.pickF rfl rfl) (by decide) ?_
      refine HL.nil ?_
      refine HQ.next ?_
      refine HC.yes rfl ?_
      refine HC.seq ?_
      refine HC.region ?_
      refine HL.val (Val.assign rfl) (by decide) ?_
      refine HL.nil ?_
      refine HQ.next ?_
      refine HC.ret ?_
      refine HQ.thenRet ?_
      exact HQ.ret1 rfl rfl (pure_end rfl)
    · refine calls_H (args := [byV 16 x]) noD [] Tryd.func16 rfl (m := 41) rfl rfl (hold_nil _ _) ?_
      refine HC.seq ?_
      refine HC.region ?_
      refine HL.new (New.box rfl) (by decide) ?_
      intro b1 hb1
      refine HL.val (Val.assign rfl) (by decide) ?_
      refine HL.nil ?_
      refine HQ.next ?_
      refine HC.seq ?_
      refine HC.seq ?_
      refine HC.region ?_
      refine HL.val (Val.load_row rfl (fun w hw => hw.at (i := 0) rfl) Tryd.underlying30 rfl (by kernel_rfl)) (by decide) ?_
      refine HL.new (New.bslice rfl Tryd.underlying47 (by kernel_rfl) info30 (by decide) (by decide) (fill1 x)) (by decide) ?_
      intro b2 hb2
      refine HL.val ((Val.calls en25 (fun w hw => has_any (l := [x]) (hw.at (i := 0) rfl) (fun k hk => by match k, hk with | 0, _ => exact (pf_by hx)) (show 1 < 4611686018427387904 from by decide)) rfl).as (v := .bool true) (congrArg Value.bool (by simpa using hx))) (by decide) ?_
      refine HL.val (Val.not rfl) (by decide) ?_
      refine HL.val (Val.move rfl) (by decide) ?_
      refine HL.valg rfl (Val.load_row rfl (fun w hw => hw.at (i := 1) rfl) Tryd.underlying30 rfl (by kernel_rfl)) (by decide) ?_
      refine HL.valg rfl (Val.build rfl built_by0) (by decide) ?_
      refine HL.valg rfl ((Val.eqlA rfl rfl (by kernel_rfl) (eqlB (pf_by hx) (by decide))).as (congrArg Value.bool (decide_eq_false h0))) (by decide) ?_
      refine HL.val (Val.pickF rfl rfl) (by decide) ?_
      refine HL.nil ?_
      refine HQ.next ?_
      refine HC.no rfl ?_
      refine HC.skip ?_
      refine HQ.next ?_
      refine HC.seq ?_
      refine HC.region ?_
      refine HL.val (Val.load_row rfl (fun w hw => hw.at (i := 1) rfl) Tryd.underlying30 rfl (by kernel_rfl)) (by decide) ?_
      refine HL.val (Val.calls en54 (fun w hw => inv_good (hg.sn hw.sn rfl) hx) rfl) (by decide) ?_
      refine HL.val (Val.move rfl) (by decide) ?_
      refine HL.val (Val.extract rfl rfl) (by decide) ?_
      refine HL.val (Val.extract rfl rfl) (by decide) ?_
      refine HL.new (New.alloc al30) (by decide) ?_
      intro b3 hb3
      refine HL.put 0 rfl (Put.row rfl rfl (by kernel_rfl) (szB _ _ _) (oneB _ _)) (.inl hb3) ?_
      simp only [List.set_cons_zero]
      refine HL.val (Val.assign rfl) (by decide) ?_
      refine HL.nil ?_
      refine HQ.next ?_
      refine HC.seq ?_
      refine HC.region ?_
      refine HL.val (Val.load_row rfl (fun w hw => hw.at (i := 2) rfl) Tryd.underlying30 rfl (by kernel_rfl)) (by decide) ?_
      refine HL.val (Val.load_row rfl (fun w hw => hw.at (i := 0) rfl) Tryd.underlying30 rfl (by kernel_rfl)) (by decide) ?_
      refine HL.val (Val.calls en33 (fun w hw => iMulTT (hg.sn hw.sn rfl) hx (pwX_lt _ _)) rfl) (by decide) ?_
      refine HL.val (Val.move rfl) (by decide) ?_
      refine HL.val (Val.extract rfl rfl) (by decide) ?_
      refine HL.val (Val.extract rfl rfl) (by decide) ?_
      refine HL.new (New.alloc al30) (by decide) ?_
      intro b4 hb4
      refine HL.put 0 rfl (Put.row rfl rfl (by kernel_rfl) (szB _ _ _) (oneB _ _)) (.inl hb4) ?_
      simp only [List.set_cons_zero]
      refine HL.val (Val.assign rfl) (by decide) ?_
      refine HL.nil ?_
      refine HQ.next ?_
      refine HC.seq ?_
      refine HC.draw0 14 (by kernel_rfl) (by kernel_rfl) ?_
      simp only [List.take, List.drop]
      refine HV.val (Val.move rfl) (by decide) ?_
      refine HV.val (Val.move rfl) (by decide) ?_
      refine HV.valg rfl (Val.move rfl) (by decide) ?_
      refine HV.val (Val.pickT rfl rfl) (by decide) ?_
      refine HV.val (Val.move rfl) (by decide) ?_
      refine HV.valg rfl (Val.load_row rfl (fun w hw => hw.at (i := 0) rfl) Tryd.underlying30 rfl (by kernel_rfl)) (by decide) ?_
      refine HV.valg rfl (Val.calls en48 (fun w hw => one_good (ht.sn hw.sn rfl)) rfl) (by decide) ?_
      refine HV.valg rfl ((Val.eqlA rfl rfl (by kernel_rfl) (eqlB (pf_by (Nat.mod_lt _ pf_pos)) (pf_by (rt_lt (by decide))))).as (congrArg Value.bool (decide_eq_true (by rw [inv_mul hx h0, rt_0])))) (by decide) ?_
      refine HV.val (Val.pickT rfl rfl) (by decide) ?_
      refine HV.val (Val.move rfl) (by decide) ?_
      refine HV.valg rfl (Val.load_row rfl (fun w hw => hw.at (i := 0) rfl) Tryd.underlying30 rfl (by kernel_rfl)) (by decide) ?_
      refine HV.valg rfl (Val.build rfl built_by1) (by decide) ?_
      refine HV.valg rfl ((Val.eqlA rfl rfl (by kernel_rfl) (eqlB (pf_by (Nat.mod_lt _ pf_pos)) (by decide))).as (congrArg Value.bool (decide_eq_true (inv_mul hx h0)))) (by decide) ?_
      refine HV.val (Val.pickT rfl rfl) (by decide) ?_
      refine HV.tail0 ?_
      refine HL.val (Val.assign rfl) (by decide) ?_
      refine HL.nil ?_
      refine HQ.next ?_
      refine HC.ret ?_
      exact HQ.ret1 rfl rfl (pure_end rfl)
  · refine calls_H (args := [byV 16 x]) noD [] Tryd.func16 rfl (m := 41) rfl rfl (hold_nil _ _) ?_
    refine HC.seq ?_
    refine HC.region ?_
    refine HL.new (New.box rfl) (by decide) ?_
    intro b1 hb1
    refine HL.val (Val.assign rfl) (by decide) ?_
    refine HL.nil ?_
    refine HQ.next ?_
    refine HC.seq ?_
    refine HC.seq ?_
    refine HC.region ?_
    refine HL.val (Val.load_row rfl (fun w hw => hw.at (i := 0) rfl) Tryd.underlying30 rfl (by kernel_rfl)) (by decide) ?_
    refine HL.new (New.bslice rfl Tryd.underlying47 (by kernel_rfl) info30 (by decide) (by decide) (fill1 x)) (by decide) ?_
    intro b2 hb2
    refine HL.val ((Val.calls en25 (fun w hw => has_any (l := [x]) (hw.at (i := 0) rfl) (fun k hk => by match k, hk with | 0, _ => exact hBx) (show 1 < 4611686018427387904 from by decide)) rfl).as (v := .bool false) (congrArg Value.bool (by simpa using hx))) (by decide) ?_
    refine HL.val (Val.not rfl) (by decide) ?_
    refine HL.val (Val.move rfl) (by decide) ?_
    refine HL.skip rfl (by decide) ?_
    refine HL.skip rfl (by decide) ?_
    refine HL.skip rfl (by decide) ?_
    refine HL.val (Val.pickT rfl rfl) (by decide) ?_
    refine HL.nil ?_
    refine HQ.next ?_
    refine HC.yes rfl ?_
    refine HC.seq ?_
    refine HC.region ?_
    refine HL.val (Val.assign rfl) (by decide) ?_
    refine HL.nil ?_
    refine HQ.next ?_
    refine HC.ret ?_
    refine HQ.thenRet ?_
    exact HQ.ret1 rfl rfl (pure_end rfl)
set_option maxRecDepth 100000 in
theorem fnInv128_met (os : Os) (args : Array Value) : laidMetH Tryd.prog Rows.fnInv128Row.laid ((World.doorLaid Tryd.prog 400 os).forCall (fun _ _ => 0) ⟨#[], args, []⟩).memory :=
  laidMetH_of_parts3 (fuel := 8) (laidMet_of_run' 8 (by kernel_rfl) (by kernel_rfl)) (by kernel_rfl) (by kernel_rfl)
set_option maxRecDepth 100000 in
theorem fnInv128_lifted (os : Os) (started : os.Started) (H : Type) (enc : TypeId × Value → H) :
    ReturnsInHanded {} Tryd.checked os 16 .any (fun w args => (Rows.fnInv128Spec.pre enc Tryd.prog Tryd.f16 [] false w args ∧ laidMetH Tryd.prog Rows.fnInv128Row.laid w) ∧ sizedMet enc Tryd.prog Tryd.f16 (OpenSpec.ofChange Rows.fnInv128Spec) false w args)
      (Rows.fnInv128Spec.post enc Tryd.prog Tryd.f16 false true false false) := by
  refine returnsInHanded_of_change_and (C := Tryd.checked) (X := fun w _ => laidMetH Tryd.prog Rows.fnInv128Row.laid w) (fun _ _ _ hh h => h.of_heap hh) own1 started (by kernel_rfl) Tryd.func16
    (ChangeSpec.witness_shaped (enc := enc) (C := Tryd.checked) (os := os) (X := fun w _ => laidMetH Tryd.prog Rows.fnInv128Row.laid w) false (World.doorLaid Tryd.prog 400 os) #[byV 16 0] 8 rfl (World.shaped_of_RefB (by kernel_rfl) (by kernel_rfl)) (by kernel_rfl) (by kernel_rfl) (by kernel_rfl) (fnInv128_met os _)) ?_
  intro W base args ds gs before hval0 hW _ _ hL _
  have hval : ∀ (j : Nat) t v, Tryd.f16.params[j]? = some t → args[j]? = some v → Value.okWide Tryd.prog W .any base t v := hval0
  have hW' := hW
  obtain ⟨p, q, hA0, hV, rfl, hfz, hnd⟩ := hW
  have hV0 := hV
  have hA : DataW.TrodAll enc Tryd.prog W 0 (fun _ => true) true Tryd.f16.params.toList args.toList ds p := hA0
  rw [Tryd.params16] at hA hval
  obtain ⟨v0, d0, rfl, rfl, h0⟩ := trodAll_one hA
  obtain ⟨g0, g1, rfl⟩ : ∃ g0 g1, gs = [g0, g1] := by
    have hgl := trodVars_len hV0
    match gs, hgl with
    | [g0, g1], _ => exact ⟨g0, g1, rfl⟩
  obtain ⟨x, hx, rfl, rfl⟩ := open_by Tryd.underlying30 Tryd.underlying5 (by kernel_rfl) (by kernel_rfl) (hval 0 30 v0 rfl rfl) h0
  clear hA0 hval0
  refine (main_w (gr_at (laid_at (by kernel_rfl) hL 0 rfl)) (rt_at (laid_at (by kernel_rfl) hL 1 rfl)) hx).mono fun e W' ⟨he, hb⟩ => ?_
  subst he
  exact ⟨_, rfl, ⟨_, _, _, [], _, _, hW', trodAll_mk1 (shut_bool Tryd.underlying4 true), trodAll_mk1 (Below.trod laidOut1 (by kernel_rfl) (of_decide_eq_true (by kernel_rfl)) h0 hb (by simp)), Below.trodVars laidOut1 hb (by kernel_rfl) hV, hb.frame _, fun h => by cases h⟩⟩
theorem fnInv128_c1 : (Rows.fnInv128Row.inPlace == Tryd.pinned.checked.prog.inPlace 16) = true := by kernel_rfl
theorem fnInv128_c2 : (Rows.fnInv128Row.unfollowed == Tryd.pinned.checked.prog.unfollowed 16) = true := by kernel_rfl
theorem fnInv128_c3 : (Rows.fnInv128Row.recurses == Tryd.pinned.checked.prog.recurses 16) = true := by kernel_rfl
theorem fnInv128_c4 : (Rows.fnInv128Row.named == Tryd.pinned.checked.prog.varsNamed 16) = true := by kernel_rfl
theorem fnInv128_c5 : Rows.fnInv128Row.wf (OpenSpec.ofChange Rows.fnInv128Spec) = true := by kernel_rfl
theorem fnInv128_c8 : (Rows.fnInv128Row.plainKeys == Tryd.pinned.checked.prog.plainKeys) = true := by kernel_rfl
theorem fnInv128_d1 : (Rows.fnInv128Row.lifted == Tryd.pinned.checked.prog.liftsFinal) = true := by rw [lifts1]; rfl
theorem fnInv128_d2 : (Tryd.pinned.checked.prog.make == some Rows.fnInv128Row.make) = true := by rw [make1]; rfl
theorem looks1 : false = Tryd.pinned.checked.prog.looks [] := by kernel_rfl
theorem fnInv128_closed : joinedFacts Tryd.pinned.checked.prog 16 Tryd.f16 Rows.fnInv128Spec Rows.fnInv128Row = true := by
  delta joinedFacts
  repeat' with_reducible apply and_i
  all_goals first | with_reducible exact fnInv128_c1 | with_reducible exact fnInv128_c2 | with_reducible exact fnInv128_c3 | with_reducible exact fnInv128_c4 | with_reducible exact fnInv128_c5 | with_reducible exact c6 | with_reducible exact c7 | with_reducible exact fnInv128_c8 | with_reducible exact c9 | with_reducible exact may1 | with_reducible exact fnInv128_d1 | with_reducible exact fnInv128_d2 | kernel_rfl
theorem fnInv128_named : Tryd.pinned.checked.prog.funcNamed Rows.fnInv128Row.func = some 16 := by kernel_rfl
theorem fnInv128_inst : Tryd.f16.isInstance Tryd.pinned.checked.prog Rows.fnInv128Row.origin Rows.fnInv128Row.targs := of_decide_eq_true (by kernel_rfl)
theorem fnInv128_wrap : Tryd.f16.isWrapper Tryd.pinned.checked.prog Rows.fnInv128Row.wrapper Rows.fnInv128Row.mainSum := by unfold Func.isWrapper; first | (rw [if_pos (by decide +kernel)]; kernel_rfl) | (rw [if_neg (by decide +kernel)]; exact ⟨rfl, rfl⟩)
theorem fnInv128_holds : Rows.FnInv128Said :=
  OpenClaim.holds_of_wide 16 Tryd.f16 rfl rfl rfl rfl rfl rfl rfl ⟨rfl, rfl, rfl, rfl, rfl⟩ rfl rfl rfl rfl rfl fnInv128_named Tryd.func16 fnInv128_closed
    fnInv128_inst fnInv128_wrap
    (fun os started H enc _ => fnInv128_lifted os started H enc)
theorem fnInv128_w : Rows.fnInv128Row.wfByText (OpenSpec.ofChange Rows.fnInv128Spec) = true := by kernel_rfl
theorem fnInv128_main1 : Tryd.pinned.checked.prog.mainIs = some (Rows.fnInv128Card.stood.harness.1, Rows.fnInv128Card.stood.harness.2.toList) := main1.trans (by kernel_rfl)
theorem fnInv128_goes : false = Rows.fnInv128Row.goesBy Tryd.pinned.checked.prog := by kernel_rfl
theorem fnInv128_har : (!Rows.fnInv128Card.stood.harness.1 && Rows.fnInv128Card.stood.harness.2.isEmpty && !false) = false := by kernel_rfl
theorem fnInv128_hl : ∀ f fn, Tryd.pinned.checked.prog.funcNamed Rows.fnInv128Row.func = some f → Tryd.pinned.checked.prog.funcs[f]? = some fn → false = Tryd.pinned.checked.prog.looks [] ∧ ∀ (j : Nat) t, fn.params[j]? = some t → Tryd.pinned.checked.prog.wantsStandIn t = false := fun f fn hf hfn => by
  obtain rfl : f = 16 := (Option.some.inj (fnInv128_named.symm.trans hf)).symm
  obtain rfl : fn = Tryd.f16 := (Option.some.inj (Tryd.func16.symm.trans hfn)).symm
  exact ⟨looks1, fun j t ht => by
    rw [Tryd.params16] at ht
    have hm : t ∈ [30] := by simpa using Array.mem_of_getElem? ht
    have hall : ([30].all fun u => !Tryd.pinned.checked.prog.wantsStandIn u) = true := by kernel_rfl
    exact (show Tryd.pinned.checked.prog.wantsStandIn t = false by simpa using List.all_eq_true.1 hall t hm)⟩
theorem fnInv128Card_holds : Rows.FnInv128CardSaid :=
  Claim7.holds_tied_plain_at .later [] Rows.fnInv128Card.laidKinds true Rows.fnInv128Card.stood.harness false
    fnInv128_holds (fun _ h => by cases h) fnInv128_w (fun _ h => by cases h) fnInv128_row_tie rfl ⟨rfl, rfl⟩ fnInv128_main1 fnInv128_har fnInv128_hl fnInv128_goes
#print axioms fnInv128Card_holds
end Go.Proofs.YtgdfdkpkhjbibaaDoor
