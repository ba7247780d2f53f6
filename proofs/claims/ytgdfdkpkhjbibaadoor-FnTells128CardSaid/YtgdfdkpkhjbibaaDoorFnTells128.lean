/-
  FnTells128: whatever the input, the law answers true (written by laws2.py).
  Conditions: the package variables that the row lists read as listed (the card ties them to the program's text).
-/
import Derived.Test.YtgdfdkpkhjbibaaDoorFp7
import Derived.Test.YtgdfdkpkhjbibaaDoorTie
import Derived.Test.YtgdfdkpkhjbibaaDoorCards
import Derived.SevenTiedAt
namespace Go.Proofs.YtgdfdkpkhjbibaaDoor
open Go.ChangeShapes Go.WideShapes Go.ChangeAt Go.WideElems Go.RowKit
set_option maxRecDepth 100000 in
theorem main_w {x y : Nat} {w : World} (hg : GR w) (ht : RT w) (hBx : x < 256 ^ 16) (hBy : y < 256 ^ 16) :
    Calls Tryd.prog 4 #[byV 16 x, byV 16 y] w fun e w' => e = .returned (.bool true) ∧ Below w.heap.size w w' := by
  by_cases h : x < pf ∧ y < pf
  · obtain ⟨hx, hy⟩ := h
    refine calls_H (args := [byV 16 x, byV 16 y]) noD [] Tryd.func4 rfl (m := 54) rfl rfl (hold_nil _ _) ?_
    refine HC.seq ?_
    refine HC.region ?_
    refine HL.new (New.box rfl) (by decide) ?_
    intro b1 hb1
    refine HL.new (New.box rfl) (by decide) ?_
    intro b2 hb2
    refine HL.val (Val.assign rfl) (by decide) ?_
    refine HL.nil ?_
    refine HQ.next ?_
    refine HC.seq ?_
    refine HC.seq ?_
    refine HC.region ?_
    refine HL.val (Val.load_row rfl (fun w hw => hw.at (i := 1) rfl) Tryd.underlying30 rfl (by kernel_rfl)) (by decide) ?_
    refine HL.val (Val.load_row rfl (fun w hw => hw.at (i := 0) rfl) Tryd.underlying30 rfl (by kernel_rfl)) (by decide) ?_
    refine HL.new (New.bslice rfl Tryd.underlying47 (by kernel_rfl) info30 (by decide) (by decide) (fill2 x y)) (by decide) ?_
    intro b3 hb3
    refine HL.val ((Val.calls en25 (fun w hw => has_any (l := [x, y]) (hw.at (i := 0) rfl) (fun k hk => by match k, hk with | 0, _ => exact (pf_by hx) | 1, _ => exact (pf_by hy)) (show 2 < 4611686018427387904 from by decide)) rfl).as (v := .bool true) (congrArg Value.bool (by simpa using ⟨hx, hy⟩))) (by decide) ?_
    refine HL.val (Val.not rfl) (by decide) ?_
    refine HL.nil ?_
    refine HQ.next ?_
    refine HC.no rfl ?_
    refine HC.skip ?_
    refine HQ.next ?_
    refine HC.seq ?_
    refine HC.region ?_
    refine HL.val (Val.load_row rfl (fun w hw => hw.at (i := 2) rfl) Tryd.underlying30 rfl (by kernel_rfl)) (by decide) ?_
    refine HL.val (Val.load_row rfl (fun w hw => hw.at (i := 1) rfl) Tryd.underlying30 rfl (by kernel_rfl)) (by decide) ?_
    refine HL.val (Val.calls en26 (fun w hw => tells_good (hg.sn hw.sn rfl) (ht.sn hw.sn rfl) hx hy) rfl) (by decide) ?_
    refine HL.val (Val.move rfl) (by decide) ?_
    refine HL.val (Val.extract rfl rfl) (by decide) ?_
    refine HL.val (Val.extract rfl rfl) (by decide) ?_
    refine HL.val (Val.extract rfl rfl) (by decide) ?_
    refine HL.val (Val.extract rfl rfl) (by decide) ?_
    refine HL.val (Val.assign rfl) (by decide) ?_
    refine HL.val (Val.assign rfl) (by decide) ?_
    refine HL.val (Val.assign rfl) (by decide) ?_
    refine HL.val (Val.assign rfl) (by decide) ?_
    refine HL.nil ?_
    refine HQ.next ?_
    refine HC.seq ?_
    refine HC.region ?_
    refine HL.val (Val.move rfl) (by decide) ?_
    refine HL.val (Val.move rfl) (by decide) ?_
    refine HL.valg rfl (Val.move rfl) (by decide) ?_
    refine HL.valg rfl (Val.load_row rfl (fun w hw => hw.at (i := 2) rfl) Tryd.underlying30 rfl (by kernel_rfl)) (by decide) ?_
    refine HL.valg rfl (Val.build rfl built_by0) (by decide) ?_
    refine HL.valg rfl (Val.eqlA rfl rfl (by kernel_rfl) (eqlB (pf_by hx) (by decide))) (by decide) ?_
    refine HL.valg rfl ((Val.eqlBool rfl rfl Tryd.underlying4).as (congrArg Value.bool (beq_self_eq_true (decide (x = 0))))) (by decide) ?_
    refine HL.val (Val.pickT rfl rfl) (by decide) ?_
    refine HL.val (Val.move rfl) (by decide) ?_
    refine HL.valg rfl (Val.move rfl) (by decide) ?_
    refine HL.valg rfl (Val.load_row rfl (fun w hw => hw.at (i := 2) rfl) Tryd.underlying30 rfl (by kernel_rfl)) (by decide) ?_
    refine HL.valg rfl (Val.build rfl built_by1) (by decide) ?_
    refine HL.valg rfl (Val.eqlA rfl rfl (by kernel_rfl) (eqlB (pf_by hx) (by decide))) (by decide) ?_
    refine HL.valg rfl ((Val.eqlBool rfl rfl Tryd.underlying4).as (congrArg Value.bool (show (decide (x = rt 0) == decide (x = 1)) = true by rw [rt_0]; exact beq_self_eq_true _))) (by decide) ?_
    refine HL.val (Val.pickT rfl rfl) (by decide) ?_
    refine HL.val (Val.move rfl) (by decide) ?_
    refine HL.valg rfl (Val.move rfl) (by decide) ?_
    refine HL.valg rfl (Val.load_row rfl (fun w hw => hw.at (i := 2) rfl) Tryd.underlying30 rfl (by kernel_rfl)) (by decide) ?_
    refine HL.valg rfl (Val.load_row rfl (fun w hw => hw.at (i := 1) rfl) Tryd.underlying30 rfl (by kernel_rfl)) (by decide) ?_
    refine HL.valg rfl (Val.eqlA rfl rfl (by kernel_rfl) (eqlB (pf_by hx) (pf_by hy))) (by decide) ?_
    refine HL.valg rfl ((Val.eqlBool rfl rfl Tryd.underlying4).as (congrArg Value.bool (beq_self_eq_true (decide (x = y))))) (by decide) ?_
    refine HL.val (Val.pickT rfl rfl) (by decide) ?_
    refine HL.val (Val.move rfl) (by decide) ?_
    refine HL.valg rfl (Val.call en27 (size_good) rfl) (by decide) ?_
    refine HL.valg rfl (Val.eqlI rfl rfl) (by decide) ?_
    refine HL.val (Val.pickT rfl rfl) (by decide) ?_
    refine HL.val (Val.move rfl) (by decide) ?_
    refine HL.valg rfl (Val.call en28 (rootOrder_good) rfl) (by decide) ?_
    refine HL.valg rfl (Val.call en21 (fl_p) rfl) (by decide) ?_
    refine HL.valg rfl (Val.field1 rfl (fieldA2)) (by decide) ?_
    refine HL.valg rfl (Val.eqlI rfl rfl) (by decide) ?_
    refine HL.val (Val.pickT rfl rfl) (by decide) ?_
    refine HL.val (Val.assign rfl) (by decide) ?_
    refine HL.nil ?_
    refine HQ.next ?_
    refine HC.ret ?_
    exact HQ.ret1 rfl rfl (pure_end rfl)
  · refine calls_H (args := [byV 16 x, byV 16 y]) noD [] Tryd.func4 rfl (m := 54) rfl rfl (hold_nil _ _) ?_
    refine HC.seq ?_
    refine HC.region ?_
    refine HL.new (New.box rfl) (by decide) ?_
    intro b1 hb1
    refine HL.new (New.box rfl) (by decide) ?_
    intro b2 hb2
    refine HL.val (Val.assign rfl) (by decide) ?_
    refine HL.nil ?_
    refine HQ.next ?_
    refine HC.seq ?_
    refine HC.seq ?_
    refine HC.region ?_
    refine HL.val (Val.load_row rfl (fun w hw => hw.at (i := 1) rfl) Tryd.underlying30 rfl (by kernel_rfl)) (by decide) ?_
    refine HL.val (Val.load_row rfl (fun w hw => hw.at (i := 0) rfl) Tryd.underlying30 rfl (by kernel_rfl)) (by decide) ?_
    refine HL.new (New.bslice rfl Tryd.underlying47 (by kernel_rfl) info30 (by decide) (by decide) (fill2 x y)) (by decide) ?_
    intro b3 hb3
    refine HL.val ((Val.calls en25 (fun w hw => has_any (l := [x, y]) (hw.at (i := 0) rfl) (fun k hk => by match k, hk with | 0, _ => exact hBx | 1, _ => exact hBy) (show 2 < 4611686018427387904 from by decide)) rfl).as (v := .bool false) (congrArg Value.bool (by simpa using h))) (by decide) ?_
    refine HL.val (Val.not rfl) (by decide) ?_
    refine HL.nil ?_
    refine HQ.next ?_
    refine HC.yes rfl ?_
    refine HC.seq ?_
    refine HC.region ?_
    refine HL.val (Val.assign rfl) (by decide) ?_
    refine HL.nil ?_
    refine HQ.next ?_
    refine HC.ret ?_
    refine HQ.thenRet ?_
    exact HQ.ret1 rfl rfl (pure_end rfl)
set_option maxRecDepth 100000 in
theorem fnTells128_met (os : Os) (args : Array Value) : laidMetH Tryd.prog Rows.fnTells128Row.laid ((World.doorLaid Tryd.prog 400 os).forCall (fun _ _ => 0) ⟨#[], args, []⟩).memory :=
  laidMetH_of_parts3 (fuel := 8) (laidMet_of_run' 8 (by kernel_rfl) (by kernel_rfl)) (by kernel_rfl) (by kernel_rfl)
set_option maxRecDepth 100000 in
theorem fnTells128_lifted (os : Os) (started : os.Started) (H : Type) (enc : TypeId × Value → H) :
    ReturnsInHanded {} Tryd.checked os 4 .any (fun w args => (Rows.fnTells128Spec.pre enc Tryd.prog Tryd.f4 [] false w args ∧ laidMetH Tryd.prog Rows.fnTells128Row.laid w) ∧ sizedMet enc Tryd.prog Tryd.f4 (OpenSpec.ofChange Rows.fnTells128Spec) false w args)
      (Rows.fnTells128Spec.post enc Tryd.prog Tryd.f4 false true false false) := by
  refine returnsInHanded_of_change_and (C := Tryd.checked) (X := fun w _ => laidMetH Tryd.prog Rows.fnTells128Row.laid w) (fun _ _ _ hh h => h.of_heap hh) own1 started (by kernel_rfl) Tryd.func4
    (ChangeSpec.witness_shaped (enc := enc) (C := Tryd.checked) (os := os) (X := fun w _ => laidMetH Tryd.prog Rows.fnTells128Row.laid w) false (World.doorLaid Tryd.prog 400 os) #[byV 16 0, byV 16 0] 8 rfl (World.shaped_of_RefB (by kernel_rfl) (by kernel_rfl)) (by kernel_rfl) (by kernel_rfl) (by kernel_rfl) (fnTells128_met os _)) ?_
  intro W base args ds gs before hval0 hW _ _ hL _
  have hval : ∀ (j : Nat) t v, Tryd.f4.params[j]? = some t → args[j]? = some v → Value.okWide Tryd.prog W .any base t v := hval0
  have hW' := hW
  obtain ⟨p, q, hA0, hV, rfl, hfz, hnd⟩ := hW
  have hV0 := hV
  have hA : DataW.TrodAll enc Tryd.prog W 0 (fun _ => true) true Tryd.f4.params.toList args.toList ds p := hA0
  rw [Tryd.params4] at hA hval
  obtain ⟨v0, v1, d0, d1, p0, p1, rfl, rfl, rfl, h0, h1⟩ := trodAll_two hA
  obtain ⟨g0, g1, rfl⟩ : ∃ g0 g1, gs = [g0, g1] := by
    have hgl := trodVars_len hV0
    match gs, hgl with
    | [g0, g1], _ => exact ⟨g0, g1, rfl⟩
  obtain ⟨x, hx, rfl, rfl⟩ := open_by Tryd.underlying30 Tryd.underlying5 (by kernel_rfl) (by kernel_rfl) (hval 0 30 v0 rfl rfl) h0
  obtain ⟨y, hy, rfl, rfl⟩ := open_by Tryd.underlying30 Tryd.underlying5 (by kernel_rfl) (by kernel_rfl) (hval 1 30 v1 rfl rfl) h1
  clear hA0 hval0
  refine (main_w (gr_at (laid_at (by kernel_rfl) hL 0 rfl)) (rt_at (laid_at (by kernel_rfl) hL 1 rfl)) hx hy).mono fun e W' ⟨he, hb⟩ => ?_
  subst he
  exact ⟨_, rfl, ⟨_, _, _, [], _, _, hW', trodAll_mk1 (shut_bool Tryd.underlying4 true), trodAll_mk2 (Below.trod laidOut1 (by kernel_rfl) (of_decide_eq_true (by kernel_rfl)) h0 hb (by simp)) (Below.trod laidOut1 (by kernel_rfl) (of_decide_eq_true (by kernel_rfl)) h1 hb (by simp)), Below.trodVars laidOut1 hb (by kernel_rfl) hV, hb.frame _, fun h => by cases h⟩⟩
theorem fnTells128_c1 : (Rows.fnTells128Row.inPlace == Tryd.pinned.checked.prog.inPlace 4) = true := by kernel_rfl
theorem fnTells128_c2 : (Rows.fnTells128Row.unfollowed == Tryd.pinned.checked.prog.unfollowed 4) = true := by kernel_rfl
theorem fnTells128_c3 : (Rows.fnTells128Row.recurses == Tryd.pinned.checked.prog.recurses 4) = true := by kernel_rfl
theorem fnTells128_c4 : (Rows.fnTells128Row.named == Tryd.pinned.checked.prog.varsNamed 4) = true := by kernel_rfl
theorem fnTells128_c5 : Rows.fnTells128Row.wf (OpenSpec.ofChange Rows.fnTells128Spec) = true := by kernel_rfl
theorem fnTells128_c8 : (Rows.fnTells128Row.plainKeys == Tryd.pinned.checked.prog.plainKeys) = true := by kernel_rfl
theorem fnTells128_d1 : (Rows.fnTells128Row.lifted == Tryd.pinned.checked.prog.liftsFinal) = true := by rw [lifts1]; rfl
theorem fnTells128_d2 : (Tryd.pinned.checked.prog.make == some Rows.fnTells128Row.make) = true := by rw [make1]; rfl
theorem looks1 : false = Tryd.pinned.checked.prog.looks [] := by kernel_rfl
theorem fnTells128_closed : joinedFacts Tryd.pinned.checked.prog 4 Tryd.f4 Rows.fnTells128Spec Rows.fnTells128Row = true := by
  delta joinedFacts
  repeat' with_reducible apply and_i
  all_goals first | with_reducible exact fnTells128_c1 | with_reducible exact fnTells128_c2 | with_reducible exact fnTells128_c3 | with_reducible exact fnTells128_c4 | with_reducible exact fnTells128_c5 | with_reducible exact c6 | with_reducible exact c7 | with_reducible exact fnTells128_c8 | with_reducible exact c9 | with_reducible exact may1 | with_reducible exact fnTells128_d1 | with_reducible exact fnTells128_d2 | kernel_rfl
theorem fnTells128_named : Tryd.pinned.checked.prog.funcNamed Rows.fnTells128Row.func = some 4 := by kernel_rfl
theorem fnTells128_inst : Tryd.f4.isInstance Tryd.pinned.checked.prog Rows.fnTells128Row.origin Rows.fnTells128Row.targs := of_decide_eq_true (by kernel_rfl)
theorem fnTells128_wrap : Tryd.f4.isWrapper Tryd.pinned.checked.prog Rows.fnTells128Row.wrapper Rows.fnTells128Row.mainSum := by unfold Func.isWrapper; first | (rw [if_pos (by decide +kernel)]; kernel_rfl) | (rw [if_neg (by decide +kernel)]; exact ⟨rfl, rfl⟩)
theorem fnTells128_holds : Rows.FnTells128Said :=
  OpenClaim.holds_of_wide 4 Tryd.f4 rfl rfl rfl rfl rfl rfl rfl ⟨rfl, rfl, rfl, rfl, rfl⟩ rfl rfl rfl rfl rfl fnTells128_named Tryd.func4 fnTells128_closed
    fnTells128_inst fnTells128_wrap
    (fun os started H enc _ => fnTells128_lifted os started H enc)
theorem fnTells128_w : Rows.fnTells128Row.wfByText (OpenSpec.ofChange Rows.fnTells128Spec) = true := by kernel_rfl
theorem fnTells128_main1 : Tryd.pinned.checked.prog.mainIs = some (Rows.fnTells128Card.stood.harness.1, Rows.fnTells128Card.stood.harness.2.toList) := main1.trans (by kernel_rfl)
theorem fnTells128_goes : false = Rows.fnTells128Row.goesBy Tryd.pinned.checked.prog := by kernel_rfl
theorem fnTells128_har : (!Rows.fnTells128Card.stood.harness.1 && Rows.fnTells128Card.stood.harness.2.isEmpty && !false) = false := by kernel_rfl
theorem fnTells128_hl : ∀ f fn, Tryd.pinned.checked.prog.funcNamed Rows.fnTells128Row.func = some f → Tryd.pinned.checked.prog.funcs[f]? = some fn → false = Tryd.pinned.checked.prog.looks [] ∧ ∀ (j : Nat) t, fn.params[j]? = some t → Tryd.pinned.checked.prog.wantsStandIn t = false := fun f fn hf hfn => by
  obtain rfl : f = 4 := (Option.some.inj (fnTells128_named.symm.trans hf)).symm
  obtain rfl : fn = Tryd.f4 := (Option.some.inj (Tryd.func4.symm.trans hfn)).symm
  exact ⟨looks1, fun j t ht => by
    rw [Tryd.params4] at ht
    have hm : t ∈ [30, 30] := by simpa using Array.mem_of_getElem? ht
    have hall : ([30, 30].all fun u => !Tryd.pinned.checked.prog.wantsStandIn u) = true := by kernel_rfl
    exact (show Tryd.pinned.checked.prog.wantsStandIn t = false by simpa using List.all_eq_true.1 hall t hm)⟩
theorem fnTells128Card_holds : Rows.FnTells128CardSaid :=
  Claim7.holds_tied_plain_at .later [] Rows.fnTells128Card.laidKinds true Rows.fnTells128Card.stood.harness false
    fnTells128_holds (fun _ h => by cases h) fnTells128_w (fun _ h => by cases h) fnTells128_row_tie rfl ⟨rfl, rfl⟩ fnTells128_main1 fnTells128_har fnTells128_hl fnTells128_goes
#print axioms fnTells128Card_holds
end Go.Proofs.YtgdfdkpkhjbibaaDoor
