/-
  FnMul128Is: whatever the input, the law answers true (written by laws2.py).
  Conditions: the package variables that the row lists read as listed (the card ties them to the program's text).
-/
import Derived.Test.YtgdfdkpkhjbibaaDoorLc
import Derived.Test.YtgdfdkpkhjbibaaDoorTie
import Derived.Test.YtgdfdkpkhjbibaaDoorCards
import Derived.SevenTiedAt
namespace Go.Proofs.YtgdfdkpkhjbibaaDoor
open Go.ChangeShapes Go.WideShapes Go.ChangeAt Go.WideElems Go.RowKit
set_option maxRecDepth 100000 in
theorem main_w {x y : Nat} {w : World} (hg : GR w) (hBx : x < 256 ^ 16) (hBy : y < 256 ^ 16) :
    Calls Tryd.prog 11 #[byV 16 x, byV 16 y] w fun e w' => e = .returned (.bool true) ∧ Below w.heap.size w w' := by
  by_cases h : x < pf ∧ y < pf
  · obtain ⟨hx, hy⟩ := h
    refine calls_H (args := [byV 16 x, byV 16 y]) noD [] Tryd.func11 rfl (m := 51) rfl rfl (hold_nil _ _) ?_
    refine HC.seq ?_
    refine HC.region ?_
    refine HL.new (New.box rfl) (by decide) ?_
    intro b1 hb1
    refine HL.new (New.box rfl) (by decide) ?_
    intro b2 hb2
    refine HL.val (Val.assign rfl) (by decide) ?_
    refine HL.nil ?_
    refine HQ.next ?_
    refine HC.seq ?_
    refine HC.seq ?_
    refine HC.region ?_
    refine HL.val (Val.load_row rfl (fun w hw => hw.at (i := 1) rfl) Tryd.underlying30 rfl (by kernel_rfl)) (by decide) ?_
    refine HL.val (Val.load_row rfl (fun w hw => hw.at (i := 0) rfl) Tryd.underlying30 rfl (by kernel_rfl)) (by decide) ?_
    refine HL.new (New.bslice rfl Tryd.underlying47 (by kernel_rfl) info30 (by decide) (by decide) (fill2 x y)) (by decide) ?_
    intro b3 hb3
    refine HL.val ((Val.calls en25 (fun w hw => has_any (l := [x, y]) (hw.at (i := 0) rfl) (fun k hk => by match k, hk with | 0, _ => exact (pf_by hx) | 1, _ => exact (pf_by hy)) (show 2 < 4611686018427387904 from by decide)) rfl).as (v := .bool true) (congrArg Value.bool (by simpa using ⟨hx, hy⟩))) (by decide) ?_
    refine HL.val (Val.not rfl) (by decide) ?_
    refine HL.nil ?_
    refine HQ.next ?_
    refine HC.no rfl ?_
    refine HC.skip ?_
    refine HQ.next ?_
    refine HC.seq ?_
    refine HC.region ?_
    refine HL.val (Val.load_row rfl (fun w hw => hw.at (i := 2) rfl) Tryd.underlying30 rfl (by kernel_rfl)) (by decide) ?_
    refine HL.val (Val.load_row rfl (fun w hw => hw.at (i := 1) rfl) Tryd.underlying30 rfl (by kernel_rfl)) (by decide) ?_
    refine HL.val (Val.calls en33 (fun w hw => iMulTT (hg.sn hw.sn rfl) hx hy) rfl) (by decide) ?_
    refine HL.val (Val.move rfl) (by decide) ?_
    refine HL.val (Val.extract rfl rfl) (by decide) ?_
    refine HL.val (Val.extract rfl rfl) (by decide) ?_
    refine HL.new (New.alloc al30) (by decide) ?_
    intro b4 hb4
    refine HL.put 0 rfl (Put.row rfl rfl (by kernel_rfl) (szB _ _ _) (oneB _ _)) (.inl hb4) ?_
    simp only [List.set_cons_zero]
    refine HL.val (Val.assign rfl) (by decide) ?_
    refine HL.nil ?_
    refine HQ.next ?_
    refine HC.seq ?_
    refine HC.region ?_
    refine HL.val (Val.load_row rfl (fun w hw => hw.at (i := 3) rfl) Tryd.underlying30 rfl (by kernel_rfl)) (by decide) ?_
    refine HL.val (Val.calls en44 (fun w hw => iSqrT (hg.sn hw.sn rfl) hx) rfl) (by decide) ?_
    refine HL.val (Val.move rfl) (by decide) ?_
    refine HL.val (Val.extract rfl rfl) (by decide) ?_
    refine HL.val (Val.extract rfl rfl) (by decide) ?_
    refine HL.new (New.alloc al30) (by decide) ?_
    intro b5 hb5
    refine HL.put 0 rfl (Put.row rfl rfl (by kernel_rfl) (szB _ _ _) (oneB _ _)) (.inl hb5) ?_
    simp only [List.set_cons_zero]
    refine HL.val (Val.assign rfl) (by decide) ?_
    refine HL.nil ?_
    refine HQ.next ?_
    refine HC.seq ?_
    refine HC.draw0 26 (by kernel_rfl) (by kernel_rfl) ?_
    simp only [List.take, List.drop]
    refine HV.val (Val.move rfl) (by decide) ?_
    refine HV.val (Val.move rfl) (by decide) ?_
    refine HV.valg rfl (Val.move rfl) (by decide) ?_
    refine HV.val (Val.pickT rfl rfl) (by decide) ?_
    refine HV.val (Val.move rfl) (by decide) ?_
    refine HV.valg rfl (Val.load_row rfl (fun w hw => hw.at (i := 1) rfl) Tryd.underlying30 rfl (by kernel_rfl)) (by decide) ?_
    refine HV.valg rfl (Val.call en22 (n_p (pf_by (Nat.mod_lt _ pf_pos))) rfl) (by decide) ?_
    refine HV.valg rfl (Val.call en21 (fl_p) rfl) (by decide) ?_
    refine HV.valg rfl (Val.load_row rfl (fun w hw => hw.at (i := 4) rfl) Tryd.underlying30 rfl (by kernel_rfl)) (by decide) ?_
    refine HV.valg rfl (Val.call en22 (n_p (pf_by hx)) rfl) (by decide) ?_
    refine HV.valg rfl (Val.load_row rfl (fun w hw => hw.at (i := 3) rfl) Tryd.underlying30 rfl (by kernel_rfl)) (by decide) ?_
    refine HV.valg rfl (Val.call en22 (n_p (pf_by hy)) rfl) (by decide) ?_
    refine HV.valg rfl (Val.call en45 (smul_p x y hx (lt_b hy)) rfl) (by decide) ?_
    refine HV.valg rfl ((Val.eqlA rfl rfl (by kernel_rfl) (eqlW (lt_w (Nat.mod_lt _ pf_pos)) (lt_w (Nat.mod_lt _ pf_pos)))).as (congrArg Value.bool (decide_eq_true rfl))) (by decide) ?_
    refine HV.val (Val.pickT rfl rfl) (by decide) ?_
    refine HV.val (Val.move rfl) (by decide) ?_
    refine HV.valg rfl (Val.load_row rfl (fun w hw => hw.at (i := 0) rfl) Tryd.underlying30 rfl (by kernel_rfl)) (by decide) ?_
    refine HV.valg rfl (Val.call en22 (n_p (pf_by (Nat.mod_lt _ pf_pos))) rfl) (by decide) ?_
    refine HV.valg rfl (Val.call en21 (fl_p) rfl) (by decide) ?_
    refine HV.valg rfl (Val.load_row rfl (fun w hw => hw.at (i := 4) rfl) Tryd.underlying30 rfl (by kernel_rfl)) (by decide) ?_
    refine HV.valg rfl (Val.call en22 (n_p (pf_by hx)) rfl) (by decide) ?_
    refine HV.valg rfl (Val.load_row rfl (fun w hw => hw.at (i := 4) rfl) Tryd.underlying30 rfl (by kernel_rfl)) (by decide) ?_
    refine HV.valg rfl (Val.call en22 (n_p (pf_by hx)) rfl) (by decide) ?_
    refine HV.valg rfl (Val.call en45 (smul_p x x hx (lt_b hx)) rfl) (by decide) ?_
    refine HV.valg rfl ((Val.eqlA rfl rfl (by kernel_rfl) (eqlW (lt_w (Nat.mod_lt _ pf_pos)) (lt_w (Nat.mod_lt _ pf_pos)))).as (congrArg Value.bool (decide_eq_true rfl))) (by decide) ?_
    refine HV.val (Val.pickT rfl rfl) (by decide) ?_
    refine HV.tail0 ?_
    refine HL.val (Val.assign rfl) (by decide) ?_
    refine HL.nil ?_
    refine HQ.next ?_
    refine HC.ret ?_
    exact HQ.ret1 rfl rfl (pure_end rfl)
  · refine calls_H (args := [byV 16 x, byV 16 y]) noD [] Tryd.func11 rfl (m := 51) rfl rfl (hold_nil _ _) ?_
    refine HC.seq ?_
    refine HC.region ?_
    refine HL.new (New.box rfl) (by decide) ?_
    intro b1 hb1
    refine HL.new (New.box rfl) (by decide) ?_
    intro b2 hb2
    refine HL.val (Val.assign rfl) (by decide) ?_
    refine HL.nil ?_
    refine HQ.next ?_
    refine HC.seq ?_
    refine HC.seq ?_
    refine HC.region ?_
    refine HL.val (Val.load_row rfl (fun w hw => hw.at (i := 1) rfl) Tryd.underlying30 rfl (by kernel_rfl)) (by decide) ?_
    refine HL.val (Val.load_row rfl (fun w hw => hw.at (i := 0) rfl) Tryd.underlying30 rfl (by kernel_rfl)) (by decide) ?_
    refine HL.new (New.bslice rfl Tryd.underlying47 (by kernel_rfl) info30 (by decide) (by decide) (fill2 x y)) (by decide) ?_
    intro b3 hb3
    refine HL.val ((Val.calls en25 (fun w hw => has_any (l := [x, y]) (hw.at (i := 0) rfl) (fun k hk => by match k, hk with | 0, _ => exact hBx | 1, _ => exact hBy) (show 2 < 4611686018427387904 from by decide)) rfl).as (v := .bool false) (congrArg Value.bool (by simpa using h))) (by decide) ?_
    refine HL.val (Val.not rfl) (by decide) ?_
    refine HL.nil ?_
    refine HQ.next ?_
    refine HC.yes rfl ?_
    refine HC.seq ?_
    refine HC.region ?_
    refine HL.val (Val.assign rfl) (by decide) ?_
    refine HL.nil ?_
    refine HQ.next ?_
    refine HC.ret ?_
    refine HQ.thenRet ?_
    exact HQ.ret1 rfl rfl (pure_end rfl)
set_option maxRecDepth 100000 in
theorem fnMul128Is_met (os : Os) (args : Array Value) : laidMetH Tryd.prog Rows.fnMul128IsRow.laid ((World.doorLaid Tryd.prog 400 os).forCall (fun _ _ => 0) ⟨#[], args, []⟩).memory :=
  laidMetH_of_parts3 (fuel := 8) (laidMet_of_run' 8 (by kernel_rfl) (by kernel_rfl)) (by kernel_rfl) (by kernel_rfl)
set_option maxRecDepth 100000 in
theorem fnMul128Is_lifted (os : Os) (started : os.Started) (H : Type) (enc : TypeId × Value → H) :
    ReturnsInHanded {} Tryd.checked os 11 .any (fun w args => (Rows.fnMul128IsSpec.pre enc Tryd.prog Tryd.f11 [] false w args ∧ laidMetH Tryd.prog Rows.fnMul128IsRow.laid w) ∧ sizedMet enc Tryd.prog Tryd.f11 (OpenSpec.ofChange Rows.fnMul128IsSpec) false w args)
      (Rows.fnMul128IsSpec.post enc Tryd.prog Tryd.f11 false true false false) := by
  refine returnsInHanded_of_change_and (C := Tryd.checked) (X := fun w _ => laidMetH Tryd.prog Rows.fnMul128IsRow.laid w) (fun _ _ _ hh h => h.of_heap hh) own1 started (by kernel_rfl) Tryd.func11
    (ChangeSpec.witness_shaped (enc := enc) (C := Tryd.checked) (os := os) (X := fun w _ => laidMetH Tryd.prog Rows.fnMul128IsRow.laid w) false (World.doorLaid Tryd.prog 400 os) #[byV 16 0, byV 16 0] 8 rfl (World.shaped_of_RefB (by kernel_rfl) (by kernel_rfl)) (by kernel_rfl) (by kernel_rfl) (by kernel_rfl) (fnMul128Is_met os _)) ?_
  intro W base args ds gs before hval0 hW _ _ hL _
  have hval : ∀ (j : Nat) t v, Tryd.f11.params[j]? = some t → args[j]? = some v → Value.okWide Tryd.prog W .any base t v := hval0
  have hW' := hW
  obtain ⟨p, q, hA0, hV, rfl, hfz, hnd⟩ := hW
  have hV0 := hV
  have hA : DataW.TrodAll enc Tryd.prog W 0 (fun _ => true) true Tryd.f11.params.toList args.toList ds p := hA0
  rw [Tryd.params11] at hA hval
  obtain ⟨v0, v1, d0, d1, p0, p1, rfl, rfl, rfl, h0, h1⟩ := trodAll_two hA
  obtain ⟨g0, rfl⟩ : ∃ g0, gs = [g0] := by
    have hgl := trodVars_len hV0
    match gs, hgl with
    | [g0], _ => exact ⟨g0, rfl⟩
  obtain ⟨x, hx, rfl, rfl⟩ := open_by Tryd.underlying30 Tryd.underlying5 (by kernel_rfl) (by kernel_rfl) (hval 0 30 v0 rfl rfl) h0
  obtain ⟨y, hy, rfl, rfl⟩ := open_by Tryd.underlying30 Tryd.underlying5 (by kernel_rfl) (by kernel_rfl) (hval 1 30 v1 rfl rfl) h1
  clear hA0 hval0
  refine (main_w (gr_at (laid_at (by kernel_rfl) hL 0 rfl)) hx hy).mono fun e W' ⟨he, hb⟩ => ?_
  subst he
  exact ⟨_, rfl, ⟨_, _, _, [], _, _, hW', trodAll_mk1 (shut_bool Tryd.underlying4 true), trodAll_mk2 (Below.trod laidOut1 (by kernel_rfl) (of_decide_eq_true (by kernel_rfl)) h0 hb (by simp)) (Below.trod laidOut1 (by kernel_rfl) (of_decide_eq_true (by kernel_rfl)) h1 hb (by simp)), Below.trodVars laidOut1 hb (by kernel_rfl) hV, hb.frame _, fun h => by cases h⟩⟩
theorem fnMul128Is_c1 : (Rows.fnMul128IsRow.inPlace == Tryd.pinned.checked.prog.inPlace 11) = true := by kernel_rfl
theorem fnMul128Is_c2 : (Rows.fnMul128IsRow.unfollowed == Tryd.pinned.checked.prog.unfollowed 11) = true := by kernel_rfl
theorem fnMul128Is_c3 : (Rows.fnMul128IsRow.recurses == Tryd.pinned.checked.prog.recurses 11) = true := by kernel_rfl
theorem fnMul128Is_c4 : (Rows.fnMul128IsRow.named == Tryd.pinned.checked.prog.varsNamed 11) = true := by kernel_rfl
theorem fnMul128Is_c5 : Rows.fnMul128IsRow.wf (OpenSpec.ofChange Rows.fnMul128IsSpec) = true := by kernel_rfl
theorem fnMul128Is_c8 : (Rows.fnMul128IsRow.plainKeys == Tryd.pinned.checked.prog.plainKeys) = true := by kernel_rfl
theorem fnMul128Is_d1 : (Rows.fnMul128IsRow.lifted == Tryd.pinned.checked.prog.liftsFinal) = true := by rw [lifts1]; rfl
theorem fnMul128Is_d2 : (Tryd.pinned.checked.prog.make == some Rows.fnMul128IsRow.make) = true := by rw [make1]; rfl
theorem looks1 : false = Tryd.pinned.checked.prog.looks [] := by kernel_rfl
theorem fnMul128Is_closed : joinedFacts Tryd.pinned.checked.prog 11 Tryd.f11 Rows.fnMul128IsSpec Rows.fnMul128IsRow = true := by
  delta joinedFacts
  repeat' with_reducible apply and_i
  all_goals first | with_reducible exact fnMul128Is_c1 | with_reducible exact fnMul128Is_c2 | with_reducible exact fnMul128Is_c3 | with_reducible exact fnMul128Is_c4 | with_reducible exact fnMul128Is_c5 | with_reducible exact c6 | with_reducible exact c7 | with_reducible exact fnMul128Is_c8 | with_reducible exact c9 | with_reducible exact may1 | with_reducible exact fnMul128Is_d1 | with_reducible exact fnMul128Is_d2 | kernel_rfl
theorem fnMul128Is_named : Tryd.pinned.checked.prog.funcNamed Rows.fnMul128IsRow.func = some 11 := by kernel_rfl
theorem fnMul128Is_inst : Tryd.f11.isInstance Tryd.pinned.checked.prog Rows.fnMul128IsRow.origin Rows.fnMul128IsRow.targs := of_decide_eq_true (by kernel_rfl)
theorem fnMul128Is_wrap : Tryd.f11.isWrapper Tryd.pinned.checked.prog Rows.fnMul128IsRow.wrapper Rows.fnMul128IsRow.mainSum := by unfold Func.isWrapper; first | (rw [if_pos (by decide +kernel)]; kernel_rfl) | (rw [if_neg (by decide +kernel)]; exact ⟨rfl, rfl⟩)
theorem fnMul128Is_holds : Rows.FnMul128IsSaid :=
  OpenClaim.holds_of_wide 11 Tryd.f11 rfl rfl rfl rfl rfl rfl rfl ⟨rfl, rfl, rfl, rfl, rfl⟩ rfl rfl rfl rfl rfl fnMul128Is_named Tryd.func11 fnMul128Is_closed
    fnMul128Is_inst fnMul128Is_wrap
    (fun os started H enc _ => fnMul128Is_lifted os started H enc)
theorem fnMul128Is_w : Rows.fnMul128IsRow.wfByText (OpenSpec.ofChange Rows.fnMul128IsSpec) = true := by kernel_rfl
theorem fnMul128Is_main1 : Tryd.pinned.checked.prog.mainIs = some (Rows.fnMul128IsCard.stood.harness.1, Rows.fnMul128IsCard.stood.harness.2.toList) := main1.trans (by kernel_rfl)
theorem fnMul128Is_goes : false = Rows.fnMul128IsRow.goesBy Tryd.pinned.checked.prog := by kernel_rfl
theorem fnMul128Is_har : (!Rows.fnMul128IsCard.stood.harness.1 && Rows.fnMul128IsCard.stood.harness.2.isEmpty && !false) = false := by kernel_rfl
theorem fnMul128Is_hl : ∀ f fn, Tryd.pinned.checked.prog.funcNamed Rows.fnMul128IsRow.func = some f → Tryd.pinned.checked.prog.funcs[f]? = some fn → false = Tryd.pinned.checked.prog.looks [] ∧ ∀ (j : Nat) t, fn.params[j]? = some t → Tryd.pinned.checked.prog.wantsStandIn t = false := fun f fn hf hfn => by
  obtain rfl : f = 11 := (Option.some.inj (fnMul128Is_named.symm.trans hf)).symm
  obtain rfl : fn = Tryd.f11 := (Option.some.inj (Tryd.func11.symm.trans hfn)).symm
  exact ⟨looks1, fun j t ht => by
    rw [Tryd.params11] at ht
    have hm : t ∈ [30, 30] := by simpa using Array.mem_of_getElem? ht
    have hall : ([30, 30].all fun u => !Tryd.pinned.checked.prog.wantsStandIn u) = true := by kernel_rfl
    exact (show Tryd.pinned.checked.prog.wantsStandIn t = false by simpa using List.all_eq_true.1 hall t hm)⟩
theorem fnMul128IsCard_holds : Rows.FnMul128IsCardSaid :=
  Claim7.holds_tied_plain_at .later [] Rows.fnMul128IsCard.laidKinds true Rows.fnMul128IsCard.stood.harness false
    fnMul128Is_holds (fun _ h => by cases h) fnMul128Is_w (fun _ h => by cases h) fnMul128Is_row_tie rfl ⟨rfl, rfl⟩ fnMul128Is_main1 fnMul128Is_har fnMul128Is_hl fnMul128Is_goes
#print axioms fnMul128IsCard_holds
end Go.Proofs.YtgdfdkpkhjbibaaDoor
