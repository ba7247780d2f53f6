/-
  FnEvaluate128: whatever the input, the law answers true (written by laws2.py).
  Conditions: the package variables that the row lists read as listed (the card ties them to the program's text).
-/
import Derived.Test.YtgdfdkpkhjbibaaDoorVd
import Derived.Test.YtgdfdkpkhjbibaaDoorTie
import Derived.Test.YtgdfdkpkhjbibaaDoorCards
import Derived.SevenTiedAt
namespace Go.Proofs.YtgdfdkpkhjbibaaDoor
open Go.ChangeShapes Go.WideShapes Go.ChangeAt Go.WideElems Go.RowKit
theorem infoS : (Tryd.prog.info? 47).bind (·.zero) = some (.slice none 0 0) := by kernel_rfl
theorem fillS1 (a : Option Addr) (l c : Nat) : Instr.fill (fun i => some (i * 1, 1)) ((Array.range (1 * 1)).map ((Value.slice none 0 0).cells[· % (Value.slice none 0 0).cells.size]!)) [(0, .slice a l c)] = some #[.slice a l c] := by kernel_rfl
theorem fillS2 (a : Option Addr) (l c : Nat) (a2 : Option Addr) (l2 c2 : Nat) : Instr.fill (fun i => some (i * 1, 1)) ((Array.range (2 * 1)).map ((Value.slice none 0 0).cells[· % (Value.slice none 0 0).cells.size]!)) [(0, .slice a l c), (1, .slice a2 l2 c2)] = some #[.slice a l c, .slice a2 l2 c2] := by kernel_rfl
set_option maxRecDepth 100000 in
theorem main_w {adp : Option Addr} {bp op cp : Nat} {p : List Nat} {x : Nat} {w : World} (hg : GR w) (_np : p.length ≤ 9223372036854775807) (hp : ∀ k, k < p.length → p.getD k 0 < 256 ^ 16) (sp : SlA (byA 16) 16 w adp bp op p) (hBx : x < 256 ^ 16) :
    Calls Tryd.prog 8 #[.slice adp p.length cp, byV 16 x] w fun e w' => e = .returned (.bool true) ∧ Below w.heap.size w w' := by
  by_cases hzp : 2147483647 < p.length
  · refine calls_H (args := [.slice adp p.length cp, byV 16 x]) noD [] Tryd.func8 rfl (m := 38) rfl rfl (hold_nil _ _) ?_
    refine HC.seq ?_
    refine HC.region ?_
    refine HL.new (New.box rfl) (by decide) ?_
    intro b1 hb1
    refine HL.val (Val.assign rfl) (by decide) ?_
    refine HL.nil ?_
    refine HQ.next ?_
    refine HC.seq ?_
    refine HC.seq ?_
    refine HC.region ?_
    refine HL.val (Val.move rfl) (by decide) ?_
    refine HL.val (Val.lenS rfl rfl Tryd.underlying47) (by decide) ?_
    refine HL.val ((Val.gtr rfl rfl).as (congrArg Value.bool ((lssN 2147483647 p.length).trans (decide_eq_true hzp)))) (by decide) ?_
    refine HL.nil ?_
    refine HQ.next ?_
    refine HC.yes rfl ?_
    refine HC.seq ?_
    refine HC.region ?_
    refine HL.val (Val.assign rfl) (by decide) ?_
    refine HL.nil ?_
    refine HQ.next ?_
    refine HC.ret ?_
    refine HQ.thenRet ?_
    exact HQ.ret1 rfl rfl (pure_end rfl)
  by_cases hfp : Few p
  · have hpp := allLt_of hfp.2
    have hlp : p.length ≤ 100000 := Nat.le_trans hfp.1 (by decide)
    by_cases hx : x < pf
    · refine calls_H (args := [.slice adp p.length cp, byV 16 x]) noD [] Tryd.func8 rfl (m := 38) rfl rfl (hold_nil _ _) ?_
      refine HC.seq ?_
      refine HC.region ?_
      refine HL.new (New.box rfl) (by decide) ?_
      intro b1 hb1
      refine HL.val (Val.assign rfl) (by decide) ?_
      refine HL.nil ?_
      refine HQ.next ?_
      refine HC.seq ?_
      refine HC.seq ?_
      refine HC.region ?_
      refine HL.val (Val.move rfl) (by decide) ?_
      refine HL.val (Val.lenS rfl rfl Tryd.underlying47) (by decide) ?_
      refine HL.val ((Val.gtr rfl rfl).as (congrArg Value.bool ((lssN 2147483647 p.length).trans (decide_eq_false hzp)))) (by decide) ?_
      refine HL.nil ?_
      refine HQ.next ?_
      refine HC.no rfl ?_
      refine HC.skip ?_
      refine HQ.next ?_
      refine HC.seq ?_
      refine HC.seq ?_
      refine HC.region ?_
      refine HL.val (Val.move rfl) (by decide) ?_
      refine HL.new (New.bslice (s := 1) rfl Tryd.underlying97 (by kernel_rfl) infoS (by decide) (by decide) (fillS1 adp p.length cp)) (by decide) ?_
      intro b2 hb2
      refine HL.val ((Val.calls en34 (fun w hw => few1_any (hw.at (i := 0) rfl) (sp.sn szBy hw.sn rfl) hp) rfl).as (congrArg Value.bool (decide_eq_true hfp))) (by decide) ?_
      refine HL.val (Val.not rfl) (by decide) ?_
      refine HL.val (Val.move rfl) (by decide) ?_
      refine HL.valg rfl (Val.load_row rfl (fun w hw => hw.at (i := 1) rfl) Tryd.underlying30 rfl (by kernel_rfl)) (by decide) ?_
      refine HL.newg rfl (New.bslice rfl Tryd.underlying47 (by kernel_rfl) info30 (by decide) (by decide) (fill1 x)) (by decide) ?_
      intro b3 hb3
      refine HL.valg rfl ((Val.calls en25 (fun w hw => has_any (l := [x]) (hw.at (i := 0) rfl) (fun k hk => by match k, hk with | 0, _ => exact (pf_by hx)) (show 1 < 4611686018427387904 from by decide)) rfl).as (v := .bool true) (congrArg Value.bool (by simpa using hx))) (by decide) ?_
      refine HL.valg rfl (Val.not rfl) (by decide) ?_
      refine HL.val (Val.pickF rfl rfl) (by decide) ?_
      refine HL.nil ?_
      refine HQ.next ?_
      refine HC.no rfl ?_
      refine HC.skip ?_
      refine HQ.next ?_
      refine HC.seq ?_
      refine HC.region ?_
      refine HL.val (Val.move rfl) (by decide) ?_
      refine HL.val (Val.load_row rfl (fun w hw => hw.at (i := 2) rfl) Tryd.underlying30 rfl (by kernel_rfl)) (by decide) ?_
      refine HL.val (Val.calls en38 (fun w hw => ieval_good (hg.sn hw.sn rfl) (sp.sn szBy hw.sn rfl) hpp hlp hx) rfl) (by decide) ?_
      refine HL.val (Val.move rfl) (by decide) ?_
      refine HL.val (Val.extract rfl rfl) (by decide) ?_
      refine HL.val (Val.extract rfl rfl) (by decide) ?_
      refine HL.new (New.alloc al30) (by decide) ?_
      intro b4 hb4
      refine HL.put 0 rfl (Put.row rfl rfl (by kernel_rfl) (szB _ _ _) (oneB _ _)) (.inl hb4) ?_
      simp only [List.set_cons_zero]
      refine HL.val (Val.assign rfl) (by decide) ?_
      refine HL.nil ?_
      refine HQ.next ?_
      refine HC.seq ?_
      refine HC.drawK [0, 1, 2, 3, 4, 5, 7] 6 8 (by kernel_rfl) (by kernel_rfl) rfl rfl ?_
      simp only [List.take, List.drop, List.cons_append, List.nil_append]
      refine HV.val (Val.move rfl) (by decide) ?_
      refine HV.val (Val.move rfl) (by decide) ?_
      refine HV.valg rfl (Val.load_row rfl (fun w hw => hw.at (i := 0) rfl) Tryd.underlying30 rfl (by kernel_rfl)) (by decide) ?_
      refine HV.valg rfl (Val.call en22 (n_p (pf_by (evL_lt _ _))) rfl) (by decide) ?_
      refine HV.valg rfl (Val.call en21 (fl_p) rfl) (by decide) ?_
      refine HV.valg rfl (Val.move rfl) (by decide) ?_
      refine HV.valg rfl (Val.load_row rfl (fun w hw => hw.at (i := 3) rfl) Tryd.underlying30 rfl (by kernel_rfl)) (by decide) ?_
      refine HV.tailF (fun _ h => by cases h; rfl) (FamV.call (R := fun r => PreW r.2.2 p ∧ p.length ≤ r.2.1) (ob := fun r => .cells r.2.2 25 (0, 0)) (pv := fun r => .slice (some ⟨r.1, 0, none⟩) p.length r.2.1) en36 (fun w hw => l_any (sp.sn szBy hw.sn rfl) hp hlp) rfl) (by decide) ?_
      intro b5 c5 q5 r5 hb5
      dsimp only
      refine HL.valg rfl (Val.call en22 (n_p (pf_by hx)) rfl) (by decide) ?_
      refine HL.valg rfl (Val.calls en39 (fun w hw => seval_any (PreW.sl r5.1 (hw.at (i := 0) rfl)) hpp hx hlp) rfl) (by decide) ?_
      refine HL.valg rfl ((Val.eqlA rfl rfl (by kernel_rfl) (eqlW (lt_w (evL_lt _ _)) (lt_w (evL_lt _ _)))).as (congrArg Value.bool (decide_eq_true rfl))) (by decide) ?_
      refine HL.val (Val.pickT rfl rfl) (by decide) ?_
      refine HL.val (Val.assign rfl) (by decide) ?_
      refine HL.nil ?_
      refine HQ.next ?_
      refine HC.ret ?_
      exact HQ.ret1 rfl rfl (pure_end rfl)
    · refine calls_H (args := [.slice adp p.length cp, byV 16 x]) noD [] Tryd.func8 rfl (m := 38) rfl rfl (hold_nil _ _) ?_
      refine HC.seq ?_
      refine HC.region ?_
      refine HL.new (New.box rfl) (by decide) ?_
      intro b1 hb1
      refine HL.val (Val.assign rfl) (by decide) ?_
      refine HL.nil ?_
      refine HQ.next ?_
      refine HC.seq ?_
      refine HC.seq ?_
      refine HC.region ?_
      refine HL.val (Val.move rfl) (by decide) ?_
      refine HL.val (Val.lenS rfl rfl Tryd.underlying47) (by decide) ?_
      refine HL.val ((Val.gtr rfl rfl).as (congrArg Value.bool ((lssN 2147483647 p.length).trans (decide_eq_false hzp)))) (by decide) ?_
      refine HL.nil ?_
      refine HQ.next ?_
      refine HC.no rfl ?_
      refine HC.skip ?_
      refine HQ.next ?_
      refine HC.seq ?_
      refine HC.seq ?_
      refine HC.region ?_
      refine HL.val (Val.move rfl) (by decide) ?_
      refine HL.new (New.bslice (s := 1) rfl Tryd.underlying97 (by kernel_rfl) infoS (by decide) (by decide) (fillS1 adp p.length cp)) (by decide) ?_
      intro b2 hb2
      refine HL.val ((Val.calls en34 (fun w hw => few1_any (hw.at (i := 0) rfl) (sp.sn szBy hw.sn rfl) hp) rfl).as (congrArg Value.bool (decide_eq_true hfp))) (by decide) ?_
      refine HL.val (Val.not rfl) (by decide) ?_
      refine HL.val (Val.move rfl) (by decide) ?_
      refine HL.valg rfl (Val.load_row rfl (fun w hw => hw.at (i := 1) rfl) Tryd.underlying30 rfl (by kernel_rfl)) (by decide) ?_
      refine HL.newg rfl (New.bslice rfl Tryd.underlying47 (by kernel_rfl) info30 (by decide) (by decide) (fill1 x)) (by decide) ?_
      intro b3 hb3
      refine HL.valg rfl ((Val.calls en25 (fun w hw => has_any (l := [x]) (hw.at (i := 0) rfl) (fun k hk => by match k, hk with | 0, _ => exact hBx) (show 1 < 4611686018427387904 from by decide)) rfl).as (v := .bool false) (congrArg Value.bool (by simpa using hx))) (by decide) ?_
      refine HL.valg rfl (Val.not rfl) (by decide) ?_
      refine HL.val (Val.pickF rfl rfl) (by decide) ?_
      refine HL.nil ?_
      refine HQ.next ?_
      refine HC.yes rfl ?_
      refine HC.seq ?_
      refine HC.region ?_
      refine HL.val (Val.assign rfl) (by decide) ?_
      refine HL.nil ?_
      refine HQ.next ?_
      refine HC.ret ?_
      refine HQ.thenRet ?_
      exact HQ.ret1 rfl rfl (pure_end rfl)
  · refine calls_H (args := [.slice adp p.length cp, byV 16 x]) noD [] Tryd.func8 rfl (m := 38) rfl rfl (hold_nil _ _) ?_
    refine HC.seq ?_
    refine HC.region ?_
    refine HL.new (New.box rfl) (by decide) ?_
    intro b1 hb1
    refine HL.val (Val.assign rfl) (by decide) ?_
    refine HL.nil ?_
    refine HQ.next ?_
    refine HC.seq ?_
    refine HC.seq ?_
    refine HC.region ?_
    refine HL.val (Val.move rfl) (by decide) ?_
    refine HL.val (Val.lenS rfl rfl Tryd.underlying47) (by decide) ?_
    refine HL.val ((Val.gtr rfl rfl).as (congrArg Value.bool ((lssN 2147483647 p.length).trans (decide_eq_false hzp)))) (by decide) ?_
    refine HL.nil ?_
    refine HQ.next ?_
    refine HC.no rfl ?_
    refine HC.skip ?_
    refine HQ.next ?_
    refine HC.seq ?_
    refine HC.seq ?_
    refine HC.region ?_
    refine HL.val (Val.move rfl) (by decide) ?_
    refine HL.new (New.bslice (s := 1) rfl Tryd.underlying97 (by kernel_rfl) infoS (by decide) (by decide) (fillS1 adp p.length cp)) (by decide) ?_
    intro b2 hb2
    refine HL.val ((Val.calls en34 (fun w hw => few1_any (hw.at (i := 0) rfl) (sp.sn szBy hw.sn rfl) hp) rfl).as (congrArg Value.bool (decide_eq_false hfp))) (by decide) ?_
    refine HL.val (Val.not rfl) (by decide) ?_
    refine HL.val (Val.move rfl) (by decide) ?_
    refine HL.skip rfl (by decide) ?_
    refine HL.skip rfl (by decide) ?_
    refine HL.skip rfl (by decide) ?_
    refine HL.skip rfl (by decide) ?_
    refine HL.val (Val.pickT rfl rfl) (by decide) ?_
    refine HL.nil ?_
    refine HQ.next ?_
    refine HC.yes rfl ?_
    refine HC.seq ?_
    refine HC.region ?_
    refine HL.val (Val.assign rfl) (by decide) ?_
    refine HL.nil ?_
    refine HQ.next ?_
    refine HC.ret ?_
    refine HQ.thenRet ?_
    exact HQ.ret1 rfl rfl (pure_end rfl)
set_option maxRecDepth 100000 in
theorem fnEvaluate128_met (os : Os) (args : Array Value) : laidMetH Tryd.prog Rows.fnEvaluate128Row.laid ((World.doorLaid Tryd.prog 400 os).forCall (fun _ _ => 0) ⟨#[], args, []⟩).memory :=
  laidMetH_of_parts3 (fuel := 8) (laidMet_of_run' 8 (by kernel_rfl) (by kernel_rfl)) (by kernel_rfl) (by kernel_rfl)
set_option maxRecDepth 100000 in
theorem fnEvaluate128_lifted (os : Os) (started : os.Started) (H : Type) (enc : TypeId × Value → H) :
    ReturnsInHanded {} Tryd.checked os 8 .any (fun w args => (Rows.fnEvaluate128Spec.pre enc Tryd.prog Tryd.f8 [] false w args ∧ laidMetH Tryd.prog Rows.fnEvaluate128Row.laid w) ∧ sizedMet enc Tryd.prog Tryd.f8 (OpenSpec.ofChange Rows.fnEvaluate128Spec) false w args)
      (Rows.fnEvaluate128Spec.post enc Tryd.prog Tryd.f8 false true false false) := by
  refine returnsInHanded_of_change_and (C := Tryd.checked) (X := fun w _ => laidMetH Tryd.prog Rows.fnEvaluate128Row.laid w) (fun _ _ _ hh h => h.of_heap hh) own1 started (by kernel_rfl) Tryd.func8
    (ChangeSpec.witness_shaped (enc := enc) (C := Tryd.checked) (os := os) (X := fun w _ => laidMetH Tryd.prog Rows.fnEvaluate128Row.laid w) false (World.doorLaid Tryd.prog 400 os) #[.slice none 0 0, byV 16 0] 8 rfl (World.shaped_of_RefB (by kernel_rfl) (by kernel_rfl)) (by kernel_rfl) (by kernel_rfl) (by kernel_rfl) (fnEvaluate128_met os _)) ?_
  intro W base args ds gs before hval0 hW _ _ hL _
  have hval : ∀ (j : Nat) t v, Tryd.f8.params[j]? = some t → args[j]? = some v → Value.okWide Tryd.prog W .any base t v := hval0
  have hW' := hW
  obtain ⟨p, q, hA0, hV, rfl, hfz, hnd⟩ := hW
  have hV0 := hV
  have hA : DataW.TrodAll enc Tryd.prog W 0 (fun _ => true) true Tryd.f8.params.toList args.toList ds p := hA0
  rw [Tryd.params8] at hA hval
  obtain ⟨v0, v1, d0, d1, p0, p1, rfl, rfl, rfl, h0, h1⟩ := trodAll_two hA
  obtain ⟨g0, rfl⟩ : ∃ g0, gs = [g0] := by
    have hgl := trodVars_len hV0
    match gs, hgl with
    | [g0], _ => exact ⟨g0, rfl⟩
  obtain ⟨adp, bp, op, cp, p, rfl, np, hp, sp⟩ := open_rows Tryd.underlying47 Tryd.underlying30 Tryd.underlying5 (by kernel_rfl) (by kernel_rfl) (by decide) (hval 0 47 v0 rfl rfl) h0
  obtain ⟨x, hx, rfl, rfl⟩ := open_by Tryd.underlying30 Tryd.underlying5 (by kernel_rfl) (by kernel_rfl) (hval 1 30 v1 rfl rfl) h1
  clear hA0 hval0
  refine (main_w (gr_at (laid_at (by kernel_rfl) hL 0 rfl)) np hp sp hx).mono fun e W' ⟨he, hb⟩ => ?_
  subst he
  exact ⟨_, rfl, ⟨_, _, _, [], _, _, hW', trodAll_mk1 (shut_bool Tryd.underlying4 true), trodAll_mk2 (Below.trod laidOut1 (by kernel_rfl) (of_decide_eq_true (by kernel_rfl)) h0 hb (trod_lt h0)) (Below.trod laidOut1 (by kernel_rfl) (of_decide_eq_true (by kernel_rfl)) h1 hb (by simp)), Below.trodVars laidOut1 hb (by kernel_rfl) hV, hb.frame _, fun h => by cases h⟩⟩
theorem fnEvaluate128_c1 : (Rows.fnEvaluate128Row.inPlace == Tryd.pinned.checked.prog.inPlace 8) = true := by kernel_rfl
theorem fnEvaluate128_c2 : (Rows.fnEvaluate128Row.unfollowed == Tryd.pinned.checked.prog.unfollowed 8) = true := by kernel_rfl
theorem fnEvaluate128_c3 : (Rows.fnEvaluate128Row.recurses == Tryd.pinned.checked.prog.recurses 8) = true := by kernel_rfl
theorem fnEvaluate128_c4 : (Rows.fnEvaluate128Row.named == Tryd.pinned.checked.prog.varsNamed 8) = true := by kernel_rfl
theorem fnEvaluate128_c5 : Rows.fnEvaluate128Row.wf (OpenSpec.ofChange Rows.fnEvaluate128Spec) = true := by kernel_rfl
theorem fnEvaluate128_c8 : (Rows.fnEvaluate128Row.plainKeys == Tryd.pinned.checked.prog.plainKeys) = true := by kernel_rfl
theorem fnEvaluate128_d1 : (Rows.fnEvaluate128Row.lifted == Tryd.pinned.checked.prog.liftsFinal) = true := by rw [lifts1]; rfl
theorem fnEvaluate128_d2 : (Tryd.pinned.checked.prog.make == some Rows.fnEvaluate128Row.make) = true := by rw [make1]; rfl
theorem looks1 : false = Tryd.pinned.checked.prog.looks [] := by kernel_rfl
theorem fnEvaluate128_closed : joinedFacts Tryd.pinned.checked.prog 8 Tryd.f8 Rows.fnEvaluate128Spec Rows.fnEvaluate128Row = true := by
  delta joinedFacts
  repeat' with_reducible apply and_i
  all_goals first | with_reducible exact fnEvaluate128_c1 | with_reducible exact fnEvaluate128_c2 | with_reducible exact fnEvaluate128_c3 | with_reducible exact fnEvaluate128_c4 | with_reducible exact fnEvaluate128_c5 | with_reducible exact c6 | with_reducible exact c7 | with_reducible exact fnEvaluate128_c8 | with_reducible exact c9 | with_reducible exact may1 | with_reducible exact fnEvaluate128_d1 | with_reducible exact fnEvaluate128_d2 | kernel_rfl
theorem fnEvaluate128_named : Tryd.pinned.checked.prog.funcNamed Rows.fnEvaluate128Row.func = some 8 := by kernel_rfl
theorem fnEvaluate128_inst : Tryd.f8.isInstance Tryd.pinned.checked.prog Rows.fnEvaluate128Row.origin Rows.fnEvaluate128Row.targs := of_decide_eq_true (by kernel_rfl)
theorem fnEvaluate128_wrap : Tryd.f8.isWrapper Tryd.pinned.checked.prog Rows.fnEvaluate128Row.wrapper Rows.fnEvaluate128Row.mainSum := by unfold Func.isWrapper; first | (rw [if_pos (by decide +kernel)]; kernel_rfl) | (rw [if_neg (by decide +kernel)]; exact ⟨rfl, rfl⟩)
theorem fnEvaluate128_holds : Rows.FnEvaluate128Said :=
  OpenClaim.holds_of_wide 8 Tryd.f8 rfl rfl rfl rfl rfl rfl rfl ⟨rfl, rfl, rfl, rfl, rfl⟩ rfl rfl rfl rfl rfl fnEvaluate128_named Tryd.func8 fnEvaluate128_closed
    fnEvaluate128_inst fnEvaluate128_wrap
    (fun os started H enc _ => fnEvaluate128_lifted os started H enc)
theorem fnEvaluate128_w : Rows.fnEvaluate128Row.wfByText (OpenSpec.ofChange Rows.fnEvaluate128Spec) = true := by kernel_rfl
theorem fnEvaluate128_main1 : Tryd.pinned.checked.prog.mainIs = some (Rows.fnEvaluate128Card.stood.harness.1, Rows.fnEvaluate128Card.stood.harness.2.toList) := main1.trans (by kernel_rfl)
theorem fnEvaluate128_goes : false = Rows.fnEvaluate128Row.goesBy Tryd.pinned.checked.prog := by kernel_rfl
theorem fnEvaluate128_har : (!Rows.fnEvaluate128Card.stood.harness.1 && Rows.fnEvaluate128Card.stood.harness.2.isEmpty && !false) = false := by kernel_rfl
theorem fnEvaluate128_hl : ∀ f fn, Tryd.pinned.checked.prog.funcNamed Rows.fnEvaluate128Row.func = some f → Tryd.pinned.checked.prog.funcs[f]? = some fn → false = Tryd.pinned.checked.prog.looks [] ∧ ∀ (j : Nat) t, fn.params[j]? = some t → Tryd.pinned.checked.prog.wantsStandIn t = false := fun f fn hf hfn => by
  obtain rfl : f = 8 := (Option.some.inj (fnEvaluate128_named.symm.trans hf)).symm
  obtain rfl : fn = Tryd.f8 := (Option.some.inj (Tryd.func8.symm.trans hfn)).symm
  exact ⟨looks1, fun j t ht => by
    rw [Tryd.params8] at ht
    have hm : t ∈ [47, 30] := by simpa using Array.mem_of_getElem? ht
    have hall : ([47, 30].all fun u => !Tryd.pinned.checked.prog.wantsStandIn u) = true := by kernel_rfl
    exact (show Tryd.pinned.checked.prog.wantsStandIn t = false by simpa using List.all_eq_true.1 hall t hm)⟩
theorem fnEvaluate128Card_holds : Rows.FnEvaluate128CardSaid :=
  Claim7.holds_tied_plain_at .later [] Rows.fnEvaluate128Card.laidKinds true Rows.fnEvaluate128Card.stood.harness false
    fnEvaluate128_holds (fun _ h => by cases h) fnEvaluate128_w (fun _ h => by cases h) fnEvaluate128_row_tie rfl ⟨rfl, rfl⟩ fnEvaluate128_main1 fnEvaluate128_har fnEvaluate128_hl fnEvaluate128_goes
#print axioms fnEvaluate128Card_holds
end Go.Proofs.YtgdfdkpkhjbibaaDoor
