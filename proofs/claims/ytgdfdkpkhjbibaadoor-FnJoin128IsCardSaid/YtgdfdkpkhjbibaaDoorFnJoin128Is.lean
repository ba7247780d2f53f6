/-
  FnJoin128Is: whatever the input, the law answers true (written by laws2.py).
  Conditions: the package variables that the row lists read as listed (the card ties them to the program's text).
-/
import Derived.Test.YtgdfdkpkhjbibaaDoorVd
import Derived.Test.YtgdfdkpkhjbibaaDoorTie
import Derived.Test.YtgdfdkpkhjbibaaDoorCards
import Derived.SevenTiedAt
namespace Go.Proofs.YtgdfdkpkhjbibaaDoor
open Go.ChangeShapes Go.WideShapes Go.ChangeAt Go.WideElems Go.RowKit
theorem infoS : (Tryd.prog.info? 47).bind (·.zero) = some (.slice none 0 0) := by kernel_rfl
theorem fillS1 (a : Option Addr) (l c : Nat) : Instr.fill (fun i => some (i * 1, 1)) ((Array.range (1 * 1)).map ((Value.slice none 0 0).cells[· % (Value.slice none 0 0).cells.size]!)) [(0, .slice a l c)] = some #[.slice a l c] := by kernel_rfl
theorem fillS2 (a : Option Addr) (l c : Nat) (a2 : Option Addr) (l2 c2 : Nat) : Instr.fill (fun i => some (i * 1, 1)) ((Array.range (2 * 1)).map ((Value.slice none 0 0).cells[· % (Value.slice none 0 0).cells.size]!)) [(0, .slice a l c), (1, .slice a2 l2 c2)] = some #[.slice a l c, .slice a2 l2 c2] := by kernel_rfl
set_option maxRecDepth 100000 in
theorem main_w {adx : Option Addr} {bx ox cx : Nat} {x : List Nat} {w : World} (hg : GR w) (_nx : x.length ≤ 9223372036854775807) (hx : ∀ k, k < x.length → x.getD k 0 < 256 ^ 16) (sx : SlA (byA 16) 16 w adx bx ox x) :
    Calls Tryd.prog 10 #[.slice adx x.length cx] w fun e w' => e = .returned (.bool true) ∧ Below w.heap.size w w' := by
  by_cases hzx : 2147483647 < x.length
  · refine calls_H (args := [.slice adx x.length cx]) noD [] Tryd.func10 rfl (m := 28) rfl rfl (hold_nil _ _) ?_
    refine HC.seq ?_
    refine HC.region ?_
    refine HL.val (Val.assign rfl) (by decide) ?_
    refine HL.nil ?_
    refine HQ.next ?_
    refine HC.seq ?_
    refine HC.seq ?_
    refine HC.region ?_
    refine HL.val (Val.move rfl) (by decide) ?_
    refine HL.val (Val.lenS rfl rfl Tryd.underlying47) (by decide) ?_
    refine HL.val ((Val.gtr rfl rfl).as (congrArg Value.bool ((lssN 2147483647 x.length).trans (decide_eq_true hzx)))) (by decide) ?_
    refine HL.nil ?_
    refine HQ.next ?_
    refine HC.yes rfl ?_
    refine HC.seq ?_
    refine HC.region ?_
    refine HL.val (Val.assign rfl) (by decide) ?_
    refine HL.nil ?_
    refine HQ.next ?_
    refine HC.ret ?_
    refine HQ.thenRet ?_
    exact HQ.ret1 rfl rfl (pure_end rfl)
  by_cases hfx : Few x
  · have hpx := allLt_of hfx.2
    have hlx : x.length ≤ 100000 := Nat.le_trans hfx.1 (by decide)
    refine calls_H (args := [.slice adx x.length cx]) noD [] Tryd.func10 rfl (m := 28) rfl rfl (hold_nil _ _) ?_
    refine HC.seq ?_
    refine HC.region ?_
    refine HL.val (Val.assign rfl) (by decide) ?_
    refine HL.nil ?_
    refine HQ.next ?_
    refine HC.seq ?_
    refine HC.seq ?_
    refine HC.region ?_
    refine HL.val (Val.move rfl) (by decide) ?_
    refine HL.val (Val.lenS rfl rfl Tryd.underlying47) (by decide) ?_
    refine HL.val ((Val.gtr rfl rfl).as (congrArg Value.bool ((lssN 2147483647 x.length).trans (decide_eq_false hzx)))) (by decide) ?_
    refine HL.nil ?_
    refine HQ.next ?_
    refine HC.no rfl ?_
    refine HC.skip ?_
    refine HQ.next ?_
    refine HC.seq ?_
    refine HC.seq ?_
    refine HC.region ?_
    refine HL.val (Val.move rfl) (by decide) ?_
    refine HL.new (New.bslice (s := 1) rfl Tryd.underlying97 (by kernel_rfl) infoS (by decide) (by decide) (fillS1 adx x.length cx)) (by decide) ?_
    intro b1 hb1
    refine HL.val ((Val.calls en34 (fun w hw => few1_any (hw.at (i := 0) rfl) (sx.sn szBy hw.sn rfl) hx) rfl).as (congrArg Value.bool (decide_eq_true hfx))) (by decide) ?_
    refine HL.val (Val.not rfl) (by decide) ?_
    refine HL.nil ?_
    refine HQ.next ?_
    refine HC.no rfl ?_
    refine HC.skip ?_
    refine HQ.next ?_
    refine HC.seq ?_
    refine HC.region ?_
    refine HL.val (Val.move rfl) (by decide) ?_
    refine HL.val (Val.calls en43 (fun w hw => ijoin_good (hg.sn hw.sn rfl) (sx.sn szBy hw.sn rfl) hpx hlx) rfl) (by decide) ?_
    refine HL.val (Val.move rfl) (by decide) ?_
    refine HL.val (Val.extract rfl rfl) (by decide) ?_
    refine HL.val (Val.extract rfl rfl) (by decide) ?_
    refine HL.new (New.alloc al30) (by decide) ?_
    intro b2 hb2
    refine HL.put 0 rfl (Put.row rfl rfl (by kernel_rfl) (szB _ _ _) (oneB _ _)) (.inl hb2) ?_
    simp only [List.set_cons_zero]
    refine HL.val (Val.assign rfl) (by decide) ?_
    refine HL.nil ?_
    refine HQ.next ?_
    refine HC.seq ?_
    refine HC.region ?_
    refine HL.val (Val.move rfl) (by decide) ?_
    refine HL.val (Val.move rfl) (by decide) ?_
    refine HL.valg rfl (Val.load_row rfl (fun w hw => hw.at (i := 0) rfl) Tryd.underlying30 rfl (by kernel_rfl)) (by decide) ?_
    refine HL.valg rfl (Val.call en22 (n_p (pf_by (evL_lt _ _))) rfl) (by decide) ?_
    refine HL.valg rfl (Val.call en21 (fl_p) rfl) (by decide) ?_
    refine HL.valg rfl (Val.move rfl) (by decide) ?_
    refine HL.fam (FamV.call (R := fun r => PreW r.2.2 x ∧ x.length ≤ r.2.1) (ob := fun r => .cells r.2.2 25 (0, 0)) (pv := fun r => .slice (some ⟨r.1, 0, none⟩) x.length r.2.1) en36 (fun w hw => l_any (sx.sn szBy hw.sn rfl) hx hlx) rfl) (fun _ h => by cases h; rfl) (by decide) ?_
    intro b3 c3 q3 r3 hb3
    dsimp only
    refine HL.valg rfl (Val.build rfl (built_wl 2 (by decide))) (by decide) ?_
    refine HL.valg rfl (Val.calls en39 (fun w hw => seval_any (PreW.sl r3.1 (hw.at (i := 0) rfl)) hpx (by decide +kernel) hlx) rfl) (by decide) ?_
    refine HL.valg rfl ((Val.eqlA rfl rfl (by kernel_rfl) (eqlW (lt_w (evL_lt _ _)) (lt_w (evL_lt _ _)))).as (congrArg Value.bool (decide_eq_true rfl))) (by decide) ?_
    refine HL.val (Val.pickT rfl rfl) (by decide) ?_
    refine HL.val (Val.assign rfl) (by decide) ?_
    refine HL.nil ?_
    refine HQ.next ?_
    refine HC.ret ?_
    exact HQ.ret1 rfl rfl (pure_end rfl)
  · refine calls_H (args := [.slice adx x.length cx]) noD [] Tryd.func10 rfl (m := 28) rfl rfl (hold_nil _ _) ?_
    refine HC.seq ?_
    refine HC.region ?_
    refine HL.val (Val.assign rfl) (by decide) ?_
    refine HL.nil ?_
    refine HQ.next ?_
    refine HC.seq ?_
    refine HC.seq ?_
    refine HC.region ?_
    refine HL.val (Val.move rfl) (by decide) ?_
    refine HL.val (Val.lenS rfl rfl Tryd.underlying47) (by decide) ?_
    refine HL.val ((Val.gtr rfl rfl).as (congrArg Value.bool ((lssN 2147483647 x.length).trans (decide_eq_false hzx)))) (by decide) ?_
    refine HL.nil ?_
    refine HQ.next ?_
    refine HC.no rfl ?_
    refine HC.skip ?_
    refine HQ.next ?_
    refine HC.seq ?_
    refine HC.seq ?_
    refine HC.region ?_
    refine HL.val (Val.move rfl) (by decide) ?_
    refine HL.new (New.bslice (s := 1) rfl Tryd.underlying97 (by kernel_rfl) infoS (by decide) (by decide) (fillS1 adx x.length cx)) (by decide) ?_
    intro b1 hb1
    refine HL.val ((Val.calls en34 (fun w hw => few1_any (hw.at (i := 0) rfl) (sx.sn szBy hw.sn rfl) hx) rfl).as (congrArg Value.bool (decide_eq_false hfx))) (by decide) ?_
    refine HL.val (Val.not rfl) (by decide) ?_
    refine HL.nil ?_
    refine HQ.next ?_
    refine HC.yes rfl ?_
    refine HC.seq ?_
    refine HC.region ?_
    refine HL.val (Val.assign rfl) (by decide) ?_
    refine HL.nil ?_
    refine HQ.next ?_
    refine HC.ret ?_
    refine HQ.thenRet ?_
    exact HQ.ret1 rfl rfl (pure_end rfl)
set_option maxRecDepth 100000 in
theorem fnJoin128Is_met (os : Os) (args : Array Value) : laidMetH Tryd.prog Rows.fnJoin128IsRow.laid ((World.doorLaid Tryd.prog 400 os).forCall (fun _ _ => 0) ⟨#[], args, []⟩).memory :=
  laidMetH_of_parts3 (fuel := 8) (laidMet_of_run' 8 (by kernel_rfl) (by kernel_rfl)) (by kernel_rfl) (by kernel_rfl)
set_option maxRecDepth 100000 in
theorem fnJoin128Is_lifted (os : Os) (started : os.Started) (H : Type) (enc : TypeId × Value → H) :
    ReturnsInHanded {} Tryd.checked os 10 .any (fun w args => (Rows.fnJoin128IsSpec.pre enc Tryd.prog Tryd.f10 [] false w args ∧ laidMetH Tryd.prog Rows.fnJoin128IsRow.laid w) ∧ sizedMet enc Tryd.prog Tryd.f10 (OpenSpec.ofChange Rows.fnJoin128IsSpec) false w args)
      (Rows.fnJoin128IsSpec.post enc Tryd.prog Tryd.f10 false true false false) := by
  refine returnsInHanded_of_change_and (C := Tryd.checked) (X := fun w _ => laidMetH Tryd.prog Rows.fnJoin128IsRow.laid w) (fun _ _ _ hh h => h.of_heap hh) own1 started (by kernel_rfl) Tryd.func10
    (ChangeSpec.witness_shaped (enc := enc) (C := Tryd.checked) (os := os) (X := fun w _ => laidMetH Tryd.prog Rows.fnJoin128IsRow.laid w) false (World.doorLaid Tryd.prog 400 os) #[.slice none 0 0] 8 rfl (World.shaped_of_RefB (by kernel_rfl) (by kernel_rfl)) (by kernel_rfl) (by kernel_rfl) (by kernel_rfl) (fnJoin128Is_met os _)) ?_
  intro W base args ds gs before hval0 hW _ _ hL _
  have hval : ∀ (j : Nat) t v, Tryd.f10.params[j]? = some t → args[j]? = some v → Value.okWide Tryd.prog W .any base t v := hval0
  have hW' := hW
  obtain ⟨p, q, hA0, hV, rfl, hfz, hnd⟩ := hW
  have hV0 := hV
  have hA : DataW.TrodAll enc Tryd.prog W 0 (fun _ => true) true Tryd.f10.params.toList args.toList ds p := hA0
  rw [Tryd.params10] at hA hval
  obtain ⟨v0, d0, rfl, rfl, h0⟩ := trodAll_one hA
  obtain ⟨g0, rfl⟩ : ∃ g0, gs = [g0] := by
    have hgl := trodVars_len hV0
    match gs, hgl with
    | [g0], _ => exact ⟨g0, rfl⟩
  obtain ⟨adx, bx, ox, cx, x, rfl, nx, hx, sx⟩ := open_rows Tryd.underlying47 Tryd.underlying30 Tryd.underlying5 (by kernel_rfl) (by kernel_rfl) (by decide) (hval 0 47 v0 rfl rfl) h0
  clear hA0 hval0
  refine (main_w (gr_at (laid_at (by kernel_rfl) hL 0 rfl)) nx hx sx).mono fun e W' ⟨he, hb⟩ => ?_
  subst he
  exact ⟨_, rfl, ⟨_, _, _, [], _, _, hW', trodAll_mk1 (shut_bool Tryd.underlying4 true), trodAll_mk1 (Below.trod laidOut1 (by kernel_rfl) (of_decide_eq_true (by kernel_rfl)) h0 hb (trod_lt h0)), Below.trodVars laidOut1 hb (by kernel_rfl) hV, hb.frame _, fun h => by cases h⟩⟩
theorem fnJoin128Is_c1 : (Rows.fnJoin128IsRow.inPlace == Tryd.pinned.checked.prog.inPlace 10) = true := by kernel_rfl
theorem fnJoin128Is_c2 : (Rows.fnJoin128IsRow.unfollowed == Tryd.pinned.checked.prog.unfollowed 10) = true := by kernel_rfl
theorem fnJoin128Is_c3 : (Rows.fnJoin128IsRow.recurses == Tryd.pinned.checked.prog.recurses 10) = true := by kernel_rfl
theorem fnJoin128Is_c4 : (Rows.fnJoin128IsRow.named == Tryd.pinned.checked.prog.varsNamed 10) = true := by kernel_rfl
theorem fnJoin128Is_c5 : Rows.fnJoin128IsRow.wf (OpenSpec.ofChange Rows.fnJoin128IsSpec) = true := by kernel_rfl
theorem fnJoin128Is_c8 : (Rows.fnJoin128IsRow.plainKeys == Tryd.pinned.checked.prog.plainKeys) = true := by kernel_rfl
theorem fnJoin128Is_d1 : (Rows.fnJoin128IsRow.lifted == Tryd.pinned.checked.prog.liftsFinal) = true := by rw [lifts1]; rfl
theorem fnJoin128Is_d2 : (Tryd.pinned.checked.prog.make == some Rows.fnJoin128IsRow.make) = true := by rw [make1]; rfl
theorem looks1 : false = Tryd.pinned.checked.prog.looks [] := by kernel_rfl
theorem fnJoin128Is_closed : joinedFacts Tryd.pinned.checked.prog 10 Tryd.f10 Rows.fnJoin128IsSpec Rows.fnJoin128IsRow = true := by
  delta joinedFacts
  repeat' with_reducible apply and_i
  all_goals first | with_reducible exact fnJoin128Is_c1 | with_reducible exact fnJoin128Is_c2 | with_reducible exact fnJoin128Is_c3 | with_reducible exact fnJoin128Is_c4 | with_reducible exact fnJoin128Is_c5 | with_reducible exact c6 | with_reducible exact c7 | with_reducible exact fnJoin128Is_c8 | with_reducible exact c9 | with_reducible exact may1 | with_reducible exact fnJoin128Is_d1 | with_reducible exact fnJoin128Is_d2 | kernel_rfl
theorem fnJoin128Is_named : Tryd.pinned.checked.prog.funcNamed Rows.fnJoin128IsRow.func = some 10 := by kernel_rfl
theorem fnJoin128Is_inst : Tryd.f10.isInstance Tryd.pinned.checked.prog Rows.fnJoin128IsRow.origin Rows.fnJoin128IsRow.targs := of_decide_eq_true (by kernel_rfl)
theorem fnJoin128Is_wrap : Tryd.f10.isWrapper Tryd.pinned.checked.prog Rows.fnJoin128IsRow.wrapper Rows.fnJoin128IsRow.mainSum := by unfold Func.isWrapper; first | (rw [if_pos (by decide +kernel)]; kernel_rfl) | (rw [if_neg (by decide +kernel)]; exact ⟨rfl, rfl⟩)
theorem fnJoin128Is_holds : Rows.FnJoin128IsSaid :=
  OpenClaim.holds_of_wide 10 Tryd.f10 rfl rfl rfl rfl rfl rfl rfl ⟨rfl, rfl, rfl, rfl, rfl⟩ rfl rfl rfl rfl rfl fnJoin128Is_named Tryd.func10 fnJoin128Is_closed
    fnJoin128Is_inst fnJoin128Is_wrap
    (fun os started H enc _ => fnJoin128Is_lifted os started H enc)
theorem fnJoin128Is_w : Rows.fnJoin128IsRow.wfByText (OpenSpec.ofChange Rows.fnJoin128IsSpec) = true := by kernel_rfl
theorem fnJoin128Is_main1 : Tryd.pinned.checked.prog.mainIs = some (Rows.fnJoin128IsCard.stood.harness.1, Rows.fnJoin128IsCard.stood.harness.2.toList) := main1.trans (by kernel_rfl)
theorem fnJoin128Is_goes : false = Rows.fnJoin128IsRow.goesBy Tryd.pinned.checked.prog := by kernel_rfl
theorem fnJoin128Is_har : (!Rows.fnJoin128IsCard.stood.harness.1 && Rows.fnJoin128IsCard.stood.harness.2.isEmpty && !false) = false := by kernel_rfl
theorem fnJoin128Is_hl : ∀ f fn, Tryd.pinned.checked.prog.funcNamed Rows.fnJoin128IsRow.func = some f → Tryd.pinned.checked.prog.funcs[f]? = some fn → false = Tryd.pinned.checked.prog.looks [] ∧ ∀ (j : Nat) t, fn.params[j]? = some t → Tryd.pinned.checked.prog.wantsStandIn t = false := fun f fn hf hfn => by
  obtain rfl : f = 10 := (Option.some.inj (fnJoin128Is_named.symm.trans hf)).symm
  obtain rfl : fn = Tryd.f10 := (Option.some.inj (Tryd.func10.symm.trans hfn)).symm
  exact ⟨looks1, fun j t ht => by
    rw [Tryd.params10] at ht
    have hm : t ∈ [47] := by simpa using Array.mem_of_getElem? ht
    have hall : ([47].all fun u => !Tryd.pinned.checked.prog.wantsStandIn u) = true := by kernel_rfl
    exact (show Tryd.pinned.checked.prog.wantsStandIn t = false by simpa using List.all_eq_true.1 hall t hm)⟩
theorem fnJoin128IsCard_holds : Rows.FnJoin128IsCardSaid :=
  Claim7.holds_tied_plain_at .later [] Rows.fnJoin128IsCard.laidKinds true Rows.fnJoin128IsCard.stood.harness false
    fnJoin128Is_holds (fun _ h => by cases h) fnJoin128Is_w (fun _ h => by cases h) fnJoin128Is_row_tie rfl ⟨rfl, rfl⟩ fnJoin128Is_main1 fnJoin128Is_har fnJoin128Is_hl fnJoin128Is_goes
#print axioms fnJoin128IsCard_holds
end Go.Proofs.YtgdfdkpkhjbibaaDoor
