/-
  FnRootRoad128: whatever the input, the law answers true (written by laws2.py).
  Conditions: the package variables that the row lists read as listed (the card ties them to the program's text).
-/
import Derived.Test.YtgdfdkpkhjbibaaDoorFp7
import Derived.Test.YtgdfdkpkhjbibaaDoorTie
import Derived.Test.YtgdfdkpkhjbibaaDoorCards
import Derived.SevenTiedAt
namespace Go.Proofs.YtgdfdkpkhjbibaaDoor
open Go.ChangeShapes Go.WideShapes Go.ChangeAt Go.WideElems Go.RowKit
set_option maxRecDepth 100000 in
theorem rt_ne : ∀ j, j < 66 → ¬ rt (j + 1) = rt j := by decide +kernel
set_option maxRecDepth 100000 in
theorem main_w {k : Nat} {w : World} (hg : GR w) (ht : RT w)  :
    Calls Tryd.prog 13 #[.int .u64 (k : Int)] w fun e w' => e = .returned (.bool true) ∧ Below w.heap.size w w' := by
  by_cases hk1 : 1 ≤ k
  · by_cases hk2 : k ≤ 66
    · have hsq : rt k * rt k % pf = rt (k - 1) := by
        have h := rt_sq (k - 1) (by omega)
        rwa [show k - 1 + 1 = k by omega] at h
      have hne : ¬ rt k = rt (k - 1) := by
        have h := rt_ne (k - 1) (by omega)
        rwa [show k - 1 + 1 = k by omega] at h
      refine calls_H (args := [.int .u64 (k : Int)]) noD [] Tryd.func13 rfl (m := 41) rfl rfl (hold_nil _ _) ?_
      refine HC.seq ?_
      refine HC.region ?_
      refine HL.val (Val.assign rfl) (by decide) ?_
      refine HL.nil ?_
      refine HQ.next ?_
      refine HC.seq ?_
      refine HC.seq ?_
      refine HC.region ?_
      refine HL.val (Val.move rfl) (by decide) ?_
      refine HL.val ((Val.lss rfl rfl).as (congrArg Value.bool ((lssN k 1).trans (decide_eq_false (by omega))))) (by decide) ?_
      refine HL.val (Val.move rfl) (by decide) ?_
      refine HL.valg rfl (Val.move rfl) (by decide) ?_
      refine HL.valg rfl (Val.call en21 (fl_p) rfl) (by decide) ?_
      refine HL.valg rfl (Val.field1 rfl (fieldA2)) (by decide) ?_
      refine HL.valg rfl ((Val.convI rfl rfl Tryd.underlying22).as (v := .int .u64 66) rfl) (by decide) ?_
      refine HL.valg rfl ((Val.gtr rfl rfl).as (congrArg Value.bool ((gtrN 66 k).trans (decide_eq_false (by omega))))) (by decide) ?_
      refine HL.val (Val.pickF rfl rfl) (by decide) ?_
      refine HL.nil ?_
      refine HQ.next ?_
      refine HC.no rfl ?_
      refine HC.skip ?_
      refine HQ.next ?_
      refine HC.seq ?_
      refine HC.region ?_
      refine HL.val (Val.move rfl) (by decide) ?_
      refine HL.val (Val.calls en23 (fun w hw => root_good (i := k) (ht.sn hw.sn rfl) (by omega)) rfl) (by decide) ?_
      refine HL.val (Val.calls en44 (fun w hw => iSqrT (hg.sn hw.sn rfl) (rt_lt (by omega))) rfl) (by decide) ?_
      refine HL.val (Val.move rfl) (by decide) ?_
      refine HL.val (Val.extract rfl rfl) (by decide) ?_
      refine HL.val (Val.extract rfl rfl) (by decide) ?_
      refine HL.new (New.alloc al30) (by decide) ?_
      intro b1 hb1
      refine HL.put 0 rfl (Put.row rfl rfl (by kernel_rfl) (szB _ _ _) (oneB _ _)) (.inl hb1) ?_
      simp only [List.set_cons_zero]
      refine HL.val (Val.assign rfl) (by decide) ?_
      refine HL.nil ?_
      refine HQ.next ?_
      refine HC.seq ?_
      refine HC.draw0 21 (by kernel_rfl) (by kernel_rfl) ?_
      simp only [List.take, List.drop]
      refine HV.val (Val.move rfl) (by decide) ?_
      refine HV.val (Val.move rfl) (by decide) ?_
      refine HV.valg rfl (Val.load_row rfl (fun w hw => hw.at (i := 0) rfl) Tryd.underlying30 rfl (by kernel_rfl)) (by decide) ?_
      refine HV.valg rfl (Val.move rfl) (by decide) ?_
      refine HV.valg rfl ((Val.subI rfl rfl).as (congrArg (Value.int .u64) (wrapUs hk1 (by omega)))) (by decide) ?_
      refine HV.valg rfl (Val.calls en23 (fun w hw => root_good (i := (k - 1)) (ht.sn hw.sn rfl) (by omega)) rfl) (by decide) ?_
      refine HV.valg rfl ((Val.eqlA rfl rfl (by kernel_rfl) (eqlB (pf_by (Nat.mod_lt _ pf_pos)) (pf_by (rt_lt (by omega))))).as (congrArg Value.bool (decide_eq_true hsq))) (by decide) ?_
      refine HV.val (Val.pickT rfl rfl) (by decide) ?_
      refine HV.val (Val.move rfl) (by decide) ?_
      refine HV.valg rfl (Val.calls en23 (fun w hw => root_good (i := 0) (ht.sn hw.sn rfl) (by omega)) rfl) (by decide) ?_
      refine HV.valg rfl (Val.calls en48 (fun w hw => one_good (ht.sn hw.sn rfl)) rfl) (by decide) ?_
      refine HV.valg rfl ((Val.eqlA rfl rfl (by kernel_rfl) (eqlB (pf_by (rt_lt (by omega))) (pf_by (rt_lt (by decide))))).as (congrArg Value.bool (decide_eq_true rfl))) (by decide) ?_
      refine HV.val (Val.pickT rfl rfl) (by decide) ?_
      refine HV.val (Val.move rfl) (by decide) ?_
      refine HV.valg rfl (Val.move rfl) (by decide) ?_
      refine HV.valg rfl (Val.calls en23 (fun w hw => root_good (i := k) (ht.sn hw.sn rfl) (by omega)) rfl) (by decide) ?_
      refine HV.valg rfl (Val.move rfl) (by decide) ?_
      refine HV.valg rfl ((Val.subI rfl rfl).as (congrArg (Value.int .u64) (wrapUs hk1 (by omega)))) (by decide) ?_
      refine HV.valg rfl (Val.calls en23 (fun w hw => root_good (i := (k - 1)) (ht.sn hw.sn rfl) (by omega)) rfl) (by decide) ?_
      refine HV.valg rfl ((Val.neqA rfl rfl (by kernel_rfl) (neqB (pf_by (rt_lt (by omega))) (pf_by (rt_lt (by omega))))).as (congrArg Value.bool (by rw [decide_eq_false hne]))) (by decide) ?_
      refine HV.val (Val.pickT rfl rfl) (by decide) ?_
      refine HV.tail0 ?_
      refine HL.val (Val.assign rfl) (by decide) ?_
      refine HL.nil ?_
      refine HQ.next ?_
      refine HC.ret ?_
      exact HQ.ret1 rfl rfl (pure_end rfl)
    · refine calls_H (args := [.int .u64 (k : Int)]) noD [] Tryd.func13 rfl (m := 41) rfl rfl (hold_nil _ _) ?_
      refine HC.seq ?_
      refine HC.region ?_
      refine HL.val (Val.assign rfl) (by decide) ?_
      refine HL.nil ?_
      refine HQ.next ?_
      refine HC.seq ?_
      refine HC.seq ?_
      refine HC.region ?_
      refine HL.val (Val.move rfl) (by decide) ?_
      refine HL.val ((Val.lss rfl rfl).as (congrArg Value.bool ((lssN k 1).trans (decide_eq_false (by omega))))) (by decide) ?_
      refine HL.val (Val.move rfl) (by decide) ?_
      refine HL.valg rfl (Val.move rfl) (by decide) ?_
      refine HL.valg rfl (Val.call en21 (fl_p) rfl) (by decide) ?_
      refine HL.valg rfl (Val.field1 rfl (fieldA2)) (by decide) ?_
      refine HL.valg rfl ((Val.convI rfl rfl Tryd.underlying22).as (v := .int .u64 66) rfl) (by decide) ?_
      refine HL.valg rfl ((Val.gtr rfl rfl).as (congrArg Value.bool ((gtrN 66 k).trans (decide_eq_true (by omega))))) (by decide) ?_
      refine HL.val (Val.pickF rfl rfl) (by decide) ?_
      refine HL.nil ?_
      refine HQ.next ?_
      refine HC.yes rfl ?_
      refine HC.seq ?_
      refine HC.region ?_
      refine HL.val (Val.assign rfl) (by decide) ?_
      refine HL.nil ?_
      refine HQ.next ?_
      refine HC.ret ?_
      refine HQ.thenRet ?_
      exact HQ.ret1 rfl rfl (pure_end rfl)
  · refine calls_H (args := [.int .u64 (k : Int)]) noD [] Tryd.func13 rfl (m := 41) rfl rfl (hold_nil _ _) ?_
    refine HC.seq ?_
    refine HC.region ?_
    refine HL.val (Val.assign rfl) (by decide) ?_
    refine HL.nil ?_
    refine HQ.next ?_
    refine HC.seq ?_
    refine HC.seq ?_
    refine HC.region ?_
    refine HL.val (Val.move rfl) (by decide) ?_
    refine HL.val ((Val.lss rfl rfl).as (congrArg Value.bool ((lssN k 1).trans (decide_eq_true (by omega))))) (by decide) ?_
    refine HL.val (Val.move rfl) (by decide) ?_
    refine HL.skip rfl (by decide) ?_
    refine HL.skip rfl (by decide) ?_
    refine HL.skip rfl (by decide) ?_
    refine HL.skip rfl (by decide) ?_
    refine HL.skip rfl (by decide) ?_
    refine HL.val (Val.pickT rfl rfl) (by decide) ?_
    refine HL.nil ?_
    refine HQ.next ?_
    refine HC.yes rfl ?_
    refine HC.seq ?_
    refine HC.region ?_
    refine HL.val (Val.assign rfl) (by decide) ?_
    refine HL.nil ?_
    refine HQ.next ?_
    refine HC.ret ?_
    refine HQ.thenRet ?_
    exact HQ.ret1 rfl rfl (pure_end rfl)
set_option maxRecDepth 100000 in
theorem fnRootRoad128_met (os : Os) (args : Array Value) : laidMetH Tryd.prog Rows.fnRootRoad128Row.laid ((World.doorLaid Tryd.prog 400 os).forCall (fun _ _ => 0) ⟨#[], args, []⟩).memory :=
  laidMetH_of_parts3 (fuel := 8) (laidMet_of_run' 8 (by kernel_rfl) (by kernel_rfl)) (by kernel_rfl) (by kernel_rfl)
set_option maxRecDepth 100000 in
theorem fnRootRoad128_lifted (os : Os) (started : os.Started) (H : Type) (enc : TypeId × Value → H) :
    ReturnsInHanded {} Tryd.checked os 13 .any (fun w args => (Rows.fnRootRoad128Spec.pre enc Tryd.prog Tryd.f13 [] false w args ∧ laidMetH Tryd.prog Rows.fnRootRoad128Row.laid w) ∧ sizedMet enc Tryd.prog Tryd.f13 (OpenSpec.ofChange Rows.fnRootRoad128Spec) false w args)
      (Rows.fnRootRoad128Spec.post enc Tryd.prog Tryd.f13 false true false false) := by
  refine returnsInHanded_of_change_and (C := Tryd.checked) (X := fun w _ => laidMetH Tryd.prog Rows.fnRootRoad128Row.laid w) (fun _ _ _ hh h => h.of_heap hh) own1 started (by kernel_rfl) Tryd.func13
    (ChangeSpec.witness_shaped (enc := enc) (C := Tryd.checked) (os := os) (X := fun w _ => laidMetH Tryd.prog Rows.fnRootRoad128Row.laid w) false (World.doorLaid Tryd.prog 400 os) #[.int .u64 0] 8 rfl (World.shaped_of_RefB (by kernel_rfl) (by kernel_rfl)) (by kernel_rfl) (by kernel_rfl) (by kernel_rfl) (fnRootRoad128_met os _)) ?_
  intro W base args ds gs before hval0 hW _ _ hL _
  have hval : ∀ (j : Nat) t v, Tryd.f13.params[j]? = some t → args[j]? = some v → Value.okWide Tryd.prog W .any base t v := hval0
  have hW' := hW
  obtain ⟨p, q, hA0, hV, rfl, hfz, hnd⟩ := hW
  have hV0 := hV
  have hA : DataW.TrodAll enc Tryd.prog W 0 (fun _ => true) true Tryd.f13.params.toList args.toList ds p := hA0
  rw [Tryd.params13] at hA hval
  obtain ⟨v0, d0, rfl, rfl, h0⟩ := trodAll_one hA
  obtain ⟨g0, g1, g2, rfl⟩ : ∃ g0 g1 g2, gs = [g0, g1, g2] := by
    have hgl := trodVars_len hV0
    match gs, hgl with
    | [g0, g1, g2], _ => exact ⟨g0, g1, g2, rfl⟩
  obtain ⟨ki, rfl, rfl, rfl, wk⟩ := open_int Tryd.underlying22 (hval 0 22 v0 rfl rfl) h0
  obtain ⟨k, rfl, lk⟩ := nat_of_u64 wk
  clear hA0 hval0
  refine (main_w (gr_at (laid_at (by kernel_rfl) hL 0 rfl)) (rt_at (laid_at (by kernel_rfl) hL 1 rfl))).mono fun e W' ⟨he, hb⟩ => ?_
  subst he
  exact ⟨_, rfl, ⟨_, _, _, [], _, _, hW', trodAll_mk1 (shut_bool Tryd.underlying4 true), trodAll_mk1 (shut_int Tryd.underlying22 wk), Below.trodVars laidOut1 hb (by kernel_rfl) hV, hb.frame _, fun h => by cases h⟩⟩
theorem fnRootRoad128_c1 : (Rows.fnRootRoad128Row.inPlace == Tryd.pinned.checked.prog.inPlace 13) = true := by kernel_rfl
theorem fnRootRoad128_c2 : (Rows.fnRootRoad128Row.unfollowed == Tryd.pinned.checked.prog.unfollowed 13) = true := by kernel_rfl
theorem fnRootRoad128_c3 : (Rows.fnRootRoad128Row.recurses == Tryd.pinned.checked.prog.recurses 13) = true := by kernel_rfl
theorem fnRootRoad128_c4 : (Rows.fnRootRoad128Row.named == Tryd.pinned.checked.prog.varsNamed 13) = true := by kernel_rfl
theorem fnRootRoad128_c5 : Rows.fnRootRoad128Row.wf (OpenSpec.ofChange Rows.fnRootRoad128Spec) = true := by kernel_rfl
theorem fnRootRoad128_c8 : (Rows.fnRootRoad128Row.plainKeys == Tryd.pinned.checked.prog.plainKeys) = true := by kernel_rfl
theorem fnRootRoad128_d1 : (Rows.fnRootRoad128Row.lifted == Tryd.pinned.checked.prog.liftsFinal) = true := by rw [lifts1]; rfl
theorem fnRootRoad128_d2 : (Tryd.pinned.checked.prog.make == some Rows.fnRootRoad128Row.make) = true := by rw [make1]; rfl
theorem looks1 : false = Tryd.pinned.checked.prog.looks [] := by kernel_rfl
theorem fnRootRoad128_closed : joinedFacts Tryd.pinned.checked.prog 13 Tryd.f13 Rows.fnRootRoad128Spec Rows.fnRootRoad128Row = true := by
  delta joinedFacts
  repeat' with_reducible apply and_i
  all_goals first | with_reducible exact fnRootRoad128_c1 | with_reducible exact fnRootRoad128_c2 | with_reducible exact fnRootRoad128_c3 | with_reducible exact fnRootRoad128_c4 | with_reducible exact fnRootRoad128_c5 | with_reducible exact c6 | with_reducible exact c7 | with_reducible exact fnRootRoad128_c8 | with_reducible exact c9 | with_reducible exact may1 | with_reducible exact fnRootRoad128_d1 | with_reducible exact fnRootRoad128_d2 | kernel_rfl
theorem fnRootRoad128_named : Tryd.pinned.checked.prog.funcNamed Rows.fnRootRoad128Row.func = some 13 := by kernel_rfl
theorem fnRootRoad128_inst : Tryd.f13.isInstance Tryd.pinned.checked.prog Rows.fnRootRoad128Row.origin Rows.fnRootRoad128Row.targs := of_decide_eq_true (by kernel_rfl)
theorem fnRootRoad128_wrap : Tryd.f13.isWrapper Tryd.pinned.checked.prog Rows.fnRootRoad128Row.wrapper Rows.fnRootRoad128Row.mainSum := by unfold Func.isWrapper; first | (rw [if_pos (by decide +kernel)]; kernel_rfl) | (rw [if_neg (by decide +kernel)]; exact ⟨rfl, rfl⟩)
theorem fnRootRoad128_holds : Rows.FnRootRoad128Said :=
  OpenClaim.holds_of_wide 13 Tryd.f13 rfl rfl rfl rfl rfl rfl rfl ⟨rfl, rfl, rfl, rfl, rfl⟩ rfl rfl rfl rfl rfl fnRootRoad128_named Tryd.func13 fnRootRoad128_closed
    fnRootRoad128_inst fnRootRoad128_wrap
    (fun os started H enc _ => fnRootRoad128_lifted os started H enc)
theorem fnRootRoad128_w : Rows.fnRootRoad128Row.wfByText (OpenSpec.ofChange Rows.fnRootRoad128Spec) = true := by kernel_rfl
theorem fnRootRoad128_main1 : Tryd.pinned.checked.prog.mainIs = some (Rows.fnRootRoad128Card.stood.harness.1, Rows.fnRootRoad128Card.stood.harness.2.toList) := main1.trans (by kernel_rfl)
theorem fnRootRoad128_goes : false = Rows.fnRootRoad128Row.goesBy Tryd.pinned.checked.prog := by kernel_rfl
theorem fnRootRoad128_har : (!Rows.fnRootRoad128Card.stood.harness.1 && Rows.fnRootRoad128Card.stood.harness.2.isEmpty && !false) = false := by kernel_rfl
theorem fnRootRoad128_hl : ∀ f fn, Tryd.pinned.checked.prog.funcNamed Rows.fnRootRoad128Row.func = some f → Tryd.pinned.checked.prog.funcs[f]? = some fn → false = Tryd.pinned.checked.prog.looks [] ∧ ∀ (j : Nat) t, fn.params[j]? = some t → Tryd.pinned.checked.prog.wantsStandIn t = false := fun f fn hf hfn => by
  obtain rfl : f = 13 := (Option.some.inj (fnRootRoad128_named.symm.trans hf)).symm
  obtain rfl : fn = Tryd.f13 := (Option.some.inj (Tryd.func13.symm.trans hfn)).symm
  exact ⟨looks1, fun j t ht => by
    rw [Tryd.params13] at ht
    have hm : t ∈ [22] := by simpa using Array.mem_of_getElem? ht
    have hall : ([22].all fun u => !Tryd.pinned.checked.prog.wantsStandIn u) = true := by kernel_rfl
    exact (show Tryd.pinned.checked.prog.wantsStandIn t = false by simpa using List.all_eq_true.1 hall t hm)⟩
theorem fnRootRoad128Card_holds : Rows.FnRootRoad128CardSaid :=
  Claim7.holds_tied_plain_at .later [] Rows.fnRootRoad128Card.laidKinds true Rows.fnRootRoad128Card.stood.harness false
    fnRootRoad128_holds (fun _ h => by cases h) fnRootRoad128_w (fun _ h => by cases h) fnRootRoad128_row_tie rfl ⟨rfl, rfl⟩ fnRootRoad128_main1 fnRootRoad128_har fnRootRoad128_hl fnRootRoad128_goes
#print axioms fnRootRoad128Card_holds
end Go.Proofs.YtgdfdkpkhjbibaaDoor
