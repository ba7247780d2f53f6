/-
  FnInvOf128: whatever the input, the law answers true (written by laws2.py).
  Conditions: the package variables that the row lists read as listed (the card ties them to the program's text).
-/
import Derived.Test.YtgdfdkpkhjbibaaDoorFp7
import Derived.Test.YtgdfdkpkhjbibaaDoorTie
import Derived.Test.YtgdfdkpkhjbibaaDoorCards
import Derived.SevenTiedAt
namespace Go.Proofs.YtgdfdkpkhjbibaaDoor
open Go.ChangeShapes Go.WideShapes Go.ChangeAt Go.WideElems Go.RowKit
set_option maxRecDepth 100000 in
theorem main_w {x k : Nat} {w : World} (hg : GR w) (hh : HF w) (ht : RT w) (hv : IV w) (lx : x < 18446744073709551616) (lk : k < 18446744073709551616) :
    Calls Tryd.prog 15 #[.int .u64 (x : Int), .int .u64 (k : Int)] w fun e w' => e = .returned (.bool true) ∧ Below w.heap.size w w' := by
  by_cases hx : x < pf
  · by_cases hz : x = 0
    · refine calls_H (args := [.int .u64 (x : Int), .int .u64 (k : Int)]) noD [] Tryd.func15 rfl (m := 47) rfl rfl (hold_nil _ _) ?_
      refine HC.seq ?_
      refine HC.region ?_
      refine HL.val (Val.assign rfl) (by decide) ?_
      refine HL.nil ?_
      refine HQ.next ?_
      refine HC.seq ?_
      refine HC.region ?_
      refine HL.val (Val.call en21 (fl_p) rfl) (by decide) ?_
      refine HL.val (Val.move rfl) (by decide) ?_
      refine HL.val (Val.call en50 (sof_good x hx lx) rfl) (by decide) ?_
      refine HL.new (New.alloc al25) (by decide) ?_
      intro b1 hb1
      refine HL.put 0 rfl (Put.row rfl rfl (by kernel_rfl) rfl (wA_one _)) (.inl hb1) ?_
      simp only [List.set_cons_zero]
      refine HL.nil ?_
      refine HQ.next ?_
      refine HC.seq ?_
      refine HC.seq ?_
      refine HC.region ?_
      refine HL.val (Val.load_row rfl (fun w hw => hw.at (i := 0) rfl) Tryd.underlying25 rfl (by kernel_rfl)) (by decide) ?_
      refine HL.val (Val.build rfl built_w0) (by decide) ?_
      refine HL.val ((Val.eqlA rfl rfl (by kernel_rfl) (eqlW (lt_w hx) (lt_w zero_lt))).as (congrArg Value.bool (decide_eq_true hz))) (by decide) ?_
      refine HL.val (Val.move rfl) (by decide) ?_
      refine HL.skip rfl (by decide) ?_
      refine HL.skip rfl (by decide) ?_
      refine HL.skip rfl (by decide) ?_
      refine HL.skip rfl (by decide) ?_
      refine HL.skip rfl (by decide) ?_
      refine HL.val (Val.pickT rfl rfl) (by decide) ?_
      refine HL.val (Val.move rfl) (by decide) ?_
      refine HL.skip rfl (by decide) ?_
      refine HL.skip rfl (by decide) ?_
      refine HL.val (Val.pickT rfl rfl) (by decide) ?_
      refine HL.nil ?_
      refine HQ.next ?_
      refine HC.yes rfl ?_
      refine HC.seq ?_
      refine HC.region ?_
      refine HL.val (Val.assign rfl) (by decide) ?_
      refine HL.nil ?_
      refine HQ.next ?_
      refine HC.ret ?_
      refine HQ.thenRet ?_
      exact HQ.ret1 rfl rfl (pure_end rfl)
    · have h0 : 0 < x := by omega
      by_cases hk : k ≤ 128
      · refine calls_H (args := [.int .u64 (x : Int), .int .u64 (k : Int)]) noD [] Tryd.func15 rfl (m := 47) rfl rfl (hold_nil _ _) ?_
        refine HC.seq ?_
        refine HC.region ?_
        refine HL.val (Val.assign rfl) (by decide) ?_
        refine HL.nil ?_
        refine HQ.next ?_
        refine HC.seq ?_
        refine HC.region ?_
        refine HL.val (Val.call en21 (fl_p) rfl) (by decide) ?_
        refine HL.val (Val.move rfl) (by decide) ?_
        refine HL.val (Val.call en50 (sof_good x hx lx) rfl) (by decide) ?_
        refine HL.new (New.alloc al25) (by decide) ?_
        intro b1 hb1
        refine HL.put 0 rfl (Put.row rfl rfl (by kernel_rfl) rfl (wA_one _)) (.inl hb1) ?_
        simp only [List.set_cons_zero]
        refine HL.nil ?_
        refine HQ.next ?_
        refine HC.seq ?_
        refine HC.seq ?_
        refine HC.region ?_
        refine HL.val (Val.load_row rfl (fun w hw => hw.at (i := 0) rfl) Tryd.underlying25 rfl (by kernel_rfl)) (by decide) ?_
        refine HL.val (Val.build rfl built_w0) (by decide) ?_
        refine HL.val ((Val.eqlA rfl rfl (by kernel_rfl) (eqlW (lt_w hx) (lt_w zero_lt))).as (congrArg Value.bool (decide_eq_false hz))) (by decide) ?_
        refine HL.val (Val.move rfl) (by decide) ?_
        refine HL.valg rfl (Val.call en21 (fl_p) rfl) (by decide) ?_
        refine HL.valg rfl (Val.move rfl) (by decide) ?_
        refine HL.valg rfl (Val.build rfl (built_wx x lx)) (by decide) ?_
        refine HL.valg rfl ((Val.call en30 (has_p x) rfl).as (congrArg Value.bool (decide_eq_true hx))) (by decide) ?_
        refine HL.valg rfl (Val.not rfl) (by decide) ?_
        refine HL.val (Val.pickF rfl rfl) (by decide) ?_
        refine HL.val (Val.move rfl) (by decide) ?_
        refine HL.valg rfl (Val.move rfl) (by decide) ?_
        refine HL.valg rfl ((Val.gtr rfl rfl).as (congrArg Value.bool ((gtrN 128 k).trans (decide_eq_false (by omega))))) (by decide) ?_
        refine HL.val (Val.pickF rfl rfl) (by decide) ?_
        refine HL.nil ?_
        refine HQ.next ?_
        refine HC.no rfl ?_
        refine HC.skip ?_
        refine HQ.next ?_
        refine HC.seq ?_
        refine HC.region ?_
        refine HL.val (Val.call en21 (fl_p) rfl) (by decide) ?_
        refine HL.val (Val.build rfl (built_wl 2 (by decide))) (by decide) ?_
        refine HL.val (Val.move rfl) (by decide) ?_
        refine HL.val (Val.build rfl (built_wx k lk)) (by decide) ?_
        refine HL.val (Val.call en51 (spow_p 2 k (by decide +kernel) (x_b lk)) rfl) (by decide) ?_
        refine HL.new (New.alloc al25) (by decide) ?_
        intro b2 hb2
        refine HL.put 0 rfl (Put.row rfl rfl (by kernel_rfl) rfl (wA_one _)) (.inl hb2) ?_
        simp only [List.set_cons_zero]
        refine HL.nil ?_
        refine HQ.next ?_
        refine HC.seq ?_
        refine HC.draw0 18 (by kernel_rfl) (by kernel_rfl) ?_
        simp only [List.take, List.drop]
        refine HV.val (Val.call en21 (fl_p) rfl) (by decide) ?_
        refine HV.val (Val.move rfl) (by decide) ?_
        refine HV.val (Val.calls en52 (fun w hw => invOf_good (hg.sn hw.sn rfl) (hv.sn hw.sn rfl) h0 hx lx) rfl) (by decide) ?_
        refine HV.val (Val.call en22 (n_p (pf_by (invU_lt h0))) rfl) (by decide) ?_
        refine HV.val (Val.load_row rfl (fun w hw => hw.at (i := 1) rfl) Tryd.underlying25 rfl (by kernel_rfl)) (by decide) ?_
        refine HV.val (Val.call en45 (smul_p ((invU x)) x (invU_lt h0) (lt_b hx)) rfl) (by decide) ?_
        refine HV.val (Val.build rfl (built_wl 1 (by decide))) (by decide) ?_
        refine HV.val ((Val.eqlA rfl rfl (by kernel_rfl) (eqlW (lt_w (Nat.mod_lt _ pf_pos)) (by decide))).as (congrArg Value.bool (decide_eq_true (invU_mul h0 hx)))) (by decide) ?_
        refine HV.val (Val.move rfl) (by decide) ?_
        refine HV.valg rfl (Val.call en21 (fl_p) rfl) (by decide) ?_
        refine HV.valg rfl (Val.move rfl) (by decide) ?_
        refine HV.valg rfl (Val.calls en53 (fun w hw => invTwo_good (ht.sn hw.sn rfl) (hh.sn hw.sn rfl) hk) rfl) (by decide) ?_
        refine HV.valg rfl (Val.call en22 (n_p (pf_by (Nat.mod_lt _ pf_pos))) rfl) (by decide) ?_
        refine HV.valg rfl (Val.load_row rfl (fun w hw => hw.at (i := 0) rfl) Tryd.underlying25 rfl (by kernel_rfl)) (by decide) ?_
        refine HV.valg rfl (Val.call en45 (smul_p ((halfP ^ k % pf)) ((2 ^ k % pf)) (Nat.mod_lt _ pf_pos) (lt_b (Nat.mod_lt _ pf_pos))) rfl) (by decide) ?_
        refine HV.valg rfl (Val.build rfl (built_wl 1 (by decide))) (by decide) ?_
        refine HV.valg rfl ((Val.eqlA rfl rfl (by kernel_rfl) (eqlW (lt_w (Nat.mod_lt _ pf_pos)) (by decide))).as (congrArg Value.bool (decide_eq_true (half_pow k)))) (by decide) ?_
        refine HV.val (Val.pickT rfl rfl) (by decide) ?_
        refine HV.tail0 ?_
        refine HL.val (Val.assign rfl) (by decide) ?_
        refine HL.nil ?_
        refine HQ.next ?_
        refine HC.ret ?_
        exact HQ.ret1 rfl rfl (pure_end rfl)
      · refine calls_H (args := [.int .u64 (x : Int), .int .u64 (k : Int)]) noD [] Tryd.func15 rfl (m := 47) rfl rfl (hold_nil _ _) ?_
        refine HC.seq ?_
        refine HC.region ?_
        refine HL.val (Val.assign rfl) (by decide) ?_
        refine HL.nil ?_
        refine HQ.next ?_
        refine HC.seq ?_
        refine HC.region ?_
        refine HL.val (Val.call en21 (fl_p) rfl) (by decide) ?_
        refine HL.val (Val.move rfl) (by decide) ?_
        refine HL.val (Val.call en50 (sof_good x hx lx) rfl) (by decide) ?_
        refine HL.new (New.alloc al25) (by decide) ?_
        intro b1 hb1
        refine HL.put 0 rfl (Put.row rfl rfl (by kernel_rfl) rfl (wA_one _)) (.inl hb1) ?_
        simp only [List.set_cons_zero]
        refine HL.nil ?_
        refine HQ.next ?_
        refine HC.seq ?_
        refine HC.seq ?_
        refine HC.region ?_
        refine HL.val (Val.load_row rfl (fun w hw => hw.at (i := 0) rfl) Tryd.underlying25 rfl (by kernel_rfl)) (by decide) ?_
        refine HL.val (Val.build rfl built_w0) (by decide) ?_
        refine HL.val ((Val.eqlA rfl rfl (by kernel_rfl) (eqlW (lt_w hx) (lt_w zero_lt))).as (congrArg Value.bool (decide_eq_false hz))) (by decide) ?_
        refine HL.val (Val.move rfl) (by decide) ?_
        refine HL.valg rfl (Val.call en21 (fl_p) rfl) (by decide) ?_
        refine HL.valg rfl (Val.move rfl) (by decide) ?_
        refine HL.valg rfl (Val.build rfl (built_wx x lx)) (by decide) ?_
        refine HL.valg rfl ((Val.call en30 (has_p x) rfl).as (congrArg Value.bool (decide_eq_true hx))) (by decide) ?_
        refine HL.valg rfl (Val.not rfl) (by decide) ?_
        refine HL.val (Val.pickF rfl rfl) (by decide) ?_
        refine HL.val (Val.move rfl) (by decide) ?_
        refine HL.valg rfl (Val.move rfl) (by decide) ?_
        refine HL.valg rfl ((Val.gtr rfl rfl).as (congrArg Value.bool ((gtrN 128 k).trans (decide_eq_true (by omega))))) (by decide) ?_
        refine HL.val (Val.pickF rfl rfl) (by decide) ?_
        refine HL.nil ?_
        refine HQ.next ?_
        refine HC.yes rfl ?_
        refine HC.seq ?_
        refine HC.region ?_
        refine HL.val (Val.assign rfl) (by decide) ?_
        refine HL.nil ?_
        refine HQ.next ?_
        refine HC.ret ?_
        refine HQ.thenRet ?_
        exact HQ.ret1 rfl rfl (pure_end rfl)
  · exact absurd (Nat.lt_trans lx (by decide +kernel)) hx
set_option maxRecDepth 100000 in
theorem fnInvOf128_met (os : Os) (args : Array Value) : laidMetH Tryd.prog Rows.fnInvOf128Row.laid ((World.doorLaid Tryd.prog 400 os).forCall (fun _ _ => 0) ⟨#[], args, []⟩).memory :=
  laidMetH_of_parts3 (fuel := 8) (laidMet_of_run' 8 (by kernel_rfl) (by kernel_rfl)) (by kernel_rfl) (by kernel_rfl)
set_option maxRecDepth 100000 in
theorem fnInvOf128_lifted (os : Os) (started : os.Started) (H : Type) (enc : TypeId × Value → H) :
    ReturnsInHanded {} Tryd.checked os 15 .any (fun w args => (Rows.fnInvOf128Spec.pre enc Tryd.prog Tryd.f15 [] false w args ∧ laidMetH Tryd.prog Rows.fnInvOf128Row.laid w) ∧ sizedMet enc Tryd.prog Tryd.f15 (OpenSpec.ofChange Rows.fnInvOf128Spec) false w args)
      (Rows.fnInvOf128Spec.post enc Tryd.prog Tryd.f15 false true false false) := by
  refine returnsInHanded_of_change_and (C := Tryd.checked) (X := fun w _ => laidMetH Tryd.prog Rows.fnInvOf128Row.laid w) (fun _ _ _ hh h => h.of_heap hh) own1 started (by kernel_rfl) Tryd.func15
    (ChangeSpec.witness_shaped (enc := enc) (C := Tryd.checked) (os := os) (X := fun w _ => laidMetH Tryd.prog Rows.fnInvOf128Row.laid w) false (World.doorLaid Tryd.prog 400 os) #[.int .u64 0, .int .u64 0] 8 rfl (World.shaped_of_RefB (by kernel_rfl) (by kernel_rfl)) (by kernel_rfl) (by kernel_rfl) (by kernel_rfl) (fnInvOf128_met os _)) ?_
  intro W base args ds gs before hval0 hW _ _ hL _
  have hval : ∀ (j : Nat) t v, Tryd.f15.params[j]? = some t → args[j]? = some v → Value.okWide Tryd.prog W .any base t v := hval0
  have hW' := hW
  obtain ⟨p, q, hA0, hV, rfl, hfz, hnd⟩ := hW
  have hV0 := hV
  have hA : DataW.TrodAll enc Tryd.prog W 0 (fun _ => true) true Tryd.f15.params.toList args.toList ds p := hA0
  rw [Tryd.params15] at hA hval
  obtain ⟨v0, v1, d0, d1, p0, p1, rfl, rfl, rfl, h0, h1⟩ := trodAll_two hA
  obtain ⟨g0, g1, g2, g3, g4, rfl⟩ : ∃ g0 g1 g2 g3 g4, gs = [g0, g1, g2, g3, g4] := by
    have hgl := trodVars_len hV0
    match gs, hgl with
    | [g0, g1, g2, g3, g4], _ => exact ⟨g0, g1, g2, g3, g4, rfl⟩
  obtain ⟨xi, rfl, rfl, rfl, wx⟩ := open_int Tryd.underlying23 (hval 0 23 v0 rfl rfl) h0
  obtain ⟨x, rfl, lx⟩ := nat_of_u64 wx
  obtain ⟨ki, rfl, rfl, rfl, wk⟩ := open_int Tryd.underlying22 (hval 1 22 v1 rfl rfl) h1
  obtain ⟨k, rfl, lk⟩ := nat_of_u64 wk
  clear hA0 hval0
  refine (main_w (gr_at (laid_at (by kernel_rfl) hL 0 rfl)) (hf_at (laid_at (by kernel_rfl) hL 1 rfl)) (rt_at (laid_at (by kernel_rfl) hL 2 rfl)) (iv_at (laid_at (by kernel_rfl) hL 3 rfl)) lx lk).mono fun e W' ⟨he, hb⟩ => ?_
  subst he
  exact ⟨_, rfl, ⟨_, _, _, [], _, _, hW', trodAll_mk1 (shut_bool Tryd.underlying4 true), trodAll_mk2 (shut_int Tryd.underlying23 wx) (shut_int Tryd.underlying22 wk), Below.trodVars laidOut1 hb (by kernel_rfl) hV, hb.frame _, fun h => by cases h⟩⟩
theorem fnInvOf128_c1 : (Rows.fnInvOf128Row.inPlace == Tryd.pinned.checked.prog.inPlace 15) = true := by kernel_rfl
theorem fnInvOf128_c2 : (Rows.fnInvOf128Row.unfollowed == Tryd.pinned.checked.prog.unfollowed 15) = true := by kernel_rfl
theorem fnInvOf128_c3 : (Rows.fnInvOf128Row.recurses == Tryd.pinned.checked.prog.recurses 15) = true := by kernel_rfl
theorem fnInvOf128_c4 : (Rows.fnInvOf128Row.named == Tryd.pinned.checked.prog.varsNamed 15) = true := by kernel_rfl
theorem fnInvOf128_c5 : Rows.fnInvOf128Row.wf (OpenSpec.ofChange Rows.fnInvOf128Spec) = true := by kernel_rfl
theorem fnInvOf128_c8 : (Rows.fnInvOf128Row.plainKeys == Tryd.pinned.checked.prog.plainKeys) = true := by kernel_rfl
theorem fnInvOf128_d1 : (Rows.fnInvOf128Row.lifted == Tryd.pinned.checked.prog.liftsFinal) = true := by rw [lifts1]; rfl
theorem fnInvOf128_d2 : (Tryd.pinned.checked.prog.make == some Rows.fnInvOf128Row.make) = true := by rw [make1]; rfl
theorem looks1 : false = Tryd.pinned.checked.prog.looks [] := by kernel_rfl
theorem fnInvOf128_closed : joinedFacts Tryd.pinned.checked.prog 15 Tryd.f15 Rows.fnInvOf128Spec Rows.fnInvOf128Row = true := by
  delta joinedFacts
  repeat' with_reducible apply and_i
  all_goals first | with_reducible exact fnInvOf128_c1 | with_reducible exact fnInvOf128_c2 | with_reducible exact fnInvOf128_c3 | with_reducible exact fnInvOf128_c4 | with_reducible exact fnInvOf128_c5 | with_reducible exact c6 | with_reducible exact c7 | with_reducible exact fnInvOf128_c8 | with_reducible exact c9 | with_reducible exact may1 | with_reducible exact fnInvOf128_d1 | with_reducible exact fnInvOf128_d2 | kernel_rfl
theorem fnInvOf128_named : Tryd.pinned.checked.prog.funcNamed Rows.fnInvOf128Row.func = some 15 := by kernel_rfl
theorem fnInvOf128_inst : Tryd.f15.isInstance Tryd.pinned.checked.prog Rows.fnInvOf128Row.origin Rows.fnInvOf128Row.targs := of_decide_eq_true (by kernel_rfl)
theorem fnInvOf128_wrap : Tryd.f15.isWrapper Tryd.pinned.checked.prog Rows.fnInvOf128Row.wrapper Rows.fnInvOf128Row.mainSum := by unfold Func.isWrapper; first | (rw [if_pos (by decide +kernel)]; kernel_rfl) | (rw [if_neg (by decide +kernel)]; exact ⟨rfl, rfl⟩)
theorem fnInvOf128_holds : Rows.FnInvOf128Said :=
  OpenClaim.holds_of_wide 15 Tryd.f15 rfl rfl rfl rfl rfl rfl rfl ⟨rfl, rfl, rfl, rfl, rfl⟩ rfl rfl rfl rfl rfl fnInvOf128_named Tryd.func15 fnInvOf128_closed
    fnInvOf128_inst fnInvOf128_wrap
    (fun os started H enc _ => fnInvOf128_lifted os started H enc)
theorem fnInvOf128_w : Rows.fnInvOf128Row.wfByText (OpenSpec.ofChange Rows.fnInvOf128Spec) = true := by kernel_rfl
theorem fnInvOf128_main1 : Tryd.pinned.checked.prog.mainIs = some (Rows.fnInvOf128Card.stood.harness.1, Rows.fnInvOf128Card.stood.harness.2.toList) := main1.trans (by kernel_rfl)
theorem fnInvOf128_goes : false = Rows.fnInvOf128Row.goesBy Tryd.pinned.checked.prog := by kernel_rfl
theorem fnInvOf128_har : (!Rows.fnInvOf128Card.stood.harness.1 && Rows.fnInvOf128Card.stood.harness.2.isEmpty && !false) = false := by kernel_rfl
theorem fnInvOf128_hl : ∀ f fn, Tryd.pinned.checked.prog.funcNamed Rows.fnInvOf128Row.func = some f → Tryd.pinned.checked.prog.funcs[f]? = some fn → false = Tryd.pinned.checked.prog.looks [] ∧ ∀ (j : Nat) t, fn.params[j]? = some t → Tryd.pinned.checked.prog.wantsStandIn t = false := fun f fn hf hfn => by
  obtain rfl : f = 15 := (Option.some.inj (fnInvOf128_named.symm.trans hf)).symm
  obtain rfl : fn = Tryd.f15 := (Option.some.inj (Tryd.func15.symm.trans hfn)).symm
  exact ⟨looks1, fun j t ht => by
    rw [Tryd.params15] at ht
    have hm : t ∈ [23, 22] := by simpa using Array.mem_of_getElem? ht
    have hall : ([23, 22].all fun u => !Tryd.pinned.checked.prog.wantsStandIn u) = true := by kernel_rfl
    exact (show Tryd.pinned.checked.prog.wantsStandIn t = false by simpa using List.all_eq_true.1 hall t hm)⟩
theorem fnInvOf128Card_holds : Rows.FnInvOf128CardSaid :=
  Claim7.holds_tied_plain_at .later [] Rows.fnInvOf128Card.laidKinds true Rows.fnInvOf128Card.stood.harness false
    fnInvOf128_holds (fun _ h => by cases h) fnInvOf128_w (fun _ h => by cases h) fnInvOf128_row_tie rfl ⟨rfl, rfl⟩ fnInvOf128_main1 fnInvOf128_har fnInvOf128_hl fnInvOf128_goes
#print axioms fnInvOf128Card_holds
end Go.Proofs.YtgdfdkpkhjbibaaDoor
