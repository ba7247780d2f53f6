/-
  FnSharedClamped: the bits that are set in a secret key make no difference: the law answers true.
  Conditions: the package variables that the row lists read as listed (the card ties them to the program's text).
-/
import Derived.Test.YteehdjkmjncehaaDoorSd
import Derived.Test.YteehdjkmjncehaaDoorLo
import Derived.Test.YteehdjkmjncehaaDoorHY
import Derived.Test.YteehdjkmjncehaaDoorTie
import Derived.Test.YteehdjkmjncehaaDoorCards
import Derived.SevenTiedAt
namespace Go.Proofs.YteehdjkmjncehaaDoor
open Go.ChangeShapes Go.WideShapes Go.ChangeAt Go.WideElems Go.RowKit
theorem clamp_clamp (k : Nat) : clampN (clampN k) = clampN k := by unfold clampN; omega
theorem top_9 : topN 9 % p25 = 9 % p25 := by decide +kernel
theorem vld_t9 : vld (topN 9 % p25) = true := by rw [top_9]; exact vld_9
set_option maxRecDepth 100000 in
theorem bl22_9 : Tryd.prog.built 22 [(0, .int .u8 9)] = some (byA 32 9) := by kernel_rfl
set_option maxRecDepth 100000 in
set_option maxHeartbeats 1600000 in
theorem main_w {k u : Nat} {w : World} (hl : LG w)  :
    Calls Tryd.prog 8 #[byV 32 k, byV 32 u] w fun e w' => e = .returned (.bool true) ∧ Below w.heap.size w w' := by
  refine calls_H (args := [byV 32 k, byV 32 u]) noD [] Tryd.func8 rfl (m := 41) rfl rfl (hold_nil _ _) ?_
  refine HC.seq ?_
  refine HC.region ?_
  refine HL.new (New.box rfl) (by decide) ?_
  intro b1 hb1
  refine HL.new (New.box rfl) (by decide) ?_
  intro b2 hb2
  refine HL.val (Val.assign rfl) (by decide) ?_
  refine HL.nil ?_
  refine HQ.next ?_
  refine HC.seq ?_
  refine HC.region ?_
  refine HL.val (Val.load_row rfl (fun w hw => hw.at (i := 1) rfl) Tryd.underlying22 rfl (sz22 _)) (by decide) ?_
  refine HL.val (Val.load_row rfl (fun w hw => hw.at (i := 0) rfl) Tryd.underlying22 rfl (sz22 _)) (by decide) ?_
  refine HL.val (Val.calls en21 (fun w hw => implShared (k := k) (u := u) (hl.sn hw.sn rfl)) rfl) (by decide) ?_
  refine HL.val (Val.move rfl) (by decide) ?_
  refine HL.val (Val.extract rfl rfl) (by decide) ?_
  refine HL.val (Val.extract rfl rfl) (by decide) ?_
  refine HL.new (New.alloc al22) (by decide) ?_
  intro b3 hb3
  refine HL.put 0 rfl (Put.row rfl rfl (sz22 _) (eqsz32 _ _) (one32 _)) (.inl hb3) ?_
  simp only [List.set_cons_zero]
  refine HL.val (Val.assign rfl) (by decide) ?_
  refine HL.nil ?_
  refine HQ.next ?_
  refine HC.seq ?_
  refine HC.draw1s 7 (by kernel_rfl) (by kernel_rfl) rfl rfl al22 ?_
  simp only [List.take]
  refine HV.val (Val.load_row rfl (fun w hw => hw.at (i := 2) rfl) Tryd.underlying22 rfl (sz22 _)) (by decide) ?_
  refine HV.val (Val.call en29 (clamp19 k) rfl) (by decide) ?_
  refine HV.val (Val.load_row rfl (fun w hw => hw.at (i := 1) rfl) Tryd.underlying22 rfl (sz22 _)) (by decide) ?_
  refine HV.val (Val.calls en21 (fun w hw => implShared (k := ((clampN k))) (u := u) (hl.sn hw.sn rfl)) rfl) (by decide) ?_
  refine HV.val (Val.move rfl) (by decide) ?_
  refine HV.val (Val.extract rfl rfl) (by decide) ?_
  refine HV.val (Val.extract rfl rfl) (by decide) ?_
  refine HV.tail1s (by decide) (by decide) (fun _ => Put.row rfl rfl (sz22 _) (eqsz32 _ _) (one32 _)) (fun _ => rfl) ?_
  intro b4 hb4
  refine HQ.next ?_
  refine HC.seq ?_
  refine HC.region ?_
  refine HL.val (Val.load_row rfl (fun w hw => hw.at (i := 3) rfl) Tryd.underlying22 rfl (sz22 _)) (by decide) ?_
  refine HL.val (Val.build rfl bl22_9) (by decide) ?_
  refine HL.val ((Val.calls en21 (fun w hw => implShared (k := k) (u := 9) (hl.sn hw.sn rfl)) rfl).as (congrArg (fun c : Bool => Value.tuple #[byV 32 (ladV (topN 9) (clampN k)), .bool c]) vld_t9)) (by decide) ?_
  refine HL.val (Val.move rfl) (by decide) ?_
  refine HL.val (Val.extract rfl rfl) (by decide) ?_
  refine HL.val (Val.extract rfl rfl) (by decide) ?_
  refine HL.new (New.alloc al22) (by decide) ?_
  intro b5 hb5
  refine HL.put 0 rfl (Put.row rfl rfl (sz22 _) (eqsz32 _ _) (one32 _)) (.inl hb5) ?_
  simp only [List.set_cons_zero]
  refine HL.val (Val.assign rfl) (by decide) ?_
  refine HL.nil ?_
  refine HQ.next ?_
  refine HC.seq ?_
  refine HC.region ?_
  refine HL.val (Val.move rfl) (by decide) ?_
  refine HL.val (Val.move rfl) (by decide) ?_
  refine HL.val ((Val.eqlBool rfl rfl Tryd.underlying4).as (congrArg Value.bool (beq_self_eq_true _))) (by decide) ?_
  refine HL.val (Val.move rfl) (by decide) ?_
  refine HL.valg rfl (Val.load_row rfl (fun w hw => hw.at (i := 2) rfl) Tryd.underlying22 rfl (sz22 _)) (by decide) ?_
  refine HL.valg rfl (Val.load_row rfl (fun w hw => hw.at (i := 1) rfl) Tryd.underlying22 rfl (sz22 _)) (by decide) ?_
  refine HL.valg rfl ((Val.eqlA rfl rfl (by kernel_rfl) (eql22 ((ladV (topN u) (clampN k))) ((ladV (topN u) (clampN ((clampN k))))) (lt_256_32 (ladV_lt _ _)) (lt_256_32 (ladV_lt _ _)))).as (congrArg Value.bool (decide_eq_true (by rw [clamp_clamp])))) (by decide) ?_
  refine HL.val (Val.pickT rfl rfl) (by decide) ?_
  refine HL.val (Val.move rfl) (by decide) ?_
  refine HL.valg rfl (Val.move rfl) (by decide) ?_
  refine HL.val (Val.pickT rfl rfl) (by decide) ?_
  refine HL.val (Val.assign rfl) (by decide) ?_
  refine HL.nil ?_
  refine HQ.next ?_
  refine HC.ret ?_
  exact HQ.ret1 rfl rfl (pure_end rfl)
set_option maxRecDepth 100000 in
theorem fnSharedClamped_met (os : Os) (args : Array Value) : laidMetH Tryd.prog Rows.fnSharedClampedRow.laid ((World.doorLaid Tryd.prog 400 os).forCall (fun _ _ => 0) ⟨#[], args, []⟩).memory :=
  laidMetH_of_parts3 (fuel := 8) (laidMet_of_run' 8 (by kernel_rfl) (by kernel_rfl)) (by kernel_rfl) (by kernel_rfl)
set_option maxRecDepth 100000 in
theorem fnSharedClamped_lifted (os : Os) (started : os.Started) (H : Type) (enc : TypeId × Value → H) :
    ReturnsInHanded {} Tryd.checked os 8 .any (fun w args => (Rows.fnSharedClampedSpec.pre enc Tryd.prog Tryd.f8 [] false w args ∧ laidMetH Tryd.prog Rows.fnSharedClampedRow.laid w) ∧ sizedMet enc Tryd.prog Tryd.f8 (OpenSpec.ofChange Rows.fnSharedClampedSpec) false w args)
      (Rows.fnSharedClampedSpec.post enc Tryd.prog Tryd.f8 false true false false) := by
  refine returnsInHanded_of_change_and (C := Tryd.checked) (X := fun w _ => laidMetH Tryd.prog Rows.fnSharedClampedRow.laid w) (fun _ _ _ hh h => h.of_heap hh) own1 started (by kernel_rfl) Tryd.func8
    (ChangeSpec.witness_shaped (enc := enc) (C := Tryd.checked) (os := os) (X := fun w _ => laidMetH Tryd.prog Rows.fnSharedClampedRow.laid w) false (World.doorLaid Tryd.prog 400 os) #[byV 32 0, byV 32 0] 8 rfl (World.shaped_of_RefB (by kernel_rfl) (by kernel_rfl)) (by kernel_rfl) (by kernel_rfl) (by kernel_rfl) (fnSharedClamped_met os _)) ?_
  intro W base args ds gs before hval0 hW _ _ hL _
  have hval : ∀ (j : Nat) t v, Tryd.f8.params[j]? = some t → args[j]? = some v → Value.okWide Tryd.prog W .any base t v := hval0
  have hW' := hW
  obtain ⟨p, q, hA0, hV, rfl, hfz, hnd⟩ := hW
  have hV0 := hV
  have hA : DataW.TrodAll enc Tryd.prog W 0 (fun _ => true) true Tryd.f8.params.toList args.toList ds p := hA0
  rw [Tryd.params8] at hA hval
  obtain ⟨v0, v1, d0, d1, p0, p1, rfl, rfl, rfl, h0, h1⟩ := trodAll_two hA
  obtain ⟨g0, rfl⟩ : ∃ g0, gs = [g0] := by
    have hgl := trodVars_len hV0
    match gs, hgl with
    | [g0], _ => exact ⟨g0, rfl⟩
  obtain ⟨k, hk, rfl, rfl⟩ := open_by Tryd.underlying22 Tryd.underlying5 (by kernel_rfl) (by kernel_rfl) (hval 0 22 v0 rfl rfl) h0
  obtain ⟨u, hu, rfl, rfl⟩ := open_by Tryd.underlying22 Tryd.underlying5 (by kernel_rfl) (by kernel_rfl) (hval 1 22 v1 rfl rfl) h1
  clear hA0 hval0
  refine (main_w (lg_at (laid_at (by kernel_rfl) hL 0 rfl))).mono fun e W' ⟨he, hb⟩ => ?_
  subst he
  exact ⟨_, rfl, ⟨_, _, _, [], _, _, hW', trodAll_mk1 (shut_bool Tryd.underlying4 true), trodAll_mk2 (Below.trod laidOut1 (by kernel_rfl) (of_decide_eq_true (by kernel_rfl)) h0 hb (by simp)) (Below.trod laidOut1 (by kernel_rfl) (of_decide_eq_true (by kernel_rfl)) h1 hb (by simp)), Below.trodVars laidOut1 hb (by kernel_rfl) hV, hb.frame _, fun h => by cases h⟩⟩
theorem fnSharedClamped_c1 : (Rows.fnSharedClampedRow.inPlace == Tryd.pinned.checked.prog.inPlace 8) = true := by kernel_rfl
theorem fnSharedClamped_c2 : (Rows.fnSharedClampedRow.unfollowed == Tryd.pinned.checked.prog.unfollowed 8) = true := by kernel_rfl
theorem fnSharedClamped_c3 : (Rows.fnSharedClampedRow.recurses == Tryd.pinned.checked.prog.recurses 8) = true := by kernel_rfl
theorem fnSharedClamped_c4 : (Rows.fnSharedClampedRow.named == Tryd.pinned.checked.prog.varsNamed 8) = true := by kernel_rfl
theorem fnSharedClamped_c5 : Rows.fnSharedClampedRow.wf (OpenSpec.ofChange Rows.fnSharedClampedSpec) = true := by kernel_rfl
theorem fnSharedClamped_c8 : (Rows.fnSharedClampedRow.plainKeys == Tryd.pinned.checked.prog.plainKeys) = true := by kernel_rfl
theorem fnSharedClamped_d1 : (Rows.fnSharedClampedRow.lifted == Tryd.pinned.checked.prog.liftsFinal) = true := by rw [lifts1]; rfl
theorem fnSharedClamped_d2 : (Tryd.pinned.checked.prog.make == some Rows.fnSharedClampedRow.make) = true := by rw [make1]; rfl
theorem looks1 : false = Tryd.pinned.checked.prog.looks [] := by kernel_rfl
theorem fnSharedClamped_closed : joinedFacts Tryd.pinned.checked.prog 8 Tryd.f8 Rows.fnSharedClampedSpec Rows.fnSharedClampedRow = true := by
  delta joinedFacts
  repeat' with_reducible apply and_i
  all_goals first | with_reducible exact fnSharedClamped_c1 | with_reducible exact fnSharedClamped_c2 | with_reducible exact fnSharedClamped_c3 | with_reducible exact fnSharedClamped_c4 | with_reducible exact fnSharedClamped_c5 | with_reducible exact c6 | with_reducible exact c7 | with_reducible exact fnSharedClamped_c8 | with_reducible exact c9 | with_reducible exact may1 | with_reducible exact fnSharedClamped_d1 | with_reducible exact fnSharedClamped_d2 | kernel_rfl
theorem fnSharedClamped_named : Tryd.pinned.checked.prog.funcNamed Rows.fnSharedClampedRow.func = some 8 := by kernel_rfl
theorem fnSharedClamped_inst : Tryd.f8.isInstance Tryd.pinned.checked.prog Rows.fnSharedClampedRow.origin Rows.fnSharedClampedRow.targs := of_decide_eq_true (by kernel_rfl)
theorem fnSharedClamped_wrap : Tryd.f8.isWrapper Tryd.pinned.checked.prog Rows.fnSharedClampedRow.wrapper Rows.fnSharedClampedRow.mainSum := by unfold Func.isWrapper; first | (rw [if_pos (by decide +kernel)]; kernel_rfl) | (rw [if_neg (by decide +kernel)]; exact ⟨rfl, rfl⟩)
theorem fnSharedClamped_holds : Rows.FnSharedClampedSaid :=
  OpenClaim.holds_of_wide 8 Tryd.f8 rfl rfl rfl rfl rfl rfl rfl ⟨rfl, rfl, rfl, rfl, rfl⟩ rfl rfl rfl rfl rfl fnSharedClamped_named Tryd.func8 fnSharedClamped_closed
    fnSharedClamped_inst fnSharedClamped_wrap
    (fun os started H enc _ => fnSharedClamped_lifted os started H enc)
theorem fnSharedClamped_w : Rows.fnSharedClampedRow.wfByText (OpenSpec.ofChange Rows.fnSharedClampedSpec) = true := by kernel_rfl
theorem fnSharedClamped_main1 : Tryd.pinned.checked.prog.mainIs = some (Rows.fnSharedClampedCard.stood.harness.1, Rows.fnSharedClampedCard.stood.harness.2.toList) := main1.trans (by kernel_rfl)
theorem fnSharedClamped_goes : false = Rows.fnSharedClampedRow.goesBy Tryd.pinned.checked.prog := by kernel_rfl
theorem fnSharedClamped_har : (!Rows.fnSharedClampedCard.stood.harness.1 && Rows.fnSharedClampedCard.stood.harness.2.isEmpty && !false) = false := by kernel_rfl
theorem fnSharedClamped_hl : ∀ f fn, Tryd.pinned.checked.prog.funcNamed Rows.fnSharedClampedRow.func = some f → Tryd.pinned.checked.prog.funcs[f]? = some fn → false = Tryd.pinned.checked.prog.looks [] ∧ ∀ (j : Nat) t, fn.params[j]? = some t → Tryd.pinned.checked.prog.wantsStandIn t = false := fun f fn hf hfn => by
  obtain rfl : f = 8 := (Option.some.inj (fnSharedClamped_named.symm.trans hf)).symm
  obtain rfl : fn = Tryd.f8 := (Option.some.inj (Tryd.func8.symm.trans hfn)).symm
  exact ⟨looks1, fun j t ht => by
    rw [Tryd.params8] at ht
    have hm : t ∈ [22, 22] := by simpa using Array.mem_of_getElem? ht
    have hall : ([22, 22].all fun u => !Tryd.pinned.checked.prog.wantsStandIn u) = true := by kernel_rfl
    exact (show Tryd.pinned.checked.prog.wantsStandIn t = false by simpa using List.all_eq_true.1 hall t hm)⟩
theorem fnSharedClampedCard_holds : Rows.FnSharedClampedCardSaid :=
  Claim7.holds_tied_plain_at .later [] Rows.fnSharedClampedCard.laidKinds true Rows.fnSharedClampedCard.stood.harness false
    fnSharedClamped_holds (fun _ h => by cases h) fnSharedClamped_w (fun _ h => by cases h) fnSharedClamped_row_tie rfl ⟨rfl, rfl⟩ fnSharedClamped_main1 fnSharedClamped_har fnSharedClamped_hl fnSharedClamped_goes
#print axioms fnSharedClampedCard_holds
end Go.Proofs.YteehdjkmjncehaaDoor
