/-
  FnRoads: a difference is the sum with the opposite, a square the product with itself, and both at once as each: the law answers true.
  Conditions: the package variables that the row lists read as listed (the card ties them to the program's text).
-/
import Derived.Test.YteehdjkmjncehaaDoorIz
import Derived.Test.YteehdjkmjncehaaDoorTie
import Derived.Test.YteehdjkmjncehaaDoorCards
import Derived.SevenTiedAt
namespace Go.Proofs.YteehdjkmjncehaaDoor
open Go.ChangeShapes Go.WideShapes Go.ChangeAt Go.WideElems Go.RowKit
theorem road_sub (x y : Nat) : subN x y = (x + subN 0 y) % p25 := by unfold subN; rw [Nat.zero_add, Nat.mod_mod]
set_option maxRecDepth 100000 in
theorem bl22_2 : Tryd.prog.built 22 [(0, .int .u8 2)] = some (byA 32 2) := by kernel_rfl
set_option maxRecDepth 100000 in
set_option maxHeartbeats 1600000 in
theorem main_w {x y : Nat} {w : World} (hp : PG w) (hx : x < 2 ^ 256) (hy : y < 2 ^ 256) :
    Calls Tryd.prog 7 #[byV 32 x, byV 32 y] w fun e w' => e = .returned (.bool true) ∧ Below w.heap.size w w' := by
  refine calls_H (args := [byV 32 x, byV 32 y]) noD [] Tryd.func7 rfl (m := 50) rfl rfl (hold_nil _ _) ?_
  refine HC.seq ?_
  refine HC.region ?_
  refine HL.new (New.box rfl) (by decide) ?_
  intro b1 hb1
  refine HL.new (New.box rfl) (by decide) ?_
  intro b2 hb2
  refine HL.val (Val.assign rfl) (by decide) ?_
  refine HL.nil ?_
  refine HQ.next ?_
  refine HC.seq ?_
  refine HC.region ?_
  refine HL.val (Val.load_row rfl (fun w hw => hw.at (i := 1) rfl) Tryd.underlying22 rfl (sz22 _)) (by decide) ?_
  refine HL.val (Val.load_row rfl (fun w hw => hw.at (i := 0) rfl) Tryd.underlying22 rfl (sz22 _)) (by decide) ?_
  refine HL.val (Val.call en24 (implAddSub x y hx hy) rfl) (by decide) ?_
  refine HL.val (Val.move rfl) (by decide) ?_
  refine HL.val (Val.extract rfl rfl) (by decide) ?_
  refine HL.val (Val.extract rfl rfl) (by decide) ?_
  refine HL.new (New.alloc al22) (by decide) ?_
  intro b3 hb3
  refine HL.new (New.alloc al22) (by decide) ?_
  intro b4 hb4
  refine HL.put 1 rfl (Put.row rfl rfl (sz22 _) (eqsz32 _ _) (one32 _)) (.inl hb3) ?_
  simp only [List.set_cons_zero, List.set_cons_succ]
  refine HL.put 0 rfl (Put.row rfl rfl (sz22 _) (eqsz32 _ _) (one32 _)) (.inl hb4) ?_
  simp only [List.set_cons_zero]
  refine HL.nil ?_
  refine HQ.next ?_
  refine HC.seq ?_
  refine HC.draw0 37 (by kernel_rfl) (by kernel_rfl) ?_
  simp only [List.take, List.drop]
  refine HV.val (Val.load_row rfl (fun w hw => hw.at (i := 3) rfl) Tryd.underlying22 rfl (sz22 _)) (by decide) ?_
  refine HV.val (Val.load_row rfl (fun w hw => hw.at (i := 2) rfl) Tryd.underlying22 rfl (sz22 _)) (by decide) ?_
  refine HV.val (Val.call en25 (implSub x y hx hy) rfl) (by decide) ?_
  refine HV.val (Val.load_row rfl (fun w hw => hw.at (i := 3) rfl) Tryd.underlying22 rfl (sz22 _)) (by decide) ?_
  refine HV.val (Val.load_row rfl (fun w hw => hw.at (i := 2) rfl) Tryd.underlying22 rfl (sz22 _)) (by decide) ?_
  refine HV.val (Val.calls en22 (fun w hw => implNeg (hp.sn hw.sn rfl) hy) rfl) (by decide) ?_
  refine HV.val (Val.call en26 (implAdd x ((subN 0 y)) hx (sub256 _ _)) rfl) (by decide) ?_
  refine HV.val ((Val.eqlA rfl rfl (by kernel_rfl) (eql22 ((subN x y)) (((x + ((subN 0 y))) % p25)) (lt_256_32 (sub256 _ _)) (lt_256_32 (lt256 _)))).as (congrArg Value.bool (decide_eq_true (road_sub x y)))) (by decide) ?_
  refine HV.val (Val.move rfl) (by decide) ?_
  refine HV.valg rfl (Val.load_row rfl (fun w hw => hw.at (i := 3) rfl) Tryd.underlying22 rfl (sz22 _)) (by decide) ?_
  refine HV.valg rfl (Val.call en27 (implSqr x hx) rfl) (by decide) ?_
  refine HV.valg rfl (Val.load_row rfl (fun w hw => hw.at (i := 3) rfl) Tryd.underlying22 rfl (sz22 _)) (by decide) ?_
  refine HV.valg rfl (Val.load_row rfl (fun w hw => hw.at (i := 3) rfl) Tryd.underlying22 rfl (sz22 _)) (by decide) ?_
  refine HV.valg rfl (Val.call en28 (implMul x x hx hx) rfl) (by decide) ?_
  refine HV.valg rfl ((Val.eqlA rfl rfl (by kernel_rfl) (eql22 (((x * x) % p25)) (((x * x) % p25)) (lt_256_32 (lt256 _)) (lt_256_32 (lt256 _)))).as (congrArg Value.bool (decide_eq_true (rfl)))) (by decide) ?_
  refine HV.val (Val.pickT rfl rfl) (by decide) ?_
  refine HV.val (Val.move rfl) (by decide) ?_
  refine HV.valg rfl (Val.load_row rfl (fun w hw => hw.at (i := 1) rfl) Tryd.underlying22 rfl (sz22 _)) (by decide) ?_
  refine HV.valg rfl (Val.load_row rfl (fun w hw => hw.at (i := 3) rfl) Tryd.underlying22 rfl (sz22 _)) (by decide) ?_
  refine HV.valg rfl (Val.load_row rfl (fun w hw => hw.at (i := 2) rfl) Tryd.underlying22 rfl (sz22 _)) (by decide) ?_
  refine HV.valg rfl (Val.call en26 (implAdd x y hx hy) rfl) (by decide) ?_
  refine HV.valg rfl ((Val.eqlA rfl rfl (by kernel_rfl) (eql22 (((x + y) % p25)) (((x + y) % p25)) (lt_256_32 (lt256 _)) (lt_256_32 (lt256 _)))).as (congrArg Value.bool (decide_eq_true (rfl)))) (by decide) ?_
  refine HV.val (Val.pickT rfl rfl) (by decide) ?_
  refine HV.val (Val.move rfl) (by decide) ?_
  refine HV.valg rfl (Val.load_row rfl (fun w hw => hw.at (i := 0) rfl) Tryd.underlying22 rfl (sz22 _)) (by decide) ?_
  refine HV.valg rfl (Val.load_row rfl (fun w hw => hw.at (i := 3) rfl) Tryd.underlying22 rfl (sz22 _)) (by decide) ?_
  refine HV.valg rfl (Val.load_row rfl (fun w hw => hw.at (i := 2) rfl) Tryd.underlying22 rfl (sz22 _)) (by decide) ?_
  refine HV.valg rfl (Val.call en25 (implSub x y hx hy) rfl) (by decide) ?_
  refine HV.valg rfl ((Val.eqlA rfl rfl (by kernel_rfl) (eql22 ((subN x y)) ((subN x y)) (lt_256_32 (sub256 _ _)) (lt_256_32 (sub256 _ _)))).as (congrArg Value.bool (decide_eq_true (rfl)))) (by decide) ?_
  refine HV.val (Val.pickT rfl rfl) (by decide) ?_
  refine HV.val (Val.move rfl) (by decide) ?_
  refine HV.valg rfl (Val.call en15 (one28) rfl) (by decide) ?_
  refine HV.valg rfl (Val.call en15 (one28) rfl) (by decide) ?_
  refine HV.valg rfl (Val.call en26 (implAdd 1 1 (by decide) (by decide)) rfl) (by decide) ?_
  refine HV.valg rfl (Val.build rfl bl22_2) (by decide) ?_
  refine HV.valg rfl ((Val.eqlA rfl rfl (by kernel_rfl) (eql22 (((1 + 1) % p25)) 2 (lt_256_32 (lt256 _)) (lt_256_32 (by decide)))).as (congrArg Value.bool (decide_eq_true ((by decide +kernel))))) (by decide) ?_
  refine HV.val (Val.pickT rfl rfl) (by decide) ?_
  refine HV.tail0 ?_
  refine HL.val (Val.assign rfl) (by decide) ?_
  refine HL.nil ?_
  refine HQ.next ?_
  refine HC.ret ?_
  exact HQ.ret1 rfl rfl (pure_end rfl)
set_option maxRecDepth 100000 in
theorem fnRoads_met (os : Os) (args : Array Value) : laidMetH Tryd.prog Rows.fnRoadsRow.laid ((World.doorLaid Tryd.prog 400 os).forCall (fun _ _ => 0) ⟨#[], args, []⟩).memory :=
  laidMetH_of_parts3 (fuel := 8) (laidMet_of_run' 8 (by kernel_rfl) (by kernel_rfl)) (by kernel_rfl) (by kernel_rfl)
set_option maxRecDepth 100000 in
theorem fnRoads_lifted (os : Os) (started : os.Started) (H : Type) (enc : TypeId × Value → H) :
    ReturnsInHanded {} Tryd.checked os 7 .any (fun w args => (Rows.fnRoadsSpec.pre enc Tryd.prog Tryd.f7 [] false w args ∧ laidMetH Tryd.prog Rows.fnRoadsRow.laid w) ∧ sizedMet enc Tryd.prog Tryd.f7 (OpenSpec.ofChange Rows.fnRoadsSpec) false w args)
      (Rows.fnRoadsSpec.post enc Tryd.prog Tryd.f7 false true false false) := by
  refine returnsInHanded_of_change_and (C := Tryd.checked) (X := fun w _ => laidMetH Tryd.prog Rows.fnRoadsRow.laid w) (fun _ _ _ hh h => h.of_heap hh) own1 started (by kernel_rfl) Tryd.func7
    (ChangeSpec.witness_shaped (enc := enc) (C := Tryd.checked) (os := os) (X := fun w _ => laidMetH Tryd.prog Rows.fnRoadsRow.laid w) false (World.doorLaid Tryd.prog 400 os) #[byV 32 0, byV 32 0] 8 rfl (World.shaped_of_RefB (by kernel_rfl) (by kernel_rfl)) (by kernel_rfl) (by kernel_rfl) (by kernel_rfl) (fnRoads_met os _)) ?_
  intro W base args ds gs before hval0 hW _ _ hL _
  have hval : ∀ (j : Nat) t v, Tryd.f7.params[j]? = some t → args[j]? = some v → Value.okWide Tryd.prog W .any base t v := hval0
  have hW' := hW
  obtain ⟨p, q, hA0, hV, rfl, hfz, hnd⟩ := hW
  have hV0 := hV
  have hA : DataW.TrodAll enc Tryd.prog W 0 (fun _ => true) true Tryd.f7.params.toList args.toList ds p := hA0
  rw [Tryd.params7] at hA hval
  obtain ⟨v0, v1, d0, d1, p0, p1, rfl, rfl, rfl, h0, h1⟩ := trodAll_two hA
  obtain ⟨g0, rfl⟩ : ∃ g0, gs = [g0] := by
    have hgl := trodVars_len hV0
    match gs, hgl with
    | [g0], _ => exact ⟨g0, rfl⟩
  obtain ⟨x, hx, rfl, rfl⟩ := open_by Tryd.underlying22 Tryd.underlying5 (by kernel_rfl) (by kernel_rfl) (hval 0 22 v0 rfl rfl) h0
  obtain ⟨y, hy, rfl, rfl⟩ := open_by Tryd.underlying22 Tryd.underlying5 (by kernel_rfl) (by kernel_rfl) (hval 1 22 v1 rfl rfl) h1
  clear hA0 hval0
  refine (main_w (pg_at (laid_at (by kernel_rfl) hL 0 rfl)) hx hy).mono fun e W' ⟨he, hb⟩ => ?_
  subst he
  exact ⟨_, rfl, ⟨_, _, _, [], _, _, hW', trodAll_mk1 (shut_bool Tryd.underlying4 true), trodAll_mk2 (Below.trod laidOut1 (by kernel_rfl) (of_decide_eq_true (by kernel_rfl)) h0 hb (by simp)) (Below.trod laidOut1 (by kernel_rfl) (of_decide_eq_true (by kernel_rfl)) h1 hb (by simp)), Below.trodVars laidOut1 hb (by kernel_rfl) hV, hb.frame _, fun h => by cases h⟩⟩
theorem fnRoads_c1 : (Rows.fnRoadsRow.inPlace == Tryd.pinned.checked.prog.inPlace 7) = true := by kernel_rfl
theorem fnRoads_c2 : (Rows.fnRoadsRow.unfollowed == Tryd.pinned.checked.prog.unfollowed 7) = true := by kernel_rfl
theorem fnRoads_c3 : (Rows.fnRoadsRow.recurses == Tryd.pinned.checked.prog.recurses 7) = true := by kernel_rfl
theorem fnRoads_c4 : (Rows.fnRoadsRow.named == Tryd.pinned.checked.prog.varsNamed 7) = true := by kernel_rfl
theorem fnRoads_c5 : Rows.fnRoadsRow.wf (OpenSpec.ofChange Rows.fnRoadsSpec) = true := by kernel_rfl
theorem fnRoads_c8 : (Rows.fnRoadsRow.plainKeys == Tryd.pinned.checked.prog.plainKeys) = true := by kernel_rfl
theorem fnRoads_d1 : (Rows.fnRoadsRow.lifted == Tryd.pinned.checked.prog.liftsFinal) = true := by rw [lifts1]; rfl
theorem fnRoads_d2 : (Tryd.pinned.checked.prog.make == some Rows.fnRoadsRow.make) = true := by rw [make1]; rfl
theorem looks1 : false = Tryd.pinned.checked.prog.looks [] := by kernel_rfl
theorem fnRoads_closed : joinedFacts Tryd.pinned.checked.prog 7 Tryd.f7 Rows.fnRoadsSpec Rows.fnRoadsRow = true := by
  delta joinedFacts
  repeat' with_reducible apply and_i
  all_goals first | with_reducible exact fnRoads_c1 | with_reducible exact fnRoads_c2 | with_reducible exact fnRoads_c3 | with_reducible exact fnRoads_c4 | with_reducible exact fnRoads_c5 | with_reducible exact c6 | with_reducible exact c7 | with_reducible exact fnRoads_c8 | with_reducible exact c9 | with_reducible exact may1 | with_reducible exact fnRoads_d1 | with_reducible exact fnRoads_d2 | kernel_rfl
theorem fnRoads_named : Tryd.pinned.checked.prog.funcNamed Rows.fnRoadsRow.func = some 7 := by kernel_rfl
theorem fnRoads_inst : Tryd.f7.isInstance Tryd.pinned.checked.prog Rows.fnRoadsRow.origin Rows.fnRoadsRow.targs := of_decide_eq_true (by kernel_rfl)
theorem fnRoads_wrap : Tryd.f7.isWrapper Tryd.pinned.checked.prog Rows.fnRoadsRow.wrapper Rows.fnRoadsRow.mainSum := by unfold Func.isWrapper; first | (rw [if_pos (by decide +kernel)]; kernel_rfl) | (rw [if_neg (by decide +kernel)]; exact ⟨rfl, rfl⟩)
theorem fnRoads_holds : Rows.FnRoadsSaid :=
  OpenClaim.holds_of_wide 7 Tryd.f7 rfl rfl rfl rfl rfl rfl rfl ⟨rfl, rfl, rfl, rfl, rfl⟩ rfl rfl rfl rfl rfl fnRoads_named Tryd.func7 fnRoads_closed
    fnRoads_inst fnRoads_wrap
    (fun os started H enc _ => fnRoads_lifted os started H enc)
theorem fnRoads_w : Rows.fnRoadsRow.wfByText (OpenSpec.ofChange Rows.fnRoadsSpec) = true := by kernel_rfl
theorem fnRoads_main1 : Tryd.pinned.checked.prog.mainIs = some (Rows.fnRoadsCard.stood.harness.1, Rows.fnRoadsCard.stood.harness.2.toList) := main1.trans (by kernel_rfl)
theorem fnRoads_goes : false = Rows.fnRoadsRow.goesBy Tryd.pinned.checked.prog := by kernel_rfl
theorem fnRoads_har : (!Rows.fnRoadsCard.stood.harness.1 && Rows.fnRoadsCard.stood.harness.2.isEmpty && !false) = false := by kernel_rfl
theorem fnRoads_hl : ∀ f fn, Tryd.pinned.checked.prog.funcNamed Rows.fnRoadsRow.func = some f → Tryd.pinned.checked.prog.funcs[f]? = some fn → false = Tryd.pinned.checked.prog.looks [] ∧ ∀ (j : Nat) t, fn.params[j]? = some t → Tryd.pinned.checked.prog.wantsStandIn t = false := fun f fn hf hfn => by
  obtain rfl : f = 7 := (Option.some.inj (fnRoads_named.symm.trans hf)).symm
  obtain rfl : fn = Tryd.f7 := (Option.some.inj (Tryd.func7.symm.trans hfn)).symm
  exact ⟨looks1, fun j t ht => by
    rw [Tryd.params7] at ht
    have hm : t ∈ [22, 22] := by simpa using Array.mem_of_getElem? ht
    have hall : ([22, 22].all fun u => !Tryd.pinned.checked.prog.wantsStandIn u) = true := by kernel_rfl
    exact (show Tryd.pinned.checked.prog.wantsStandIn t = false by simpa using List.all_eq_true.1 hall t hm)⟩
theorem fnRoadsCard_holds : Rows.FnRoadsCardSaid :=
  Claim7.holds_tied_plain_at .later [] Rows.fnRoadsCard.laidKinds true Rows.fnRoadsCard.stood.harness false
    fnRoads_holds (fun _ h => by cases h) fnRoads_w (fun _ h => by cases h) fnRoads_row_tie rfl ⟨rfl, rfl⟩ fnRoads_main1 fnRoads_har fnRoads_hl fnRoads_goes
#print axioms fnRoadsCard_holds
end Go.Proofs.YteehdjkmjncehaaDoor
