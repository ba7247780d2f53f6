/-
  FnOf128: whatever the input, the law answers true (written by laws2.py).
  Conditions: the package variables that the row lists read as listed (the card ties them to the program's text).
-/
import Derived.Test.YtgdfdkpkhjbibaaDoorFp7
import Derived.Test.YtgdfdkpkhjbibaaDoorTie
import Derived.Test.YtgdfdkpkhjbibaaDoorCards
import Derived.SevenTiedAt
namespace Go.Proofs.YtgdfdkpkhjbibaaDoor
open Go.ChangeShapes Go.WideShapes Go.ChangeAt Go.WideElems Go.RowKit
theorem ERN.snN {w0 w : World} (hs : Sn noD w0 w) (h : ERN w0) : ERN w := by
  obtain ⟨u, x, hx⟩ := h
  exact ⟨u, x, hs.cell hx rfl⟩
theorem hiT {x : Nat} (h : x = 0) : ((x : Int) == 0) = true := by subst h; rfl
theorem hiF {x : Nat} (h : x ≠ 0) : ((x : Int) == 0) = false := by rw [beq_eq_false_iff_ne]; omega
theorem lo1 {x : Nat} (h : x / 18446744073709551616 = 0) : ((x : Int) == ((x % 18446744073709551616 : Nat) : Int)) = true := by rw [beq_iff_eq]; omega
set_option maxRecDepth 100000 in
theorem main_w {n x : Nat} {w : World} (hg : GR w) (hn0 : ERN w) (ln : n < 18446744073709551616) (hBx : x < 256 ^ 16) :
    Calls Tryd.prog 5 #[.int .u64 (n : Int), byV 16 x] w fun e w' => e = .returned (.bool true) ∧ Below w.heap.size w w' := by
  have hn : n < pf := Nat.lt_trans ln (by decide +kernel)
  by_cases hx : x < pf
  · by_cases hz : x / 18446744073709551616 = 0
    · refine calls_H (args := [.int .u64 (n : Int), byV 16 x]) noD [] Tryd.func5 rfl (m := 56) rfl rfl (hold_nil _ _) ?_
      refine HC.seq ?_
      refine HC.region ?_
      refine HL.new (New.box rfl) (by decide) ?_
      intro b1 hb1
      refine HL.val (Val.assign rfl) (by decide) ?_
      refine HL.nil ?_
      refine HQ.next ?_
      refine HC.seq ?_
      refine HC.region ?_
      refine HL.val (Val.move rfl) (by decide) ?_
      refine HL.val (Val.calls en29 (fun w hw => of_good (hg.sn hw.sn rfl) hn ln) rfl) (by decide) ?_
      refine HL.val (Val.move rfl) (by decide) ?_
      refine HL.val (Val.extract rfl rfl) (by decide) ?_
      refine HL.val (Val.extract rfl rfl) (by decide) ?_
      refine HL.new (New.alloc al30) (by decide) ?_
      intro b2 hb2
      refine HL.put 0 rfl (Put.row rfl rfl (by kernel_rfl) (szB _ _ _) (oneB _ _)) (.inl hb2) ?_
      simp only [List.set_cons_zero]
      refine HL.val (Val.assign rfl) (by decide) ?_
      refine HL.nil ?_
      refine HQ.next ?_
      refine HC.seq ?_
      refine HC.seq ?_
      refine HC.region ?_
      refine HL.val (Val.move rfl) (by decide) ?_
      refine HL.val (Val.call en21 (fl_p) rfl) (by decide) ?_
      refine HL.val (Val.move rfl) (by decide) ?_
      refine HL.val (Val.build rfl (built_wx n ln)) (by decide) ?_
      refine HL.val ((Val.call en30 (has_p n) rfl).as (congrArg Value.bool (decide_eq_true hn))) (by decide) ?_
      refine HL.val (Val.neqBool rfl rfl Tryd.underlying4) (by decide) ?_
      refine HL.val (Val.move rfl) (by decide) ?_
      refine HL.valg rfl (Val.move rfl) (by decide) ?_
      refine HL.valg rfl (Val.move rfl) (by decide) ?_
      refine HL.valg rfl (Val.load_row rfl (fun w hw => hw.at (i := 0) rfl) Tryd.underlying30 rfl (by kernel_rfl)) (by decide) ?_
      refine HL.valg rfl (Val.call en22 (n_p (pf_by hn)) rfl) (by decide) ?_
      refine HL.valg rfl (Val.move rfl) (by decide) ?_
      refine HL.valg rfl (Val.build rfl (built_wx n ln)) (by decide) ?_
      refine HL.valg rfl ((Val.neqA rfl rfl (by kernel_rfl) (neqW (lt_w hn) (x_w ln))).as (congrArg Value.bool (by rw [decide_eq_true (rfl : n = n)]))) (by decide) ?_
      refine HL.valg rfl (Val.pickT rfl rfl) (by decide) ?_
      refine HL.val (Val.pickF rfl rfl) (by decide) ?_
      refine HL.nil ?_
      refine HQ.next ?_
      refine HC.no rfl ?_
      refine HC.skip ?_
      refine HQ.next ?_
      refine HC.seq ?_
      refine HC.seq ?_
      refine HC.region ?_
      refine HL.val (Val.load_row rfl (fun w hw => hw.at (i := 1) rfl) Tryd.underlying30 rfl (by kernel_rfl)) (by decide) ?_
      refine HL.new (New.bslice rfl Tryd.underlying47 (by kernel_rfl) info30 (by decide) (by decide) (fill1 x)) (by decide) ?_
      intro b3 hb3
      refine HL.val ((Val.calls en25 (fun w hw => has_any (l := [x]) (hw.at (i := 0) rfl) (fun k hk => by match k, hk with | 0, _ => exact (pf_by hx)) (show 1 < 4611686018427387904 from by decide)) rfl).as (v := .bool true) (congrArg Value.bool (by simpa using hx))) (by decide) ?_
      refine HL.val (Val.not rfl) (by decide) ?_
      refine HL.nil ?_
      refine HQ.next ?_
      refine HC.no rfl ?_
      refine HC.skip ?_
      refine HQ.next ?_
      refine HC.seq ?_
      refine HC.region ?_
      refine HL.val (Val.load_row rfl (fun w hw => hw.at (i := 2) rfl) Tryd.underlying30 rfl (by kernel_rfl)) (by decide) ?_
      refine HL.val (Val.calls en31 (fun w hw => number_good (hg.sn hw.sn rfl) hx hz) rfl) (by decide) ?_
      refine HL.val (Val.move rfl) (by decide) ?_
      refine HL.val (Val.extract rfl rfl) (by decide) ?_
      refine HL.val (Val.extract rfl rfl) (by decide) ?_
      refine HL.val (Val.assign rfl) (by decide) ?_
      refine HL.val (Val.assign rfl) (by decide) ?_
      refine HL.nil ?_
      refine HQ.next ?_
      refine HC.seq ?_
      refine HC.region ?_
      refine HL.val (Val.move rfl) (by decide) ?_
      refine HL.val (Val.load_row rfl (fun w hw => hw.at (i := 2) rfl) Tryd.underlying30 rfl (by kernel_rfl)) (by decide) ?_
      refine HL.val (Val.call en22 (n_p (pf_by hx)) rfl) (by decide) ?_
      refine HL.val (Val.index1 (i := 1) rfl rfl Tryd.underlying25 Tryd.underlying23 (by kernel_rfl) (by decide) rfl) (by decide) ?_
      refine HL.val ((Val.eqlI rfl rfl).as (congrArg Value.bool (hiT hz))) (by decide) ?_
      refine HL.val (Val.eqlBool rfl rfl Tryd.underlying4) (by decide) ?_
      refine HL.val (Val.move rfl) (by decide) ?_
      refine HL.valg rfl (Val.move rfl) (by decide) ?_
      refine HL.valg rfl (Val.not rfl) (by decide) ?_
      refine HL.valg rfl (Val.move rfl) (by decide) ?_
      refine HL.valg rfl (Val.move rfl) (by decide) ?_
      refine HL.valg rfl (Val.load_row rfl (fun w hw => hw.at (i := 2) rfl) Tryd.underlying30 rfl (by kernel_rfl)) (by decide) ?_
      refine HL.valg rfl (Val.call en22 (n_p (pf_by hx)) rfl) (by decide) ?_
      refine HL.valg rfl (Val.index1 (i := 0) rfl rfl Tryd.underlying25 Tryd.underlying23 (by kernel_rfl) (by decide) rfl) (by decide) ?_
      refine HL.valg rfl ((Val.eqlI rfl rfl).as (congrArg Value.bool (lo1 hz))) (by decide) ?_
      refine HL.valg rfl (Val.pickF rfl rfl) (by decide) ?_
      refine HL.val (Val.pickT rfl rfl) (by decide) ?_
      refine HL.val (Val.assign rfl) (by decide) ?_
      refine HL.nil ?_
      refine HQ.next ?_
      refine HC.ret ?_
      exact HQ.ret1 rfl rfl (pure_end rfl)
    · refine calls_H (args := [.int .u64 (n : Int), byV 16 x]) noD [] Tryd.func5 rfl (m := 56) rfl rfl (hold_nil _ _) ?_
      refine HC.seq ?_
      refine HC.region ?_
      refine HL.new (New.box rfl) (by decide) ?_
      intro b1 hb1
      refine HL.val (Val.assign rfl) (by decide) ?_
      refine HL.nil ?_
      refine HQ.next ?_
      refine HC.seq ?_
      refine HC.region ?_
      refine HL.val (Val.move rfl) (by decide) ?_
      refine HL.val (Val.calls en29 (fun w hw => of_good (hg.sn hw.sn rfl) hn ln) rfl) (by decide) ?_
      refine HL.val (Val.move rfl) (by decide) ?_
      refine HL.val (Val.extract rfl rfl) (by decide) ?_
      refine HL.val (Val.extract rfl rfl) (by decide) ?_
      refine HL.new (New.alloc al30) (by decide) ?_
      intro b2 hb2
      refine HL.put 0 rfl (Put.row rfl rfl (by kernel_rfl) (szB _ _ _) (oneB _ _)) (.inl hb2) ?_
      simp only [List.set_cons_zero]
      refine HL.val (Val.assign rfl) (by decide) ?_
      refine HL.nil ?_
      refine HQ.next ?_
      refine HC.seq ?_
      refine HC.seq ?_
      refine HC.region ?_
      refine HL.val (Val.move rfl) (by decide) ?_
      refine HL.val (Val.call en21 (fl_p) rfl) (by decide) ?_
      refine HL.val (Val.move rfl) (by decide) ?_
      refine HL.val (Val.build rfl (built_wx n ln)) (by decide) ?_
      refine HL.val ((Val.call en30 (has_p n) rfl).as (congrArg Value.bool (decide_eq_true hn))) (by decide) ?_
      refine HL.val (Val.neqBool rfl rfl Tryd.underlying4) (by decide) ?_
      refine HL.val (Val.move rfl) (by decide) ?_
      refine HL.valg rfl (Val.move rfl) (by decide) ?_
      refine HL.valg rfl (Val.move rfl) (by decide) ?_
      refine HL.valg rfl (Val.load_row rfl (fun w hw => hw.at (i := 0) rfl) Tryd.underlying30 rfl (by kernel_rfl)) (by decide) ?_
      refine HL.valg rfl (Val.call en22 (n_p (pf_by hn)) rfl) (by decide) ?_
      refine HL.valg rfl (Val.move rfl) (by decide) ?_
      refine HL.valg rfl (Val.build rfl (built_wx n ln)) (by decide) ?_
      refine HL.valg rfl ((Val.neqA rfl rfl (by kernel_rfl) (neqW (lt_w hn) (x_w ln))).as (congrArg Value.bool (by rw [decide_eq_true (rfl : n = n)]))) (by decide) ?_
      refine HL.valg rfl (Val.pickT rfl rfl) (by decide) ?_
      refine HL.val (Val.pickF rfl rfl) (by decide) ?_
      refine HL.nil ?_
      refine HQ.next ?_
      refine HC.no rfl ?_
      refine HC.skip ?_
      refine HQ.next ?_
      refine HC.seq ?_
      refine HC.seq ?_
      refine HC.region ?_
      refine HL.val (Val.load_row rfl (fun w hw => hw.at (i := 1) rfl) Tryd.underlying30 rfl (by kernel_rfl)) (by decide) ?_
      refine HL.new (New.bslice rfl Tryd.underlying47 (by kernel_rfl) info30 (by decide) (by decide) (fill1 x)) (by decide) ?_
      intro b3 hb3
      refine HL.val ((Val.calls en25 (fun w hw => has_any (l := [x]) (hw.at (i := 0) rfl) (fun k hk => by match k, hk with | 0, _ => exact (pf_by hx)) (show 1 < 4611686018427387904 from by decide)) rfl).as (v := .bool true) (congrArg Value.bool (by simpa using hx))) (by decide) ?_
      refine HL.val (Val.not rfl) (by decide) ?_
      refine HL.nil ?_
      refine HQ.next ?_
      refine HC.no rfl ?_
      refine HC.skip ?_
      refine HQ.next ?_
      refine HC.seq ?_
      refine HC.region ?_
      refine HL.val (Val.load_row rfl (fun w hw => hw.at (i := 2) rfl) Tryd.underlying30 rfl (by kernel_rfl)) (by decide) ?_
      refine HL.val (Val.calls en31 (fun w hw => number_bad (hg.sn hw.sn rfl) hx (ERN.snN hw.sn hn0) hz) rfl) (by decide) ?_
      refine HL.val (Val.move rfl) (by decide) ?_
      refine HL.val (Val.extract rfl rfl) (by decide) ?_
      refine HL.val (Val.extract rfl rfl) (by decide) ?_
      refine HL.val (Val.assign rfl) (by decide) ?_
      refine HL.val (Val.assign rfl) (by decide) ?_
      refine HL.nil ?_
      refine HQ.next ?_
      refine HC.seq ?_
      refine HC.region ?_
      refine HL.val (Val.move rfl) (by decide) ?_
      refine HL.val (Val.load_row rfl (fun w hw => hw.at (i := 2) rfl) Tryd.underlying30 rfl (by kernel_rfl)) (by decide) ?_
      refine HL.val (Val.call en22 (n_p (pf_by hx)) rfl) (by decide) ?_
      refine HL.val (Val.index1 (i := 1) rfl rfl Tryd.underlying25 Tryd.underlying23 (by kernel_rfl) (by decide) rfl) (by decide) ?_
      refine HL.val ((Val.eqlI rfl rfl).as (congrArg Value.bool (hiF hz))) (by decide) ?_
      refine HL.val (Val.eqlBool rfl rfl Tryd.underlying4) (by decide) ?_
      refine HL.val (Val.move rfl) (by decide) ?_
      refine HL.valg rfl (Val.move rfl) (by decide) ?_
      refine HL.valg rfl (Val.not rfl) (by decide) ?_
      refine HL.valg rfl (Val.move rfl) (by decide) ?_
      refine HL.skip rfl (by decide) ?_
      refine HL.skip rfl (by decide) ?_
      refine HL.skip rfl (by decide) ?_
      refine HL.skip rfl (by decide) ?_
      refine HL.skip rfl (by decide) ?_
      refine HL.valg rfl (Val.pickT rfl rfl) (by decide) ?_
      refine HL.val (Val.pickT rfl rfl) (by decide) ?_
      refine HL.val (Val.assign rfl) (by decide) ?_
      refine HL.nil ?_
      refine HQ.next ?_
      refine HC.ret ?_
      exact HQ.ret1 rfl rfl (pure_end rfl)
  · refine calls_H (args := [.int .u64 (n : Int), byV 16 x]) noD [] Tryd.func5 rfl (m := 56) rfl rfl (hold_nil _ _) ?_
    refine HC.seq ?_
    refine HC.region ?_
    refine HL.new (New.box rfl) (by decide) ?_
    intro b1 hb1
    refine HL.val (Val.assign rfl) (by decide) ?_
    refine HL.nil ?_
    refine HQ.next ?_
    refine HC.seq ?_
    refine HC.region ?_
    refine HL.val (Val.move rfl) (by decide) ?_
    refine HL.val (Val.calls en29 (fun w hw => of_good (hg.sn hw.sn rfl) hn ln) rfl) (by decide) ?_
    refine HL.val (Val.move rfl) (by decide) ?_
    refine HL.val (Val.extract rfl rfl) (by decide) ?_
    refine HL.val (Val.extract rfl rfl) (by decide) ?_
    refine HL.new (New.alloc al30) (by decide) ?_
    intro b2 hb2
    refine HL.put 0 rfl (Put.row rfl rfl (by kernel_rfl) (szB _ _ _) (oneB _ _)) (.inl hb2) ?_
    simp only [List.set_cons_zero]
    refine HL.val (Val.assign rfl) (by decide) ?_
    refine HL.nil ?_
    refine HQ.next ?_
    refine HC.seq ?_
    refine HC.seq ?_
    refine HC.region ?_
    refine HL.val (Val.move rfl) (by decide) ?_
    refine HL.val (Val.call en21 (fl_p) rfl) (by decide) ?_
    refine HL.val (Val.move rfl) (by decide) ?_
    refine HL.val (Val.build rfl (built_wx n ln)) (by decide) ?_
    refine HL.val ((Val.call en30 (has_p n) rfl).as (congrArg Value.bool (decide_eq_true hn))) (by decide) ?_
    refine HL.val (Val.neqBool rfl rfl Tryd.underlying4) (by decide) ?_
    refine HL.val (Val.move rfl) (by decide) ?_
    refine HL.valg rfl (Val.move rfl) (by decide) ?_
    refine HL.valg rfl (Val.move rfl) (by decide) ?_
    refine HL.valg rfl (Val.load_row rfl (fun w hw => hw.at (i := 0) rfl) Tryd.underlying30 rfl (by kernel_rfl)) (by decide) ?_
    refine HL.valg rfl (Val.call en22 (n_p (pf_by hn)) rfl) (by decide) ?_
    refine HL.valg rfl (Val.move rfl) (by decide) ?_
    refine HL.valg rfl (Val.build rfl (built_wx n ln)) (by decide) ?_
    refine HL.valg rfl ((Val.neqA rfl rfl (by kernel_rfl) (neqW (lt_w hn) (x_w ln))).as (congrArg Value.bool (by rw [decide_eq_true (rfl : n = n)]))) (by decide) ?_
    refine HL.valg rfl (Val.pickT rfl rfl) (by decide) ?_
    refine HL.val (Val.pickF rfl rfl) (by decide) ?_
    refine HL.nil ?_
    refine HQ.next ?_
    refine HC.no rfl ?_
    refine HC.skip ?_
    refine HQ.next ?_
    refine HC.seq ?_
    refine HC.seq ?_
    refine HC.region ?_
    refine HL.val (Val.load_row rfl (fun w hw => hw.at (i := 1) rfl) Tryd.underlying30 rfl (by kernel_rfl)) (by decide) ?_
    refine HL.new (New.bslice rfl Tryd.underlying47 (by kernel_rfl) info30 (by decide) (by decide) (fill1 x)) (by decide) ?_
    intro b3 hb3
    refine HL.val ((Val.calls en25 (fun w hw => has_any (l := [x]) (hw.at (i := 0) rfl) (fun k hk => by match k, hk with | 0, _ => exact hBx) (show 1 < 4611686018427387904 from by decide)) rfl).as (v := .bool false) (congrArg Value.bool (by simpa using hx))) (by decide) ?_
    refine HL.val (Val.not rfl) (by decide) ?_
    refine HL.nil ?_
    refine HQ.next ?_
    refine HC.yes rfl ?_
    refine HC.seq ?_
    refine HC.region ?_
    refine HL.val (Val.assign rfl) (by decide) ?_
    refine HL.nil ?_
    refine HQ.next ?_
    refine HC.ret ?_
    refine HQ.thenRet ?_
    exact HQ.ret1 rfl rfl (pure_end rfl)
set_option maxRecDepth 100000 in
theorem fnOf128_met (os : Os) (args : Array Value) : laidMetH Tryd.prog Rows.fnOf128Row.laid ((World.doorLaid Tryd.prog 400 os).forCall (fun _ _ => 0) ⟨#[], args, []⟩).memory :=
  laidMetH_of_parts3 (fuel := 8) (laidMet_of_run' 8 (by kernel_rfl) (by kernel_rfl)) (by kernel_rfl) (by kernel_rfl)
set_option maxRecDepth 100000 in
theorem fnOf128_lifted (os : Os) (started : os.Started) (H : Type) (enc : TypeId × Value → H) :
    ReturnsInHanded {} Tryd.checked os 5 .any (fun w args => (Rows.fnOf128Spec.pre enc Tryd.prog Tryd.f5 [] false w args ∧ laidMetH Tryd.prog Rows.fnOf128Row.laid w) ∧ sizedMet enc Tryd.prog Tryd.f5 (OpenSpec.ofChange Rows.fnOf128Spec) false w args)
      (Rows.fnOf128Spec.post enc Tryd.prog Tryd.f5 false true false false) := by
  refine returnsInHanded_of_change_and (C := Tryd.checked) (X := fun w _ => laidMetH Tryd.prog Rows.fnOf128Row.laid w) (fun _ _ _ hh h => h.of_heap hh) own1 started (by kernel_rfl) Tryd.func5
    (ChangeSpec.witness_shaped (enc := enc) (C := Tryd.checked) (os := os) (X := fun w _ => laidMetH Tryd.prog Rows.fnOf128Row.laid w) false (World.doorLaid Tryd.prog 400 os) #[.int .u64 0, byV 16 0] 8 rfl (World.shaped_of_RefB (by kernel_rfl) (by kernel_rfl)) (by kernel_rfl) (by kernel_rfl) (by kernel_rfl) (fnOf128_met os _)) ?_
  intro W base args ds gs before hval0 hW _ _ hL _
  have hval : ∀ (j : Nat) t v, Tryd.f5.params[j]? = some t → args[j]? = some v → Value.okWide Tryd.prog W .any base t v := hval0
  have hW' := hW
  obtain ⟨p, q, hA0, hV, rfl, hfz, hnd⟩ := hW
  have hV0 := hV
  have hA : DataW.TrodAll enc Tryd.prog W 0 (fun _ => true) true Tryd.f5.params.toList args.toList ds p := hA0
  rw [Tryd.params5] at hA hval
  obtain ⟨v0, v1, d0, d1, p0, p1, rfl, rfl, rfl, h0, h1⟩ := trodAll_two hA
  obtain ⟨g0, g1, rfl⟩ : ∃ g0 g1, gs = [g0, g1] := by
    have hgl := trodVars_len hV0
    match gs, hgl with
    | [g0, g1], _ => exact ⟨g0, g1, rfl⟩
  obtain ⟨ni, rfl, rfl, rfl, wn⟩ := open_int Tryd.underlying23 (hval 0 23 v0 rfl rfl) h0
  obtain ⟨n, rfl, ln⟩ := nat_of_u64 wn
  obtain ⟨x, hx, rfl, rfl⟩ := open_by Tryd.underlying30 Tryd.underlying5 (by kernel_rfl) (by kernel_rfl) (hval 1 30 v1 rfl rfl) h1
  clear hA0 hval0
  refine (main_w (gr_at (laid_at (by kernel_rfl) hL 0 rfl)) (erN_at (laid_at (by kernel_rfl) hL 1 rfl)) ln hx).mono fun e W' ⟨he, hb⟩ => ?_
  subst he
  exact ⟨_, rfl, ⟨_, _, _, [], _, _, hW', trodAll_mk1 (shut_bool Tryd.underlying4 true), trodAll_mk2 (shut_int Tryd.underlying23 wn) (Below.trod laidOut1 (by kernel_rfl) (of_decide_eq_true (by kernel_rfl)) h1 hb (by simp)), Below.trodVars laidOut1 hb (by kernel_rfl) hV, hb.frame _, fun h => by cases h⟩⟩
theorem fnOf128_c1 : (Rows.fnOf128Row.inPlace == Tryd.pinned.checked.prog.inPlace 5) = true := by kernel_rfl
theorem fnOf128_c2 : (Rows.fnOf128Row.unfollowed == Tryd.pinned.checked.prog.unfollowed 5) = true := by kernel_rfl
theorem fnOf128_c3 : (Rows.fnOf128Row.recurses == Tryd.pinned.checked.prog.recurses 5) = true := by kernel_rfl
theorem fnOf128_c4 : (Rows.fnOf128Row.named == Tryd.pinned.checked.prog.varsNamed 5) = true := by kernel_rfl
theorem fnOf128_c5 : Rows.fnOf128Row.wf (OpenSpec.ofChange Rows.fnOf128Spec) = true := by kernel_rfl
theorem fnOf128_c8 : (Rows.fnOf128Row.plainKeys == Tryd.pinned.checked.prog.plainKeys) = true := by kernel_rfl
theorem fnOf128_d1 : (Rows.fnOf128Row.lifted == Tryd.pinned.checked.prog.liftsFinal) = true := by rw [lifts1]; rfl
theorem fnOf128_d2 : (Tryd.pinned.checked.prog.make == some Rows.fnOf128Row.make) = true := by rw [make1]; rfl
theorem looks1 : false = Tryd.pinned.checked.prog.looks [] := by kernel_rfl
theorem fnOf128_closed : joinedFacts Tryd.pinned.checked.prog 5 Tryd.f5 Rows.fnOf128Spec Rows.fnOf128Row = true := by
  delta joinedFacts
  repeat' with_reducible apply and_i
  all_goals first | with_reducible exact fnOf128_c1 | with_reducible exact fnOf128_c2 | with_reducible exact fnOf128_c3 | with_reducible exact fnOf128_c4 | with_reducible exact fnOf128_c5 | with_reducible exact c6 | with_reducible exact c7 | with_reducible exact fnOf128_c8 | with_reducible exact c9 | with_reducible exact may1 | with_reducible exact fnOf128_d1 | with_reducible exact fnOf128_d2 | kernel_rfl
theorem fnOf128_named : Tryd.pinned.checked.prog.funcNamed Rows.fnOf128Row.func = some 5 := by kernel_rfl
theorem fnOf128_inst : Tryd.f5.isInstance Tryd.pinned.checked.prog Rows.fnOf128Row.origin Rows.fnOf128Row.targs := of_decide_eq_true (by kernel_rfl)
theorem fnOf128_wrap : Tryd.f5.isWrapper Tryd.pinned.checked.prog Rows.fnOf128Row.wrapper Rows.fnOf128Row.mainSum := by unfold Func.isWrapper; first | (rw [if_pos (by decide +kernel)]; kernel_rfl) | (rw [if_neg (by decide +kernel)]; exact ⟨rfl, rfl⟩)
theorem fnOf128_holds : Rows.FnOf128Said :=
  OpenClaim.holds_of_wide 5 Tryd.f5 rfl rfl rfl rfl rfl rfl rfl ⟨rfl, rfl, rfl, rfl, rfl⟩ rfl rfl rfl rfl rfl fnOf128_named Tryd.func5 fnOf128_closed
    fnOf128_inst fnOf128_wrap
    (fun os started H enc _ => fnOf128_lifted os started H enc)
theorem fnOf128_w : Rows.fnOf128Row.wfByText (OpenSpec.ofChange Rows.fnOf128Spec) = true := by kernel_rfl
theorem fnOf128_main1 : Tryd.pinned.checked.prog.mainIs = some (Rows.fnOf128Card.stood.harness.1, Rows.fnOf128Card.stood.harness.2.toList) := main1.trans (by kernel_rfl)
theorem fnOf128_goes : false = Rows.fnOf128Row.goesBy Tryd.pinned.checked.prog := by kernel_rfl
theorem fnOf128_har : (!Rows.fnOf128Card.stood.harness.1 && Rows.fnOf128Card.stood.harness.2.isEmpty && !false) = false := by kernel_rfl
theorem fnOf128_hl : ∀ f fn, Tryd.pinned.checked.prog.funcNamed Rows.fnOf128Row.func = some f → Tryd.pinned.checked.prog.funcs[f]? = some fn → false = Tryd.pinned.checked.prog.looks [] ∧ ∀ (j : Nat) t, fn.params[j]? = some t → Tryd.pinned.checked.prog.wantsStandIn t = false := fun f fn hf hfn => by
  obtain rfl : f = 5 := (Option.some.inj (fnOf128_named.symm.trans hf)).symm
  obtain rfl : fn = Tryd.f5 := (Option.some.inj (Tryd.func5.symm.trans hfn)).symm
  exact ⟨looks1, fun j t ht => by
    rw [Tryd.params5] at ht
    have hm : t ∈ [23, 30] := by simpa using Array.mem_of_getElem? ht
    have hall : ([23, 30].all fun u => !Tryd.pinned.checked.prog.wantsStandIn u) = true := by kernel_rfl
    exact (show Tryd.pinned.checked.prog.wantsStandIn t = false by simpa using List.all_eq_true.1 hall t hm)⟩
theorem fnOf128Card_holds : Rows.FnOf128CardSaid :=
  Claim7.holds_tied_plain_at .later [] Rows.fnOf128Card.laidKinds true Rows.fnOf128Card.stood.harness false
    fnOf128_holds (fun _ h => by cases h) fnOf128_w (fun _ h => by cases h) fnOf128_row_tie rfl ⟨rfl, rfl⟩ fnOf128_main1 fnOf128_har fnOf128_hl fnOf128_goes
#print axioms fnOf128Card_holds
end Go.Proofs.YtgdfdkpkhjbibaaDoor
