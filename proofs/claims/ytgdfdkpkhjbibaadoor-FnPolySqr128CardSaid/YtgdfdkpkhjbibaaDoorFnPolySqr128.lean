/-
  FnPolySqr128: whatever the input, the law answers true (written by laws2.py).
  Conditions: the package variables that the row lists read as listed (the card ties them to the program's text).
-/
import Derived.Test.YtgdfdkpkhjbibaaDoorVe
import Derived.Test.YtgdfdkpkhjbibaaDoorTie
import Derived.Test.YtgdfdkpkhjbibaaDoorCards
import Derived.SevenTiedAt
namespace Go.Proofs.YtgdfdkpkhjbibaaDoor
open Go.ChangeShapes Go.WideShapes Go.ChangeAt Go.WideElems Go.RowKit
theorem infoS : (Tryd.prog.info? 47).bind (·.zero) = some (.slice none 0 0) := by kernel_rfl
theorem fillS1 (a : Option Addr) (l c : Nat) : Instr.fill (fun i => some (i * 1, 1)) ((Array.range (1 * 1)).map ((Value.slice none 0 0).cells[· % (Value.slice none 0 0).cells.size]!)) [(0, .slice a l c)] = some #[.slice a l c] := by kernel_rfl
theorem fillS2 (a : Option Addr) (l c : Nat) (a2 : Option Addr) (l2 c2 : Nat) : Instr.fill (fun i => some (i * 1, 1)) ((Array.range (2 * 1)).map ((Value.slice none 0 0).cells[· % (Value.slice none 0 0).cells.size]!)) [(0, .slice a l c), (1, .slice a2 l2 c2)] = some #[.slice a l c, .slice a2 l2 c2] := by kernel_rfl
theorem same_prod {l : List Nat} {b3 T3 b5 T5 : Nat} {w : World} (h3 : w.heap[b3]? = some (.cells (flat (byA 16) (prodL l l)) T3 (0, 0))) (h5 : w.heap[b5]? = some (.cells (flat wA (prodL l l)) T5 (0, 0))) (hl : l.length ≤ 10000) :
    Calls Tryd.prog 37 #[.slice (some ⟨b3, 0, none⟩) (l.length + l.length - 1) (l.length + l.length - 1), .slice (some ⟨b5, 0, none⟩) (l.length + l.length - 1) (l.length + l.length - 1)] w fun e w' => e = .returned (.bool true) ∧ Below w.heap.size w w' := by
  have hp := prodL_lt l l
  have h := same_any (c := l.length + l.length - 1) (c2 := l.length + l.length - 1) (SlA.of_row szBy h3) (fun k hk => pf_by (hp k hk)) (SlA.of_row szWA h5) (fun k hk => lt_w (hp k hk)) (by rw [prodL_len]; omega)
  rw [prodL_len, decide_eq_true (rfl : prodL l l = prodL l l)] at h
  exact h
set_option maxRecDepth 100000 in
theorem main_w {adl : Option Addr} {bl ol cl : Nat} {l : List Nat} {w : World} (hg : GR w) (_nl : l.length ≤ 9223372036854775807) (hl : ∀ k, k < l.length → l.getD k 0 < 256 ^ 16) (sl : SlA (byA 16) 16 w adl bl ol l) :
    Calls Tryd.prog 18 #[.slice adl l.length cl] w fun e w' => e = .returned (.bool true) ∧ Below w.heap.size w w' := by
  by_cases hzl : 2147483647 < l.length
  · refine calls_H (args := [.slice adl l.length cl]) noD [] Tryd.func18 rfl (m := 38) rfl rfl (hold_nil _ _) ?_
    refine HC.seq ?_
    refine HC.region ?_
    refine HL.val (Val.assign rfl) (by decide) ?_
    refine HL.nil ?_
    refine HQ.next ?_
    refine HC.seq ?_
    refine HC.seq ?_
    refine HC.region ?_
    refine HL.val (Val.move rfl) (by decide) ?_
    refine HL.val (Val.lenS rfl rfl Tryd.underlying47) (by decide) ?_
    refine HL.val ((Val.gtr rfl rfl).as (congrArg Value.bool ((lssN 2147483647 l.length).trans (decide_eq_true hzl)))) (by decide) ?_
    refine HL.nil ?_
    refine HQ.next ?_
    refine HC.yes rfl ?_
    refine HC.seq ?_
    refine HC.region ?_
    refine HL.val (Val.assign rfl) (by decide) ?_
    refine HL.nil ?_
    refine HQ.next ?_
    refine HC.ret ?_
    refine HQ.thenRet ?_
    exact HQ.ret1 rfl rfl (pure_end rfl)
  by_cases hfl : Few l
  · have hpl := allLt_of hfl.2
    have hll : l.length ≤ 100000 := Nat.le_trans hfl.1 (by decide)
    by_cases h1 : 0 < l.length
    · by_cases h32 : l.length ≤ 32
      · refine calls_H (args := [.slice adl l.length cl]) noD [] Tryd.func18 rfl (m := 38) rfl rfl (hold_nil _ _) ?_
        refine HC.seq ?_
        refine HC.region ?_
        refine HL.val (Val.assign rfl) (by decide) ?_
        refine HL.nil ?_
        refine HQ.next ?_
        refine HC.seq ?_
        refine HC.seq ?_
        refine HC.region ?_
        refine HL.val (Val.move rfl) (by decide) ?_
        refine HL.val (Val.lenS rfl rfl Tryd.underlying47) (by decide) ?_
        refine HL.val ((Val.gtr rfl rfl).as (congrArg Value.bool ((lssN 2147483647 l.length).trans (decide_eq_false hzl)))) (by decide) ?_
        refine HL.nil ?_
        refine HQ.next ?_
        refine HC.no rfl ?_
        refine HC.skip ?_
        refine HQ.next ?_
        refine HC.seq ?_
        refine HC.seq ?_
        refine HC.region ?_
        refine HL.val (Val.move rfl) (by decide) ?_
        refine HL.new (New.bslice (s := 1) rfl Tryd.underlying97 (by kernel_rfl) infoS (by decide) (by decide) (fillS1 adl l.length cl)) (by decide) ?_
        intro b1 hb1
        refine HL.val ((Val.calls en34 (fun w hw => few1_any (hw.at (i := 0) rfl) (sl.sn szBy hw.sn rfl) hl) rfl).as (congrArg Value.bool (decide_eq_true hfl))) (by decide) ?_
        refine HL.val (Val.not rfl) (by decide) ?_
        refine HL.val (Val.move rfl) (by decide) ?_
        refine HL.valg rfl (Val.move rfl) (by decide) ?_
        refine HL.valg rfl (Val.lenS rfl rfl Tryd.underlying47) (by decide) ?_
        refine HL.valg rfl ((Val.lss rfl rfl).as (congrArg Value.bool ((lssN l.length 1).trans (decide_eq_false (by omega))))) (by decide) ?_
        refine HL.val (Val.pickF rfl rfl) (by decide) ?_
        refine HL.val (Val.move rfl) (by decide) ?_
        refine HL.valg rfl (Val.move rfl) (by decide) ?_
        refine HL.valg rfl (Val.lenS rfl rfl Tryd.underlying47) (by decide) ?_
        refine HL.valg rfl ((Val.gtr rfl rfl).as (congrArg Value.bool ((lssN 32 l.length).trans (decide_eq_false (by omega))))) (by decide) ?_
        refine HL.val (Val.pickF rfl rfl) (by decide) ?_
        refine HL.nil ?_
        refine HQ.next ?_
        refine HC.no rfl ?_
        refine HC.skip ?_
        refine HQ.next ?_
        refine HC.seq ?_
        refine HC.region ?_
        refine HL.val (Val.move rfl) (by decide) ?_
        refine HL.fam (FamV.call (R := fun r => True) (ob := fun r => .cells (flat (byA 16) (prodL l l)) 30 (0, 0)) (pv := fun r => .tuple #[.slice (some ⟨r.1, 0, none⟩) (l.length + l.length - 1) (l.length + l.length - 1), .bool true]) en60 (fun w hw => ipsqr_good (hg.sn hw.sn rfl) (sl.sn szBy hw.sn rfl) hpl h1 (by omega)) rfl) (fun _ h => by cases h) (by decide) ?_
        intro b2 c2 q2 r2 hb2
        dsimp only
        refine HL.val (Val.move rfl) (by decide) ?_
        refine HL.val (Val.extract rfl rfl) (by decide) ?_
        refine HL.val (Val.extract rfl rfl) (by decide) ?_
        refine HL.val (Val.assign rfl) (by decide) ?_
        refine HL.val (Val.assign rfl) (by decide) ?_
        refine HL.nil ?_
        refine HQ.next ?_
        refine HC.seq ?_
        refine HC.region ?_
        refine HL.val (Val.move rfl) (by decide) ?_
        refine HL.val (Val.move rfl) (by decide) ?_
        refine HL.valg rfl (Val.move rfl) (by decide) ?_
        refine HL.valg rfl (Val.call en21 (fl_p) rfl) (by decide) ?_
        refine HL.valg rfl (Val.move rfl) (by decide) ?_
        refine HL.fam (FamV.call (R := fun r => PreW r.2.2 l ∧ l.length ≤ r.2.1) (ob := fun r => .cells r.2.2 25 (0, 0)) (pv := fun r => .slice (some ⟨r.1, 0, none⟩) l.length r.2.1) en36 (fun w hw => l_any (sl.sn szBy hw.sn rfl) hl hll) rfl) (fun _ h => by cases h; rfl) (by decide) ?_
        intro b3 c3 q3 r3 hb3
        dsimp only
        refine HL.valg rfl (Val.move rfl) (by decide) ?_
        refine HL.fam (FamV.call (R := fun r => PreW r.2.2 l ∧ l.length ≤ r.2.1) (ob := fun r => .cells r.2.2 25 (0, 0)) (pv := fun r => .slice (some ⟨r.1, 0, none⟩) l.length r.2.1) en36 (fun w hw => l_any (sl.sn szBy hw.sn rfl) hl hll) rfl) (fun _ h => by cases h; rfl) (by decide) ?_
        intro b4 c4 q4 r4 hb4
        dsimp only
        refine HL.fam (FamV.call (R := fun r => True) (ob := fun r => .cells (flat wA (prodL l l)) 25 (0, 0)) (pv := fun r => .slice (some ⟨r.1, 0, none⟩) (l.length + l.length - 1) (l.length + l.length - 1)) en61 (fun w hw => sprod_any h1 (PreW.sl r3.1 (hw.at (i := 1) rfl)) hpl (PreW.sl r4.1 (hw.at (i := 0) rfl)) hpl (by omega)) rfl) (fun _ h => by cases h; rfl) (by decide) ?_
        intro b5 c5 q5 r5 hb5
        dsimp only
        refine HL.valg rfl (Val.calls en37 (fun w hw => same_prod (hw.at (i := 3) rfl) (hw.at (i := 0) rfl) (by omega)) rfl) (by decide) ?_
        refine HL.val (Val.pickT rfl rfl) (by decide) ?_
        refine HL.val (Val.assign rfl) (by decide) ?_
        refine HL.nil ?_
        refine HQ.next ?_
        refine HC.ret ?_
        exact HQ.ret1 rfl rfl (pure_end rfl)
      · refine calls_H (args := [.slice adl l.length cl]) noD [] Tryd.func18 rfl (m := 38) rfl rfl (hold_nil _ _) ?_
        refine HC.seq ?_
        refine HC.region ?_
        refine HL.val (Val.assign rfl) (by decide) ?_
        refine HL.nil ?_
        refine HQ.next ?_
        refine HC.seq ?_
        refine HC.seq ?_
        refine HC.region ?_
        refine HL.val (Val.move rfl) (by decide) ?_
        refine HL.val (Val.lenS rfl rfl Tryd.underlying47) (by decide) ?_
        refine HL.val ((Val.gtr rfl rfl).as (congrArg Value.bool ((lssN 2147483647 l.length).trans (decide_eq_false hzl)))) (by decide) ?_
        refine HL.nil ?_
        refine HQ.next ?_
        refine HC.no rfl ?_
        refine HC.skip ?_
        refine HQ.next ?_
        refine HC.seq ?_
        refine HC.seq ?_
        refine HC.region ?_
        refine HL.val (Val.move rfl) (by decide) ?_
        refine HL.new (New.bslice (s := 1) rfl Tryd.underlying97 (by kernel_rfl) infoS (by decide) (by decide) (fillS1 adl l.length cl)) (by decide) ?_
        intro b1 hb1
        refine HL.val ((Val.calls en34 (fun w hw => few1_any (hw.at (i := 0) rfl) (sl.sn szBy hw.sn rfl) hl) rfl).as (congrArg Value.bool (decide_eq_true hfl))) (by decide) ?_
        refine HL.val (Val.not rfl) (by decide) ?_
        refine HL.val (Val.move rfl) (by decide) ?_
        refine HL.valg rfl (Val.move rfl) (by decide) ?_
        refine HL.valg rfl (Val.lenS rfl rfl Tryd.underlying47) (by decide) ?_
        refine HL.valg rfl ((Val.lss rfl rfl).as (congrArg Value.bool ((lssN l.length 1).trans (decide_eq_false (by omega))))) (by decide) ?_
        refine HL.val (Val.pickF rfl rfl) (by decide) ?_
        refine HL.val (Val.move rfl) (by decide) ?_
        refine HL.valg rfl (Val.move rfl) (by decide) ?_
        refine HL.valg rfl (Val.lenS rfl rfl Tryd.underlying47) (by decide) ?_
        refine HL.valg rfl ((Val.gtr rfl rfl).as (congrArg Value.bool ((lssN 32 l.length).trans (decide_eq_true (by omega))))) (by decide) ?_
        refine HL.val (Val.pickF rfl rfl) (by decide) ?_
        refine HL.nil ?_
        refine HQ.next ?_
        refine HC.yes rfl ?_
        refine HC.seq ?_
        refine HC.region ?_
        refine HL.val (Val.assign rfl) (by decide) ?_
        refine HL.nil ?_
        refine HQ.next ?_
        refine HC.ret ?_
        refine HQ.thenRet ?_
        exact HQ.ret1 rfl rfl (pure_end rfl)
    · refine calls_H (args := [.slice adl l.length cl]) noD [] Tryd.func18 rfl (m := 38) rfl rfl (hold_nil _ _) ?_
      refine HC.seq ?_
      refine HC.region ?_
      refine HL.val (Val.assign rfl) (by decide) ?_
      refine HL.nil ?_
      refine HQ.next ?_
      refine HC.seq ?_
      refine HC.seq ?_
      refine HC.region ?_
      refine HL.val (Val.move rfl) (by decide) ?_
      refine HL.val (Val.lenS rfl rfl Tryd.underlying47) (by decide) ?_
      refine HL.val ((Val.gtr rfl rfl).as (congrArg Value.bool ((lssN 2147483647 l.length).trans (decide_eq_false hzl)))) (by decide) ?_
      refine HL.nil ?_
      refine HQ.next ?_
      refine HC.no rfl ?_
      refine HC.skip ?_
      refine HQ.next ?_
      refine HC.seq ?_
      refine HC.seq ?_
      refine HC.region ?_
      refine HL.val (Val.move rfl) (by decide) ?_
      refine HL.new (New.bslice (s := 1) rfl Tryd.underlying97 (by kernel_rfl) infoS (by decide) (by decide) (fillS1 adl l.length cl)) (by decide) ?_
      intro b1 hb1
      refine HL.val ((Val.calls en34 (fun w hw => few1_any (hw.at (i := 0) rfl) (sl.sn szBy hw.sn rfl) hl) rfl).as (congrArg Value.bool (decide_eq_true hfl))) (by decide) ?_
      refine HL.val (Val.not rfl) (by decide) ?_
      refine HL.val (Val.move rfl) (by decide) ?_
      refine HL.valg rfl (Val.move rfl) (by decide) ?_
      refine HL.valg rfl (Val.lenS rfl rfl Tryd.underlying47) (by decide) ?_
      refine HL.valg rfl ((Val.lss rfl rfl).as (congrArg Value.bool ((lssN l.length 1).trans (decide_eq_true (by omega))))) (by decide) ?_
      refine HL.val (Val.pickF rfl rfl) (by decide) ?_
      refine HL.val (Val.move rfl) (by decide) ?_
      refine HL.skip rfl (by decide) ?_
      refine HL.skip rfl (by decide) ?_
      refine HL.skip rfl (by decide) ?_
      refine HL.val (Val.pickT rfl rfl) (by decide) ?_
      refine HL.nil ?_
      refine HQ.next ?_
      refine HC.yes rfl ?_
      refine HC.seq ?_
      refine HC.region ?_
      refine HL.val (Val.assign rfl) (by decide) ?_
      refine HL.nil ?_
      refine HQ.next ?_
      refine HC.ret ?_
      refine HQ.thenRet ?_
      exact HQ.ret1 rfl rfl (pure_end rfl)
  · refine calls_H (args := [.slice adl l.length cl]) noD [] Tryd.func18 rfl (m := 38) rfl rfl (hold_nil _ _) ?_
    refine HC.seq ?_
    refine HC.region ?_
    refine HL.val (Val.assign rfl) (by decide) ?_
    refine HL.nil ?_
    refine HQ.next ?_
    refine HC.seq ?_
    refine HC.seq ?_
    refine HC.region ?_
    refine HL.val (Val.move rfl) (by decide) ?_
    refine HL.val (Val.lenS rfl rfl Tryd.underlying47) (by decide) ?_
    refine HL.val ((Val.gtr rfl rfl).as (congrArg Value.bool ((lssN 2147483647 l.length).trans (decide_eq_false hzl)))) (by decide) ?_
    refine HL.nil ?_
    refine HQ.next ?_
    refine HC.no rfl ?_
    refine HC.skip ?_
    refine HQ.next ?_
    refine HC.seq ?_
    refine HC.seq ?_
    refine HC.region ?_
    refine HL.val (Val.move rfl) (by decide) ?_
    refine HL.new (New.bslice (s := 1) rfl Tryd.underlying97 (by kernel_rfl) infoS (by decide) (by decide) (fillS1 adl l.length cl)) (by decide) ?_
    intro b1 hb1
    refine HL.val ((Val.calls en34 (fun w hw => few1_any (hw.at (i := 0) rfl) (sl.sn szBy hw.sn rfl) hl) rfl).as (congrArg Value.bool (decide_eq_false hfl))) (by decide) ?_
    refine HL.val (Val.not rfl) (by decide) ?_
    refine HL.val (Val.move rfl) (by decide) ?_
    refine HL.skip rfl (by decide) ?_
    refine HL.skip rfl (by decide) ?_
    refine HL.skip rfl (by decide) ?_
    refine HL.val (Val.pickT rfl rfl) (by decide) ?_
    refine HL.val (Val.move rfl) (by decide) ?_
    refine HL.skip rfl (by decide) ?_
    refine HL.skip rfl (by decide) ?_
    refine HL.skip rfl (by decide) ?_
    refine HL.val (Val.pickT rfl rfl) (by decide) ?_
    refine HL.nil ?_
    refine HQ.next ?_
    refine HC.yes rfl ?_
    refine HC.seq ?_
    refine HC.region ?_
    refine HL.val (Val.assign rfl) (by decide) ?_
    refine HL.nil ?_
    refine HQ.next ?_
    refine HC.ret ?_
    refine HQ.thenRet ?_
    exact HQ.ret1 rfl rfl (pure_end rfl)
set_option maxRecDepth 100000 in
theorem fnPolySqr128_met (os : Os) (args : Array Value) : laidMetH Tryd.prog Rows.fnPolySqr128Row.laid ((World.doorLaid Tryd.prog 400 os).forCall (fun _ _ => 0) ⟨#[], args, []⟩).memory :=
  laidMetH_of_parts3 (fuel := 8) (laidMet_of_run' 8 (by kernel_rfl) (by kernel_rfl)) (by kernel_rfl) (by kernel_rfl)
set_option maxRecDepth 100000 in
theorem fnPolySqr128_lifted (os : Os) (started : os.Started) (H : Type) (enc : TypeId × Value → H) :
    ReturnsInHanded {} Tryd.checked os 18 .any (fun w args => (Rows.fnPolySqr128Spec.pre enc Tryd.prog Tryd.f18 [] false w args ∧ laidMetH Tryd.prog Rows.fnPolySqr128Row.laid w) ∧ sizedMet enc Tryd.prog Tryd.f18 (OpenSpec.ofChange Rows.fnPolySqr128Spec) false w args)
      (Rows.fnPolySqr128Spec.post enc Tryd.prog Tryd.f18 false true false false) := by
  refine returnsInHanded_of_change_and (C := Tryd.checked) (X := fun w _ => laidMetH Tryd.prog Rows.fnPolySqr128Row.laid w) (fun _ _ _ hh h => h.of_heap hh) own1 started (by kernel_rfl) Tryd.func18
    (ChangeSpec.witness_shaped (enc := enc) (C := Tryd.checked) (os := os) (X := fun w _ => laidMetH Tryd.prog Rows.fnPolySqr128Row.laid w) false (World.doorLaid Tryd.prog 400 os) #[.slice none 0 0] 8 rfl (World.shaped_of_RefB (by kernel_rfl) (by kernel_rfl)) (by kernel_rfl) (by kernel_rfl) (by kernel_rfl) (fnPolySqr128_met os _)) ?_
  intro W base args ds gs before hval0 hW _ _ hL _
  have hval : ∀ (j : Nat) t v, Tryd.f18.params[j]? = some t → args[j]? = some v → Value.okWide Tryd.prog W .any base t v := hval0
  have hW' := hW
  obtain ⟨p, q, hA0, hV, rfl, hfz, hnd⟩ := hW
  have hV0 := hV
  have hA : DataW.TrodAll enc Tryd.prog W 0 (fun _ => true) true Tryd.f18.params.toList args.toList ds p := hA0
  rw [Tryd.params18] at hA hval
  obtain ⟨v0, d0, rfl, rfl, h0⟩ := trodAll_one hA
  obtain ⟨g0, g1, rfl⟩ : ∃ g0 g1, gs = [g0, g1] := by
    have hgl := trodVars_len hV0
    match gs, hgl with
    | [g0, g1], _ => exact ⟨g0, g1, rfl⟩
  obtain ⟨adl, bl, ol, cl, l, rfl, nl, hl, sl⟩ := open_rows Tryd.underlying47 Tryd.underlying30 Tryd.underlying5 (by kernel_rfl) (by kernel_rfl) (by decide) (hval 0 47 v0 rfl rfl) h0
  clear hA0 hval0
  refine (main_w (gr_at (laid_at (by kernel_rfl) hL 0 rfl)) nl hl sl).mono fun e W' ⟨he, hb⟩ => ?_
  subst he
  exact ⟨_, rfl, ⟨_, _, _, [], _, _, hW', trodAll_mk1 (shut_bool Tryd.underlying4 true), trodAll_mk1 (Below.trod laidOut1 (by kernel_rfl) (of_decide_eq_true (by kernel_rfl)) h0 hb (trod_lt h0)), Below.trodVars laidOut1 hb (by kernel_rfl) hV, hb.frame _, fun h => by cases h⟩⟩
theorem fnPolySqr128_c1 : (Rows.fnPolySqr128Row.inPlace == Tryd.pinned.checked.prog.inPlace 18) = true := by kernel_rfl
theorem fnPolySqr128_c2 : (Rows.fnPolySqr128Row.unfollowed == Tryd.pinned.checked.prog.unfollowed 18) = true := by kernel_rfl
theorem fnPolySqr128_c3 : (Rows.fnPolySqr128Row.recurses == Tryd.pinned.checked.prog.recurses 18) = true := by kernel_rfl
theorem fnPolySqr128_c4 : (Rows.fnPolySqr128Row.named == Tryd.pinned.checked.prog.varsNamed 18) = true := by kernel_rfl
theorem fnPolySqr128_c5 : Rows.fnPolySqr128Row.wf (OpenSpec.ofChange Rows.fnPolySqr128Spec) = true := by kernel_rfl
theorem fnPolySqr128_c8 : (Rows.fnPolySqr128Row.plainKeys == Tryd.pinned.checked.prog.plainKeys) = true := by kernel_rfl
theorem fnPolySqr128_d1 : (Rows.fnPolySqr128Row.lifted == Tryd.pinned.checked.prog.liftsFinal) = true := by rw [lifts1]; rfl
theorem fnPolySqr128_d2 : (Tryd.pinned.checked.prog.make == some Rows.fnPolySqr128Row.make) = true := by rw [make1]; rfl
theorem looks1 : false = Tryd.pinned.checked.prog.looks [] := by kernel_rfl
theorem fnPolySqr128_closed : joinedFacts Tryd.pinned.checked.prog 18 Tryd.f18 Rows.fnPolySqr128Spec Rows.fnPolySqr128Row = true := by
  delta joinedFacts
  repeat' with_reducible apply and_i
  all_goals first | with_reducible exact fnPolySqr128_c1 | with_reducible exact fnPolySqr128_c2 | with_reducible exact fnPolySqr128_c3 | with_reducible exact fnPolySqr128_c4 | with_reducible exact fnPolySqr128_c5 | with_reducible exact c6 | with_reducible exact c7 | with_reducible exact fnPolySqr128_c8 | with_reducible exact c9 | with_reducible exact may1 | with_reducible exact fnPolySqr128_d1 | with_reducible exact fnPolySqr128_d2 | kernel_rfl
theorem fnPolySqr128_named : Tryd.pinned.checked.prog.funcNamed Rows.fnPolySqr128Row.func = some 18 := by kernel_rfl
theorem fnPolySqr128_inst : Tryd.f18.isInstance Tryd.pinned.checked.prog Rows.fnPolySqr128Row.origin Rows.fnPolySqr128Row.targs := of_decide_eq_true (by kernel_rfl)
theorem fnPolySqr128_wrap : Tryd.f18.isWrapper Tryd.pinned.checked.prog Rows.fnPolySqr128Row.wrapper Rows.fnPolySqr128Row.mainSum := by unfold Func.isWrapper; first | (rw [if_pos (by decide +kernel)]; kernel_rfl) | (rw [if_neg (by decide +kernel)]; exact ⟨rfl, rfl⟩)
theorem fnPolySqr128_holds : Rows.FnPolySqr128Said :=
  OpenClaim.holds_of_wide 18 Tryd.f18 rfl rfl rfl rfl rfl rfl rfl ⟨rfl, rfl, rfl, rfl, rfl⟩ rfl rfl rfl rfl rfl fnPolySqr128_named Tryd.func18 fnPolySqr128_closed
    fnPolySqr128_inst fnPolySqr128_wrap
    (fun os started H enc _ => fnPolySqr128_lifted os started H enc)
theorem fnPolySqr128_w : Rows.fnPolySqr128Row.wfByText (OpenSpec.ofChange Rows.fnPolySqr128Spec) = true := by kernel_rfl
theorem fnPolySqr128_main1 : Tryd.pinned.checked.prog.mainIs = some (Rows.fnPolySqr128Card.stood.harness.1, Rows.fnPolySqr128Card.stood.harness.2.toList) := main1.trans (by kernel_rfl)
theorem fnPolySqr128_goes : false = Rows.fnPolySqr128Row.goesBy Tryd.pinned.checked.prog := by kernel_rfl
theorem fnPolySqr128_har : (!Rows.fnPolySqr128Card.stood.harness.1 && Rows.fnPolySqr128Card.stood.harness.2.isEmpty && !false) = false := by kernel_rfl
theorem fnPolySqr128_hl : ∀ f fn, Tryd.pinned.checked.prog.funcNamed Rows.fnPolySqr128Row.func = some f → Tryd.pinned.checked.prog.funcs[f]? = some fn → false = Tryd.pinned.checked.prog.looks [] ∧ ∀ (j : Nat) t, fn.params[j]? = some t → Tryd.pinned.checked.prog.wantsStandIn t = false := fun f fn hf hfn => by
  obtain rfl : f = 18 := (Option.some.inj (fnPolySqr128_named.symm.trans hf)).symm
  obtain rfl : fn = Tryd.f18 := (Option.some.inj (Tryd.func18.symm.trans hfn)).symm
  exact ⟨looks1, fun j t ht => by
    rw [Tryd.params18] at ht
    have hm : t ∈ [47] := by simpa using Array.mem_of_getElem? ht
    have hall : ([47].all fun u => !Tryd.pinned.checked.prog.wantsStandIn u) = true := by kernel_rfl
    exact (show Tryd.pinned.checked.prog.wantsStandIn t = false by simpa using List.all_eq_true.1 hall t hm)⟩
theorem fnPolySqr128Card_holds : Rows.FnPolySqr128CardSaid :=
  Claim7.holds_tied_plain_at .later [] Rows.fnPolySqr128Card.laidKinds true Rows.fnPolySqr128Card.stood.harness false
    fnPolySqr128_holds (fun _ h => by cases h) fnPolySqr128_w (fun _ h => by cases h) fnPolySqr128_row_tie rfl ⟨rfl, rfl⟩ fnPolySqr128_main1 fnPolySqr128_har fnPolySqr128_hl fnPolySqr128_goes
#print axioms fnPolySqr128Card_holds
end Go.Proofs.YtgdfdkpkhjbibaaDoor
