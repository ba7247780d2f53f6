/-
  FnStrip128: whatever the input, the law answers true (written by laws2.py).
  Conditions: the package variables that the row lists read as listed (the card ties them to the program's text).
-/
import Derived.Test.YtgdfdkpkhjbibaaDoorVd
import Derived.Test.YtgdfdkpkhjbibaaDoorTie
import Derived.Test.YtgdfdkpkhjbibaaDoorCards
import Derived.SevenTiedAt
namespace Go.Proofs.YtgdfdkpkhjbibaaDoor
open Go.ChangeShapes Go.WideShapes Go.ChangeAt Go.WideElems Go.RowKit
theorem infoS : (Tryd.prog.info? 47).bind (·.zero) = some (.slice none 0 0) := by kernel_rfl
theorem fillS1 (a : Option Addr) (l c : Nat) : Instr.fill (fun i => some (i * 1, 1)) ((Array.range (1 * 1)).map ((Value.slice none 0 0).cells[· % (Value.slice none 0 0).cells.size]!)) [(0, .slice a l c)] = some #[.slice a l c] := by kernel_rfl
theorem fillS2 (a : Option Addr) (l c : Nat) (a2 : Option Addr) (l2 c2 : Nat) : Instr.fill (fun i => some (i * 1, 1)) ((Array.range (2 * 1)).map ((Value.slice none 0 0).cells[· % (Value.slice none 0 0).cells.size]!)) [(0, .slice a l c), (1, .slice a2 l2 c2)] = some #[.slice a l c, .slice a2 l2 c2] := by kernel_rfl
theorem same_strip {x : List Nat} {b3 T3 b5 T5 q c K : Nat} {cs : Array Value} {w : World} (hK : q = K) (h3 : w.heap[b3]? = some (.cells (flat (byA 16) (x.take K)) T3 (0, 0))) (h5 : w.heap[b5]? = some (.cells cs T5 (0, 0))) (hpw : PreW cs x) (hp : AllLt x) (hl : x.length ≤ 100000) (hq : q ≤ x.length) :
    Calls Tryd.prog 37 #[.slice (some ⟨b3, 0, none⟩) K K, .slice (some ⟨b5, 0, none⟩) q c] w fun e w' => e = .returned (.bool true) ∧ Below w.heap.size w w' := by
  subst hK
  have e : (x.take q).length = q := by rw [List.length_take]; omega
  have h := same_any (c := q) (c2 := c) (SlA.of_row szBy h3) (fun k hk => pf_by (allLt_take hp q k hk)) ((PreW.sl hpw h5).cut q) (fun k hk => lt_w (allLt_take hp q k hk)) (by omega)
  rw [e, decide_eq_true (rfl : x.take q = x.take q)] at h
  exact h
set_option maxRecDepth 100000 in
theorem main_w {adx : Option Addr} {bx ox cx : Nat} {x : List Nat} {w : World} (hg : GR w) (_nx : x.length ≤ 9223372036854775807) (hx : ∀ k, k < x.length → x.getD k 0 < 256 ^ 16) (sx : SlA (byA 16) 16 w adx bx ox x) :
    Calls Tryd.prog 7 #[.slice adx x.length cx] w fun e w' => e = .returned (.bool true) ∧ Below w.heap.size w w' := by
  by_cases hzx : 2147483647 < x.length
  · refine calls_H (args := [.slice adx x.length cx]) noD [] Tryd.func7 rfl (m := 44) rfl rfl (hold_nil _ _) ?_
    refine HC.seq ?_
    refine HC.region ?_
    refine HL.val (Val.assign rfl) (by decide) ?_
    refine HL.nil ?_
    refine HQ.next ?_
    refine HC.seq ?_
    refine HC.seq ?_
    refine HC.region ?_
    refine HL.val (Val.move rfl) (by decide) ?_
    refine HL.val (Val.lenS rfl rfl Tryd.underlying47) (by decide) ?_
    refine HL.val ((Val.gtr rfl rfl).as (congrArg Value.bool ((lssN 2147483647 x.length).trans (decide_eq_true hzx)))) (by decide) ?_
    refine HL.nil ?_
    refine HQ.next ?_
    refine HC.yes rfl ?_
    refine HC.seq ?_
    refine HC.region ?_
    refine HL.val (Val.assign rfl) (by decide) ?_
    refine HL.nil ?_
    refine HQ.next ?_
    refine HC.ret ?_
    refine HQ.thenRet ?_
    exact HQ.ret1 rfl rfl (pure_end rfl)
  by_cases hfx : Few x
  · have hpx := allLt_of hfx.2
    have hlx : x.length ≤ 100000 := Nat.le_trans hfx.1 (by decide)
    refine calls_H (args := [.slice adx x.length cx]) noD [] Tryd.func7 rfl (m := 44) rfl rfl (hold_nil _ _) ?_
    refine HC.seq ?_
    refine HC.region ?_
    refine HL.val (Val.assign rfl) (by decide) ?_
    refine HL.nil ?_
    refine HQ.next ?_
    refine HC.seq ?_
    refine HC.seq ?_
    refine HC.region ?_
    refine HL.val (Val.move rfl) (by decide) ?_
    refine HL.val (Val.lenS rfl rfl Tryd.underlying47) (by decide) ?_
    refine HL.val ((Val.gtr rfl rfl).as (congrArg Value.bool ((lssN 2147483647 x.length).trans (decide_eq_false hzx)))) (by decide) ?_
    refine HL.nil ?_
    refine HQ.next ?_
    refine HC.no rfl ?_
    refine HC.skip ?_
    refine HQ.next ?_
    refine HC.seq ?_
    refine HC.seq ?_
    refine HC.region ?_
    refine HL.val (Val.move rfl) (by decide) ?_
    refine HL.new (New.bslice (s := 1) rfl Tryd.underlying97 (by kernel_rfl) infoS (by decide) (by decide) (fillS1 adx x.length cx)) (by decide) ?_
    intro b1 hb1
    refine HL.val ((Val.calls en34 (fun w hw => few1_any (hw.at (i := 0) rfl) (sx.sn szBy hw.sn rfl) hx) rfl).as (congrArg Value.bool (decide_eq_true hfx))) (by decide) ?_
    refine HL.val (Val.not rfl) (by decide) ?_
    refine HL.nil ?_
    refine HQ.next ?_
    refine HC.no rfl ?_
    refine HC.skip ?_
    refine HQ.next ?_
    refine HC.seq ?_
    refine HC.region ?_
    refine HL.val (Val.move rfl) (by decide) ?_
    refine HL.fam (FamV.call (R := fun r => True) (ob := fun r => .cells (flat (byA 16) (x.take (stripK x x.length))) 30 (0, 0)) (pv := fun r => .tuple #[.slice (some ⟨r.1, 0, none⟩) (stripK x x.length) (stripK x x.length), .bool true]) en35 (fun w hw => istrip_good (hg.sn hw.sn rfl) (sx.sn szBy hw.sn rfl) hpx hlx) rfl) (fun _ h => by cases h) (by decide) ?_
    intro b2 c2 q2 r2 hb2
    dsimp only
    refine HL.val (Val.move rfl) (by decide) ?_
    refine HL.val (Val.extract rfl rfl) (by decide) ?_
    refine HL.val (Val.extract rfl rfl) (by decide) ?_
    refine HL.val (Val.assign rfl) (by decide) ?_
    refine HL.val (Val.assign rfl) (by decide) ?_
    refine HL.nil ?_
    refine HQ.next ?_
    refine HC.seq ?_
    refine HC.region ?_
    refine HL.val (Val.move rfl) (by decide) ?_
    refine HL.fam (FamV.call (R := fun r => PreW r.2.2 x ∧ x.length ≤ r.2.1) (ob := fun r => .cells r.2.2 25 (0, 0)) (pv := fun r => .slice (some ⟨r.1, 0, none⟩) x.length r.2.1) en36 (fun w hw => l_any (sx.sn szBy hw.sn rfl) hx hlx) rfl) (fun _ h => by cases h) (by decide) ?_
    intro b3 c3 q3 r3 hb3
    dsimp only
    refine HL.val (Val.assign rfl) (by decide) ?_
    refine HL.nil ?_
    refine HQ.next ?_
    refine HC.seq ?_
    refine HC.block ?_
    have hpre : PreW q3 x := r3.1
    have hcc : x.length ≤ c3 := r3.2
    refine HC.loop (ι := {q : Nat // q ≤ x.length ∧ q ≤ c3 ∧ stripK x q = stripK x x.length}) (fun p => p.1) (fun p => [(3, .slice (some ⟨b2, 0, none⟩) (stripK x x.length) (stripK x x.length)), (4, .bool true), (5, .slice (some ⟨b3, 0, none⟩) p.1 c3)]) (fun p => [(b2, .cells (flat (byA 16) (x.take (stripK x x.length))) 30 (0, 0)), (b3, .cells q3 25 (0, 0))]) ⟨x.length, Nat.le_refl _, hcc, rfl⟩ (fun ac wc ha hw => ⟨ha.subS ⟨rfl, rfl, rfl, trivial⟩, hw.pick [1, 0] (by simp)⟩) ?_
    rintro ⟨q, hq, hqc, hst⟩
    dsimp only
    refine HC.seq ?_
    refine HC.seq ?_
    refine HC.region ?_
    refine HL.val (Val.move rfl) (by decide) ?_
    refine HL.val (Val.lenS rfl rfl Tryd.underlying51) (by decide) ?_
    by_cases hq0 : 0 < q
    · refine HL.val ((Val.gtr rfl rfl).as (congrArg Value.bool ((lssN 0 q).trans (decide_eq_true hq0)))) (by decide) ?_
      refine HL.val (Val.move rfl) (by decide) ?_
      refine HL.valg rfl (Val.move rfl) (by decide) ?_
      refine HL.valg rfl (Val.move rfl) (by decide) ?_
      refine HL.valg rfl (Val.lenS rfl rfl Tryd.underlying51) (by decide) ?_
      refine HL.valg rfl ((Val.subI rfl rfl).as (congrArg (Value.int .i64) (sub1N hq0 (by omega)))) (by decide) ?_
      refine HL.valg rfl (Val.ixSlice (s := 2) (i := q - 1) ((q - 1) * 2) rfl rfl Tryd.underlying51 (by kernel_rfl) (by omega) (by omega)) (by decide) ?_
      refine HL.valg rfl (Val.load_cells (wA (x.getD (q - 1) 0)) rfl (fun w hw => (show ∀ j, j < 2 → w.cell? ⟨b3, (q - 1) * 2 + j, none⟩ = (wA (x.getD (q - 1) 0))[j]? from fun j hj => by have h := (PreW.sl hpre (hw.at (i := 1) rfl)).cell (q - 1) (by omega) j hj; rwa [Nat.zero_add] at h)) Tryd.underlying25 rfl (by kernel_rfl)) (by decide) ?_
      refine HL.valg rfl (Val.build rfl built_w0) (by decide) ?_
      by_cases hz : x.getD (q - 1) 0 = 0
      · refine HL.valg rfl ((Val.eqlA rfl rfl (by kernel_rfl) (eqlW (lt_w (hpx.any _)) (lt_w zero_lt))).as (congrArg Value.bool (decide_eq_true hz))) (by decide) ?_
        refine HL.val (Val.pickT rfl rfl) (by decide) ?_
        refine HL.nil ?_
        refine HQ.next ?_
        refine HC.yes rfl ?_
        refine HC.skip ?_
        refine HQ.next ?_
        refine HC.block ?_
        refine HC.region ?_
        refine HL.val (Val.move rfl) (by decide) ?_
        refine HL.val (Val.move rfl) (by decide) ?_
        refine HL.val (Val.lenS rfl rfl Tryd.underlying51) (by decide) ?_
        refine HL.val ((Val.subI rfl rfl).as (congrArg (Value.int .i64) (sub1N hq0 (by omega)))) (by decide) ?_
        refine HL.val (Val.sliceSTo (s := 2) (h := q - 1) rfl rfl Tryd.underlying51 (by kernel_rfl) (by omega)) (by decide) ?_
        refine HL.val (Val.assign rfl) (by decide) ?_
        refine HL.nil ?_
        refine HQ.blockNormal ?_
        exact ⟨fun ac wc ha hw => ⟨⟨q - 1, by omega, by omega, by rw [← hst, ← stripK_z hz, show q - 1 + 1 = q by omega]⟩, by dsimp only; omega, ha.subS ⟨rfl, rfl, rfl, trivial⟩, hw.pick [0, 1] (by simp)⟩⟩
      · refine HL.valg rfl ((Val.eqlA rfl rfl (by kernel_rfl) (eqlW (lt_w (hpx.any _)) (lt_w zero_lt))).as (congrArg Value.bool (decide_eq_false hz))) (by decide) ?_
        refine HL.val (Val.pickT rfl rfl) (by decide) ?_
        refine HL.nil ?_
        refine HQ.next ?_
        refine HC.no rfl ?_
        refine HC.exit ?_
        refine HQ.thenExit ?_
        refine HQ.thenExit ?_
        refine HQ.blockExit ?_
        refine HQ.next ?_
        refine HC.seq ?_
        refine HC.region ?_
        refine HL.val (Val.move rfl) (by decide) ?_
        refine HL.val (Val.move rfl) (by decide) ?_
        refine HL.valg rfl (Val.move rfl) (by decide) ?_
        refine HL.valg rfl (Val.move rfl) (by decide) ?_
        have hqe : stripK x q = q := by
          rcases Nat.eq_zero_or_pos q with h0 | h0
          · subst h0; rfl
          · first | exact absurd h0 hq0 | (have h := stripK_n hz; rwa [show q - 1 + 1 = q by omega] at h)
        refine HL.valg rfl (Val.calls en37 (fun w hw => same_strip (hqe.symm.trans hst) (hw.at (i := 0) rfl) (hw.at (i := 1) rfl) hpre hpx hlx hq) rfl) (by decide) ?_
        refine HL.val (Val.pickT rfl rfl) (by decide) ?_
        refine HL.val (Val.assign rfl) (by decide) ?_
        refine HL.nil ?_
        refine HQ.next ?_
        refine HC.ret ?_
        exact HQ.ret1 rfl rfl (pure_end rfl)
    · refine HL.val ((Val.gtr rfl rfl).as (congrArg Value.bool ((lssN 0 q).trans (decide_eq_false hq0)))) (by decide) ?_
      refine HL.val (Val.move rfl) (by decide) ?_
      refine HL.skip rfl (by decide) ?_
      refine HL.skip rfl (by decide) ?_
      refine HL.skip rfl (by decide) ?_
      refine HL.skip rfl (by decide) ?_
      refine HL.skip rfl (by decide) ?_
      refine HL.skip rfl (by decide) ?_
      refine HL.skip rfl (by decide) ?_
      refine HL.skip rfl (by decide) ?_
      refine HL.val (Val.pickF rfl rfl) (by decide) ?_
      refine HL.nil ?_
      refine HQ.next ?_
      refine HC.no rfl ?_
      refine HC.exit ?_
      refine HQ.thenExit ?_
      refine HQ.thenExit ?_
      refine HQ.blockExit ?_
      refine HQ.next ?_
      refine HC.seq ?_
      refine HC.region ?_
      refine HL.val (Val.move rfl) (by decide) ?_
      refine HL.val (Val.move rfl) (by decide) ?_
      refine HL.valg rfl (Val.move rfl) (by decide) ?_
      refine HL.valg rfl (Val.move rfl) (by decide) ?_
      have hqe : stripK x q = q := by
        rcases Nat.eq_zero_or_pos q with h0 | h0
        · subst h0; rfl
        · first | exact absurd h0 hq0 | (have h := stripK_n hz; rwa [show q - 1 + 1 = q by omega] at h)
      refine HL.valg rfl (Val.calls en37 (fun w hw => same_strip (hqe.symm.trans hst) (hw.at (i := 0) rfl) (hw.at (i := 1) rfl) hpre hpx hlx hq) rfl) (by decide) ?_
      refine HL.val (Val.pickT rfl rfl) (by decide) ?_
      refine HL.val (Val.assign rfl) (by decide) ?_
      refine HL.nil ?_
      refine HQ.next ?_
      refine HC.ret ?_
      exact HQ.ret1 rfl rfl (pure_end rfl)
  · refine calls_H (args := [.slice adx x.length cx]) noD [] Tryd.func7 rfl (m := 44) rfl rfl (hold_nil _ _) ?_
    refine HC.seq ?_
    refine HC.region ?_
    refine HL.val (Val.assign rfl) (by decide) ?_
    refine HL.nil ?_
    refine HQ.next ?_
    refine HC.seq ?_
    refine HC.seq ?_
    refine HC.region ?_
    refine HL.val (Val.move rfl) (by decide) ?_
    refine HL.val (Val.lenS rfl rfl Tryd.underlying47) (by decide) ?_
    refine HL.val ((Val.gtr rfl rfl).as (congrArg Value.bool ((lssN 2147483647 x.length).trans (decide_eq_false hzx)))) (by decide) ?_
    refine HL.nil ?_
    refine HQ.next ?_
    refine HC.no rfl ?_
    refine HC.skip ?_
    refine HQ.next ?_
    refine HC.seq ?_
    refine HC.seq ?_
    refine HC.region ?_
    refine HL.val (Val.move rfl) (by decide) ?_
    refine HL.new (New.bslice (s := 1) rfl Tryd.underlying97 (by kernel_rfl) infoS (by decide) (by decide) (fillS1 adx x.length cx)) (by decide) ?_
    intro b1 hb1
    refine HL.val ((Val.calls en34 (fun w hw => few1_any (hw.at (i := 0) rfl) (sx.sn szBy hw.sn rfl) hx) rfl).as (congrArg Value.bool (decide_eq_false hfx))) (by decide) ?_
    refine HL.val (Val.not rfl) (by decide) ?_
    refine HL.nil ?_
    refine HQ.next ?_
    refine HC.yes rfl ?_
    refine HC.seq ?_
    refine HC.region ?_
    refine HL.val (Val.assign rfl) (by decide) ?_
    refine HL.nil ?_
    refine HQ.next ?_
    refine HC.ret ?_
    refine HQ.thenRet ?_
    exact HQ.ret1 rfl rfl (pure_end rfl)
set_option maxRecDepth 100000 in
theorem fnStrip128_met (os : Os) (args : Array Value) : laidMetH Tryd.prog Rows.fnStrip128Row.laid ((World.doorLaid Tryd.prog 400 os).forCall (fun _ _ => 0) ⟨#[], args, []⟩).memory :=
  laidMetH_of_parts3 (fuel := 8) (laidMet_of_run' 8 (by kernel_rfl) (by kernel_rfl)) (by kernel_rfl) (by kernel_rfl)
set_option maxRecDepth 100000 in
theorem fnStrip128_lifted (os : Os) (started : os.Started) (H : Type) (enc : TypeId × Value → H) :
    ReturnsInHanded {} Tryd.checked os 7 .any (fun w args => (Rows.fnStrip128Spec.pre enc Tryd.prog Tryd.f7 [] false w args ∧ laidMetH Tryd.prog Rows.fnStrip128Row.laid w) ∧ sizedMet enc Tryd.prog Tryd.f7 (OpenSpec.ofChange Rows.fnStrip128Spec) false w args)
      (Rows.fnStrip128Spec.post enc Tryd.prog Tryd.f7 false true false false) := by
  refine returnsInHanded_of_change_and (C := Tryd.checked) (X := fun w _ => laidMetH Tryd.prog Rows.fnStrip128Row.laid w) (fun _ _ _ hh h => h.of_heap hh) own1 started (by kernel_rfl) Tryd.func7
    (ChangeSpec.witness_shaped (enc := enc) (C := Tryd.checked) (os := os) (X := fun w _ => laidMetH Tryd.prog Rows.fnStrip128Row.laid w) false (World.doorLaid Tryd.prog 400 os) #[.slice none 0 0] 8 rfl (World.shaped_of_RefB (by kernel_rfl) (by kernel_rfl)) (by kernel_rfl) (by kernel_rfl) (by kernel_rfl) (fnStrip128_met os _)) ?_
  intro W base args ds gs before hval0 hW _ _ hL _
  have hval : ∀ (j : Nat) t v, Tryd.f7.params[j]? = some t → args[j]? = some v → Value.okWide Tryd.prog W .any base t v := hval0
  have hW' := hW
  obtain ⟨p, q, hA0, hV, rfl, hfz, hnd⟩ := hW
  have hV0 := hV
  have hA : DataW.TrodAll enc Tryd.prog W 0 (fun _ => true) true Tryd.f7.params.toList args.toList ds p := hA0
  rw [Tryd.params7] at hA hval
  obtain ⟨v0, d0, rfl, rfl, h0⟩ := trodAll_one hA
  obtain ⟨g0, rfl⟩ : ∃ g0, gs = [g0] := by
    have hgl := trodVars_len hV0
    match gs, hgl with
    | [g0], _ => exact ⟨g0, rfl⟩
  obtain ⟨adx, bx, ox, cx, x, rfl, nx, hx, sx⟩ := open_rows Tryd.underlying47 Tryd.underlying30 Tryd.underlying5 (by kernel_rfl) (by kernel_rfl) (by decide) (hval 0 47 v0 rfl rfl) h0
  clear hA0 hval0
  refine (main_w (gr_at (laid_at (by kernel_rfl) hL 0 rfl)) nx hx sx).mono fun e W' ⟨he, hb⟩ => ?_
  subst he
  exact ⟨_, rfl, ⟨_, _, _, [], _, _, hW', trodAll_mk1 (shut_bool Tryd.underlying4 true), trodAll_mk1 (Below.trod laidOut1 (by kernel_rfl) (of_decide_eq_true (by kernel_rfl)) h0 hb (trod_lt h0)), Below.trodVars laidOut1 hb (by kernel_rfl) hV, hb.frame _, fun h => by cases h⟩⟩
theorem fnStrip128_c1 : (Rows.fnStrip128Row.inPlace == Tryd.pinned.checked.prog.inPlace 7) = true := by kernel_rfl
theorem fnStrip128_c2 : (Rows.fnStrip128Row.unfollowed == Tryd.pinned.checked.prog.unfollowed 7) = true := by kernel_rfl
theorem fnStrip128_c3 : (Rows.fnStrip128Row.recurses == Tryd.pinned.checked.prog.recurses 7) = true := by kernel_rfl
theorem fnStrip128_c4 : (Rows.fnStrip128Row.named == Tryd.pinned.checked.prog.varsNamed 7) = true := by kernel_rfl
theorem fnStrip128_c5 : Rows.fnStrip128Row.wf (OpenSpec.ofChange Rows.fnStrip128Spec) = true := by kernel_rfl
theorem fnStrip128_c8 : (Rows.fnStrip128Row.plainKeys == Tryd.pinned.checked.prog.plainKeys) = true := by kernel_rfl
theorem fnStrip128_d1 : (Rows.fnStrip128Row.lifted == Tryd.pinned.checked.prog.liftsFinal) = true := by rw [lifts1]; rfl
theorem fnStrip128_d2 : (Tryd.pinned.checked.prog.make == some Rows.fnStrip128Row.make) = true := by rw [make1]; rfl
theorem looks1 : false = Tryd.pinned.checked.prog.looks [] := by kernel_rfl
theorem fnStrip128_closed : joinedFacts Tryd.pinned.checked.prog 7 Tryd.f7 Rows.fnStrip128Spec Rows.fnStrip128Row = true := by
  delta joinedFacts
  repeat' with_reducible apply and_i
  all_goals first | with_reducible exact fnStrip128_c1 | with_reducible exact fnStrip128_c2 | with_reducible exact fnStrip128_c3 | with_reducible exact fnStrip128_c4 | with_reducible exact fnStrip128_c5 | with_reducible exact c6 | with_reducible exact c7 | with_reducible exact fnStrip128_c8 | with_reducible exact c9 | with_reducible exact may1 | with_reducible exact fnStrip128_d1 | with_reducible exact fnStrip128_d2 | kernel_rfl
theorem fnStrip128_named : Tryd.pinned.checked.prog.funcNamed Rows.fnStrip128Row.func = some 7 := by kernel_rfl
theorem fnStrip128_inst : Tryd.f7.isInstance Tryd.pinned.checked.prog Rows.fnStrip128Row.origin Rows.fnStrip128Row.targs := of_decide_eq_true (by kernel_rfl)
theorem fnStrip128_wrap : Tryd.f7.isWrapper Tryd.pinned.checked.prog Rows.fnStrip128Row.wrapper Rows.fnStrip128Row.mainSum := by unfold Func.isWrapper; first | (rw [if_pos (by decide +kernel)]; kernel_rfl) | (rw [if_neg (by decide +kernel)]; exact ⟨rfl, rfl⟩)
theorem fnStrip128_holds : Rows.FnStrip128Said :=
  OpenClaim.holds_of_wide 7 Tryd.f7 rfl rfl rfl rfl rfl rfl rfl ⟨rfl, rfl, rfl, rfl, rfl⟩ rfl rfl rfl rfl rfl fnStrip128_named Tryd.func7 fnStrip128_closed
    fnStrip128_inst fnStrip128_wrap
    (fun os started H enc _ => fnStrip128_lifted os started H enc)
theorem fnStrip128_w : Rows.fnStrip128Row.wfByText (OpenSpec.ofChange Rows.fnStrip128Spec) = true := by kernel_rfl
theorem fnStrip128_main1 : Tryd.pinned.checked.prog.mainIs = some (Rows.fnStrip128Card.stood.harness.1, Rows.fnStrip128Card.stood.harness.2.toList) := main1.trans (by kernel_rfl)
theorem fnStrip128_goes : false = Rows.fnStrip128Row.goesBy Tryd.pinned.checked.prog := by kernel_rfl
theorem fnStrip128_har : (!Rows.fnStrip128Card.stood.harness.1 && Rows.fnStrip128Card.stood.harness.2.isEmpty && !false) = false := by kernel_rfl
theorem fnStrip128_hl : ∀ f fn, Tryd.pinned.checked.prog.funcNamed Rows.fnStrip128Row.func = some f → Tryd.pinned.checked.prog.funcs[f]? = some fn → false = Tryd.pinned.checked.prog.looks [] ∧ ∀ (j : Nat) t, fn.params[j]? = some t → Tryd.pinned.checked.prog.wantsStandIn t = false := fun f fn hf hfn => by
  obtain rfl : f = 7 := (Option.some.inj (fnStrip128_named.symm.trans hf)).symm
  obtain rfl : fn = Tryd.f7 := (Option.some.inj (Tryd.func7.symm.trans hfn)).symm
  exact ⟨looks1, fun j t ht => by
    rw [Tryd.params7] at ht
    have hm : t ∈ [47] := by simpa using Array.mem_of_getElem? ht
    have hall : ([47].all fun u => !Tryd.pinned.checked.prog.wantsStandIn u) = true := by kernel_rfl
    exact (show Tryd.pinned.checked.prog.wantsStandIn t = false by simpa using List.all_eq_true.1 hall t hm)⟩
theorem fnStrip128Card_holds : Rows.FnStrip128CardSaid :=
  Claim7.holds_tied_plain_at .later [] Rows.fnStrip128Card.laidKinds true Rows.fnStrip128Card.stood.harness false
    fnStrip128_holds (fun _ h => by cases h) fnStrip128_w (fun _ h => by cases h) fnStrip128_row_tie rfl ⟨rfl, rfl⟩ fnStrip128_main1 fnStrip128_har fnStrip128_hl fnStrip128_goes
#print axioms fnStrip128Card_holds
end Go.Proofs.YtgdfdkpkhjbibaaDoor
