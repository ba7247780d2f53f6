/-
  FnPolyMul128: whatever the input, the law answers true (written by laws2.py).
  Conditions: the package variables that the row lists read as listed (the card ties them to the program's text).
-/
import Derived.Test.YtgdfdkpkhjbibaaDoorPo
import Derived.Test.YtgdfdkpkhjbibaaDoorTie
import Derived.Test.YtgdfdkpkhjbibaaDoorCards
import Derived.SevenTiedAt
namespace Go.Proofs.YtgdfdkpkhjbibaaDoor
open Go.ChangeShapes Go.WideShapes Go.ChangeAt Go.WideElems Go.RowKit
theorem same_mul {x u : List Nat} {b3 T3 b5 T5 : Nat} {w : World} (h3 : w.heap[b3]? = some (.cells (flat (byA 16) (prodL x u)) T3 (0, 0))) (h5 : w.heap[b5]? = some (.cells (flat wA (prodL x u)) T5 (0, 0))) (hl : x.length + u.length ≤ 65) :
    Calls Tryd.prog 37 #[.slice (some ⟨b3, 0, none⟩) (x.length + u.length - 1) (x.length + u.length - 1), .slice (some ⟨b5, 0, none⟩) (x.length + u.length - 1) (x.length + u.length - 1)] w fun e w' => e = .returned (.bool true) ∧ Below w.heap.size w w' := by
  have hp := prodL_lt x u
  have h := same_any (c := x.length + u.length - 1) (c2 := x.length + u.length - 1) (SlA.of_row szBy h3) (fun k hk => pf_by (hp k hk)) (SlA.of_row szWA h5) (fun k hk => lt_w (hp k hk)) (by rw [prodL_len]; omega)
  rw [prodL_len, decide_eq_true (rfl : prodL x u = prodL x u)] at h
  exact h
set_option maxRecDepth 100000 in
theorem main_w {adx : Option Addr} {bx ox cx : Nat} {x : List Nat} {adu : Option Addr} {bu ou cu : Nat} {u : List Nat} {K : Int} {w : World} (hd : DB w) (hg : GR w) (hh : HF w) (ht : RT w) (_nx : x.length ≤ 9223372036854775807) (hx : ∀ k, k < x.length → x.getD k 0 < 256 ^ 16) (sx : SlA (byA 16) 16 w adx bx ox x) (_nu : u.length ≤ 9223372036854775807) (hu : ∀ k, k < u.length → u.getD k 0 < 256 ^ 16) (su : SlA (byA 16) 16 w adu bu ou u) :
    Calls Tryd.prog 20 #[.slice adx x.length cx, .slice adu u.length cu, .int .i64 K] w fun e w' => e = .returned (.bool true) ∧ Below w.heap.size w w' := by
  by_cases hzx : 2147483647 < x.length
  · refine calls_H (args := [.slice adx x.length cx, .slice adu u.length cu, .int .i64 K]) noD [] Tryd.func20 rfl (m := 68) rfl rfl (hold_nil _ _) ?_
    refine HC.seq ?_
    refine HC.region ?_
    refine HL.val (Val.assign rfl) (by decide) ?_
    refine HL.nil ?_
    refine HQ.next ?_
    refine HC.seq ?_
    refine HC.seq ?_
    refine HC.region ?_
    refine HL.val (Val.move rfl) (by decide) ?_
    refine HL.val (Val.lenS rfl rfl Tryd.underlying47) (by decide) ?_
    refine HL.val ((Val.gtr rfl rfl).as (congrArg Value.bool ((lssN 2147483647 x.length).trans (decide_eq_true hzx)))) (by decide) ?_
    refine HL.val (Val.move rfl) (by decide) ?_
    refine HL.skip rfl (by decide) ?_
    refine HL.skip rfl (by decide) ?_
    refine HL.skip rfl (by decide) ?_
    refine HL.val (Val.pickT rfl rfl) (by decide) ?_
    refine HL.nil ?_
    refine HQ.next ?_
    refine HC.yes rfl ?_
    refine HC.seq ?_
    refine HC.region ?_
    refine HL.val (Val.assign rfl) (by decide) ?_
    refine HL.nil ?_
    refine HQ.next ?_
    refine HC.ret ?_
    refine HQ.thenRet ?_
    exact HQ.ret1 rfl rfl (pure_end rfl)
  by_cases hzu : 2147483647 < u.length
  · refine calls_H (args := [.slice adx x.length cx, .slice adu u.length cu, .int .i64 K]) noD [] Tryd.func20 rfl (m := 68) rfl rfl (hold_nil _ _) ?_
    refine HC.seq ?_
    refine HC.region ?_
    refine HL.val (Val.assign rfl) (by decide) ?_
    refine HL.nil ?_
    refine HQ.next ?_
    refine HC.seq ?_
    refine HC.seq ?_
    refine HC.region ?_
    refine HL.val (Val.move rfl) (by decide) ?_
    refine HL.val (Val.lenS rfl rfl Tryd.underlying47) (by decide) ?_
    refine HL.val ((Val.gtr rfl rfl).as (congrArg Value.bool ((lssN 2147483647 x.length).trans (decide_eq_false hzx)))) (by decide) ?_
    refine HL.val (Val.move rfl) (by decide) ?_
    refine HL.valg rfl (Val.move rfl) (by decide) ?_
    refine HL.valg rfl (Val.lenS rfl rfl Tryd.underlying47) (by decide) ?_
    refine HL.valg rfl ((Val.gtr rfl rfl).as (congrArg Value.bool ((lssN 2147483647 u.length).trans (decide_eq_true hzu)))) (by decide) ?_
    refine HL.val (Val.pickF rfl rfl) (by decide) ?_
    refine HL.nil ?_
    refine HQ.next ?_
    refine HC.yes rfl ?_
    refine HC.seq ?_
    refine HC.region ?_
    refine HL.val (Val.assign rfl) (by decide) ?_
    refine HL.nil ?_
    refine HQ.next ?_
    refine HC.ret ?_
    refine HQ.thenRet ?_
    exact HQ.ret1 rfl rfl (pure_end rfl)
  by_cases hf : Few x ∧ Few u
  rotate_left
  · refine calls_H (args := [.slice adx x.length cx, .slice adu u.length cu, .int .i64 K]) noD [] Tryd.func20 rfl (m := 68) rfl rfl (hold_nil _ _) ?_
    refine HC.seq ?_
    refine HC.region ?_
    refine HL.val (Val.assign rfl) (by decide) ?_
    refine HL.nil ?_
    refine HQ.next ?_
    refine HC.seq ?_
    refine HC.seq ?_
    refine HC.region ?_
    refine HL.val (Val.move rfl) (by decide) ?_
    refine HL.val (Val.lenS rfl rfl Tryd.underlying47) (by decide) ?_
    refine HL.val ((Val.gtr rfl rfl).as (congrArg Value.bool ((lssN 2147483647 x.length).trans (decide_eq_false hzx)))) (by decide) ?_
    refine HL.val (Val.move rfl) (by decide) ?_
    refine HL.valg rfl (Val.move rfl) (by decide) ?_
    refine HL.valg rfl (Val.lenS rfl rfl Tryd.underlying47) (by decide) ?_
    refine HL.valg rfl ((Val.gtr rfl rfl).as (congrArg Value.bool ((lssN 2147483647 u.length).trans (decide_eq_false hzu)))) (by decide) ?_
    refine HL.val (Val.pickF rfl rfl) (by decide) ?_
    refine HL.nil ?_
    refine HQ.next ?_
    refine HC.no rfl ?_
    refine HC.skip ?_
    refine HQ.next ?_
    refine HC.seq ?_
    refine HC.seq ?_
    refine HC.region ?_
    refine HL.val (Val.move rfl) (by decide) ?_
    refine HL.val (Val.move rfl) (by decide) ?_
    refine HL.new (New.bslice (s := 1) rfl Tryd.underlying97 (by kernel_rfl) infoS (by decide) (by decide) (fillS2 adx x.length cx adu u.length cu)) (by decide) ?_
    intro b1 hb1
    refine HL.val ((Val.calls en34 (fun w hw => few2_any (hw.at (i := 0) rfl) (sx.sn szBy hw.sn rfl) hx (su.sn szBy hw.sn rfl) hu) rfl).as (congrArg Value.bool (decide_eq_false hf))) (by decide) ?_
    refine HL.val (Val.not rfl) (by decide) ?_
    refine HL.val (Val.move rfl) (by decide) ?_
    refine HL.skip rfl (by decide) ?_
    refine HL.skip rfl (by decide) ?_
    refine HL.skip rfl (by decide) ?_
    refine HL.val (Val.pickT rfl rfl) (by decide) ?_
    refine HL.val (Val.move rfl) (by decide) ?_
    refine HL.skip rfl (by decide) ?_
    refine HL.skip rfl (by decide) ?_
    refine HL.skip rfl (by decide) ?_
    refine HL.val (Val.pickT rfl rfl) (by decide) ?_
    refine HL.val (Val.move rfl) (by decide) ?_
    refine HL.skip rfl (by decide) ?_
    refine HL.skip rfl (by decide) ?_
    refine HL.skip rfl (by decide) ?_
    refine HL.val (Val.pickT rfl rfl) (by decide) ?_
    refine HL.val (Val.move rfl) (by decide) ?_
    refine HL.skip rfl (by decide) ?_
    refine HL.skip rfl (by decide) ?_
    refine HL.skip rfl (by decide) ?_
    refine HL.val (Val.pickT rfl rfl) (by decide) ?_
    refine HL.val (Val.move rfl) (by decide) ?_
    refine HL.skip rfl (by decide) ?_
    refine HL.skip rfl (by decide) ?_
    refine HL.val (Val.pickT rfl rfl) (by decide) ?_
    refine HL.val (Val.move rfl) (by decide) ?_
    refine HL.skip rfl (by decide) ?_
    refine HL.skip rfl (by decide) ?_
    refine HL.val (Val.pickT rfl rfl) (by decide) ?_
    refine HL.nil ?_
    refine HQ.next ?_
    refine HC.yes rfl ?_
    refine HC.seq ?_
    refine HC.region ?_
    refine HL.val (Val.assign rfl) (by decide) ?_
    refine HL.nil ?_
    refine HQ.next ?_
    refine HC.ret ?_
    refine HQ.thenRet ?_
    exact HQ.ret1 rfl rfl (pure_end rfl)
  have hfx := hf.1
  have hfu := hf.2
  have hpx := allLt_of hfx.2
  have hlx : x.length ≤ 100000 := Nat.le_trans hfx.1 (by decide)
  have hpu := allLt_of hfu.2
  have hlu : u.length ≤ 100000 := Nat.le_trans hfu.1 (by decide)
  by_cases h1 : 0 < x.length
  rotate_left
  · refine calls_H (args := [.slice adx x.length cx, .slice adu u.length cu, .int .i64 K]) noD [] Tryd.func20 rfl (m := 68) rfl rfl (hold_nil _ _) ?_
    refine HC.seq ?_
    refine HC.region ?_
    refine HL.val (Val.assign rfl) (by decide) ?_
    refine HL.nil ?_
    refine HQ.next ?_
    refine HC.seq ?_
    refine HC.seq ?_
    refine HC.region ?_
    refine HL.val (Val.move rfl) (by decide) ?_
    refine HL.val (Val.lenS rfl rfl Tryd.underlying47) (by decide) ?_
    refine HL.val ((Val.gtr rfl rfl).as (congrArg Value.bool ((lssN 2147483647 x.length).trans (decide_eq_false hzx)))) (by decide) ?_
    refine HL.val (Val.move rfl) (by decide) ?_
    refine HL.valg rfl (Val.move rfl) (by decide) ?_
    refine HL.valg rfl (Val.lenS rfl rfl Tryd.underlying47) (by decide) ?_
    refine HL.valg rfl ((Val.gtr rfl rfl).as (congrArg Value.bool ((lssN 2147483647 u.length).trans (decide_eq_false hzu)))) (by decide) ?_
    refine HL.val (Val.pickF rfl rfl) (by decide) ?_
    refine HL.nil ?_
    refine HQ.next ?_
    refine HC.no rfl ?_
    refine HC.skip ?_
    refine HQ.next ?_
    refine HC.seq ?_
    refine HC.seq ?_
    refine HC.region ?_
    refine HL.val (Val.move rfl) (by decide) ?_
    refine HL.val (Val.move rfl) (by decide) ?_
    refine HL.new (New.bslice (s := 1) rfl Tryd.underlying97 (by kernel_rfl) infoS (by decide) (by decide) (fillS2 adx x.length cx adu u.length cu)) (by decide) ?_
    intro b1 hb1
    refine HL.val ((Val.calls en34 (fun w hw => few2_any (hw.at (i := 0) rfl) (sx.sn szBy hw.sn rfl) hx (su.sn szBy hw.sn rfl) hu) rfl).as (congrArg Value.bool (decide_eq_true hf))) (by decide) ?_
    refine HL.val (Val.not rfl) (by decide) ?_
    refine HL.val (Val.move rfl) (by decide) ?_
    refine HL.valg rfl (Val.move rfl) (by decide) ?_
    refine HL.valg rfl (Val.lenS rfl rfl Tryd.underlying47) (by decide) ?_
    refine HL.valg rfl ((Val.lss rfl rfl).as (congrArg Value.bool ((lssN x.length 1).trans (decide_eq_true (by omega))))) (by decide) ?_
    refine HL.val (Val.pickF rfl rfl) (by decide) ?_
    refine HL.val (Val.move rfl) (by decide) ?_
    refine HL.skip rfl (by decide) ?_
    refine HL.skip rfl (by decide) ?_
    refine HL.skip rfl (by decide) ?_
    refine HL.val (Val.pickT rfl rfl) (by decide) ?_
    refine HL.val (Val.move rfl) (by decide) ?_
    refine HL.skip rfl (by decide) ?_
    refine HL.skip rfl (by decide) ?_
    refine HL.skip rfl (by decide) ?_
    refine HL.val (Val.pickT rfl rfl) (by decide) ?_
    refine HL.val (Val.move rfl) (by decide) ?_
    refine HL.skip rfl (by decide) ?_
    refine HL.skip rfl (by decide) ?_
    refine HL.skip rfl (by decide) ?_
    refine HL.val (Val.pickT rfl rfl) (by decide) ?_
    refine HL.val (Val.move rfl) (by decide) ?_
    refine HL.skip rfl (by decide) ?_
    refine HL.skip rfl (by decide) ?_
    refine HL.val (Val.pickT rfl rfl) (by decide) ?_
    refine HL.val (Val.move rfl) (by decide) ?_
    refine HL.skip rfl (by decide) ?_
    refine HL.skip rfl (by decide) ?_
    refine HL.val (Val.pickT rfl rfl) (by decide) ?_
    refine HL.nil ?_
    refine HQ.next ?_
    refine HC.yes rfl ?_
    refine HC.seq ?_
    refine HC.region ?_
    refine HL.val (Val.assign rfl) (by decide) ?_
    refine HL.nil ?_
    refine HQ.next ?_
    refine HC.ret ?_
    refine HQ.thenRet ?_
    exact HQ.ret1 rfl rfl (pure_end rfl)
  by_cases h2 : 0 < u.length
  rotate_left
  · refine calls_H (args := [.slice adx x.length cx, .slice adu u.length cu, .int .i64 K]) noD [] Tryd.func20 rfl (m := 68) rfl rfl (hold_nil _ _) ?_
    refine HC.seq ?_
    refine HC.region ?_
    refine HL.val (Val.assign rfl) (by decide) ?_
    refine HL.nil ?_
    refine HQ.next ?_
    refine HC.seq ?_
    refine HC.seq ?_
    refine HC.region ?_
    refine HL.val (Val.move rfl) (by decide) ?_
    refine HL.val (Val.lenS rfl rfl Tryd.underlying47) (by decide) ?_
    refine HL.val ((Val.gtr rfl rfl).as (congrArg Value.bool ((lssN 2147483647 x.length).trans (decide_eq_false hzx)))) (by decide) ?_
    refine HL.val (Val.move rfl) (by decide) ?_
    refine HL.valg rfl (Val.move rfl) (by decide) ?_
    refine HL.valg rfl (Val.lenS rfl rfl Tryd.underlying47) (by decide) ?_
    refine HL.valg rfl ((Val.gtr rfl rfl).as (congrArg Value.bool ((lssN 2147483647 u.length).trans (decide_eq_false hzu)))) (by decide) ?_
    refine HL.val (Val.pickF rfl rfl) (by decide) ?_
    refine HL.nil ?_
    refine HQ.next ?_
    refine HC.no rfl ?_
    refine HC.skip ?_
    refine HQ.next ?_
    refine HC.seq ?_
    refine HC.seq ?_
    refine HC.region ?_
    refine HL.val (Val.move rfl) (by decide) ?_
    refine HL.val (Val.move rfl) (by decide) ?_
    refine HL.new (New.bslice (s := 1) rfl Tryd.underlying97 (by kernel_rfl) infoS (by decide) (by decide) (fillS2 adx x.length cx adu u.length cu)) (by decide) ?_
    intro b1 hb1
    refine HL.val ((Val.calls en34 (fun w hw => few2_any (hw.at (i := 0) rfl) (sx.sn szBy hw.sn rfl) hx (su.sn szBy hw.sn rfl) hu) rfl).as (congrArg Value.bool (decide_eq_true hf))) (by decide) ?_
    refine HL.val (Val.not rfl) (by decide) ?_
    refine HL.val (Val.move rfl) (by decide) ?_
    refine HL.valg rfl (Val.move rfl) (by decide) ?_
    refine HL.valg rfl (Val.lenS rfl rfl Tryd.underlying47) (by decide) ?_
    refine HL.valg rfl ((Val.lss rfl rfl).as (congrArg Value.bool ((lssN x.length 1).trans (decide_eq_false (by omega))))) (by decide) ?_
    refine HL.val (Val.pickF rfl rfl) (by decide) ?_
    refine HL.val (Val.move rfl) (by decide) ?_
    refine HL.valg rfl (Val.move rfl) (by decide) ?_
    refine HL.valg rfl (Val.lenS rfl rfl Tryd.underlying47) (by decide) ?_
    refine HL.valg rfl ((Val.lss rfl rfl).as (congrArg Value.bool ((lssN u.length 1).trans (decide_eq_true (by omega))))) (by decide) ?_
    refine HL.val (Val.pickF rfl rfl) (by decide) ?_
    refine HL.val (Val.move rfl) (by decide) ?_
    refine HL.skip rfl (by decide) ?_
    refine HL.skip rfl (by decide) ?_
    refine HL.skip rfl (by decide) ?_
    refine HL.val (Val.pickT rfl rfl) (by decide) ?_
    refine HL.val (Val.move rfl) (by decide) ?_
    refine HL.skip rfl (by decide) ?_
    refine HL.skip rfl (by decide) ?_
    refine HL.skip rfl (by decide) ?_
    refine HL.val (Val.pickT rfl rfl) (by decide) ?_
    refine HL.val (Val.move rfl) (by decide) ?_
    refine HL.skip rfl (by decide) ?_
    refine HL.skip rfl (by decide) ?_
    refine HL.val (Val.pickT rfl rfl) (by decide) ?_
    refine HL.val (Val.move rfl) (by decide) ?_
    refine HL.skip rfl (by decide) ?_
    refine HL.skip rfl (by decide) ?_
    refine HL.val (Val.pickT rfl rfl) (by decide) ?_
    refine HL.nil ?_
    refine HQ.next ?_
    refine HC.yes rfl ?_
    refine HC.seq ?_
    refine HC.region ?_
    refine HL.val (Val.assign rfl) (by decide) ?_
    refine HL.nil ?_
    refine HQ.next ?_
    refine HC.ret ?_
    refine HQ.thenRet ?_
    exact HQ.ret1 rfl rfl (pure_end rfl)
  by_cases h3 : x.length ≤ 32
  rotate_left
  · refine calls_H (args := [.slice adx x.length cx, .slice adu u.length cu, .int .i64 K]) noD [] Tryd.func20 rfl (m := 68) rfl rfl (hold_nil _ _) ?_
    refine HC.seq ?_
    refine HC.region ?_
    refine HL.val (Val.assign rfl) (by decide) ?_
    refine HL.nil ?_
    refine HQ.next ?_
    refine HC.seq ?_
    refine HC.seq ?_
    refine HC.region ?_
    refine HL.val (Val.move rfl) (by decide) ?_
    refine HL.val (Val.lenS rfl rfl Tryd.underlying47) (by decide) ?_
    refine HL.val ((Val.gtr rfl rfl).as (congrArg Value.bool ((lssN 2147483647 x.length).trans (decide_eq_false hzx)))) (by decide) ?_
    refine HL.val (Val.move rfl) (by decide) ?_
    refine HL.valg rfl (Val.move rfl) (by decide) ?_
    refine HL.valg rfl (Val.lenS rfl rfl Tryd.underlying47) (by decide) ?_
    refine HL.valg rfl ((Val.gtr rfl rfl).as (congrArg Value.bool ((lssN 2147483647 u.length).trans (decide_eq_false hzu)))) (by decide) ?_
    refine HL.val (Val.pickF rfl rfl) (by decide) ?_
    refine HL.nil ?_
    refine HQ.next ?_
    refine HC.no rfl ?_
    refine HC.skip ?_
    refine HQ.next ?_
    refine HC.seq ?_
    refine HC.seq ?_
    refine HC.region ?_
    refine HL.val (Val.move rfl) (by decide) ?_
    refine HL.val (Val.move rfl) (by decide) ?_
    refine HL.new (New.bslice (s := 1) rfl Tryd.underlying97 (by kernel_rfl) infoS (by decide) (by decide) (fillS2 adx x.length cx adu u.length cu)) (by decide) ?_
    intro b1 hb1
    refine HL.val ((Val.calls en34 (fun w hw => few2_any (hw.at (i := 0) rfl) (sx.sn szBy hw.sn rfl) hx (su.sn szBy hw.sn rfl) hu) rfl).as (congrArg Value.bool (decide_eq_true hf))) (by decide) ?_
    refine HL.val (Val.not rfl) (by decide) ?_
    refine HL.val (Val.move rfl) (by decide) ?_
    refine HL.valg rfl (Val.move rfl) (by decide) ?_
    refine HL.valg rfl (Val.lenS rfl rfl Tryd.underlying47) (by decide) ?_
    refine HL.valg rfl ((Val.lss rfl rfl).as (congrArg Value.bool ((lssN x.length 1).trans (decide_eq_false (by omega))))) (by decide) ?_
    refine HL.val (Val.pickF rfl rfl) (by decide) ?_
    refine HL.val (Val.move rfl) (by decide) ?_
    refine HL.valg rfl (Val.move rfl) (by decide) ?_
    refine HL.valg rfl (Val.lenS rfl rfl Tryd.underlying47) (by decide) ?_
    refine HL.valg rfl ((Val.lss rfl rfl).as (congrArg Value.bool ((lssN u.length 1).trans (decide_eq_false (by omega))))) (by decide) ?_
    refine HL.val (Val.pickF rfl rfl) (by decide) ?_
    refine HL.val (Val.move rfl) (by decide) ?_
    refine HL.valg rfl (Val.move rfl) (by decide) ?_
    refine HL.valg rfl (Val.lenS rfl rfl Tryd.underlying47) (by decide) ?_
    refine HL.valg rfl ((Val.gtr rfl rfl).as (congrArg Value.bool ((lssN 32 x.length).trans (decide_eq_true (by omega))))) (by decide) ?_
    refine HL.val (Val.pickF rfl rfl) (by decide) ?_
    refine HL.val (Val.move rfl) (by decide) ?_
    refine HL.skip rfl (by decide) ?_
    refine HL.skip rfl (by decide) ?_
    refine HL.skip rfl (by decide) ?_
    refine HL.val (Val.pickT rfl rfl) (by decide) ?_
    refine HL.val (Val.move rfl) (by decide) ?_
    refine HL.skip rfl (by decide) ?_
    refine HL.skip rfl (by decide) ?_
    refine HL.val (Val.pickT rfl rfl) (by decide) ?_
    refine HL.val (Val.move rfl) (by decide) ?_
    refine HL.skip rfl (by decide) ?_
    refine HL.skip rfl (by decide) ?_
    refine HL.val (Val.pickT rfl rfl) (by decide) ?_
    refine HL.nil ?_
    refine HQ.next ?_
    refine HC.yes rfl ?_
    refine HC.seq ?_
    refine HC.region ?_
    refine HL.val (Val.assign rfl) (by decide) ?_
    refine HL.nil ?_
    refine HQ.next ?_
    refine HC.ret ?_
    refine HQ.thenRet ?_
    exact HQ.ret1 rfl rfl (pure_end rfl)
  by_cases h4 : u.length ≤ 32
  rotate_left
  · refine calls_H (args := [.slice adx x.length cx, .slice adu u.length cu, .int .i64 K]) noD [] Tryd.func20 rfl (m := 68) rfl rfl (hold_nil _ _) ?_
    refine HC.seq ?_
    refine HC.region ?_
    refine HL.val (Val.assign rfl) (by decide) ?_
    refine HL.nil ?_
    refine HQ.next ?_
    refine HC.seq ?_
    refine HC.seq ?_
    refine HC.region ?_
    refine HL.val (Val.move rfl) (by decide) ?_
    refine HL.val (Val.lenS rfl rfl Tryd.underlying47) (by decide) ?_
    refine HL.val ((Val.gtr rfl rfl).as (congrArg Value.bool ((lssN 2147483647 x.length).trans (decide_eq_false hzx)))) (by decide) ?_
    refine HL.val (Val.move rfl) (by decide) ?_
    refine HL.valg rfl (Val.move rfl) (by decide) ?_
    refine HL.valg rfl (Val.lenS rfl rfl Tryd.underlying47) (by decide) ?_
    refine HL.valg rfl ((Val.gtr rfl rfl).as (congrArg Value.bool ((lssN 2147483647 u.length).trans (decide_eq_false hzu)))) (by decide) ?_
    refine HL.val (Val.pickF rfl rfl) (by decide) ?_
    refine HL.nil ?_
    refine HQ.next ?_
    refine HC.no rfl ?_
    refine HC.skip ?_
    refine HQ.next ?_
    refine HC.seq ?_
    refine HC.seq ?_
    refine HC.region ?_
    refine HL.val (Val.move rfl) (by decide) ?_
    refine HL.val (Val.move rfl) (by decide) ?_
    refine HL.new (New.bslice (s := 1) rfl Tryd.underlying97 (by kernel_rfl) infoS (by decide) (by decide) (fillS2 adx x.length cx adu u.length cu)) (by decide) ?_
    intro b1 hb1
    refine HL.val ((Val.calls en34 (fun w hw => few2_any (hw.at (i := 0) rfl) (sx.sn szBy hw.sn rfl) hx (su.sn szBy hw.sn rfl) hu) rfl).as (congrArg Value.bool (decide_eq_true hf))) (by decide) ?_
    refine HL.val (Val.not rfl) (by decide) ?_
    refine HL.val (Val.move rfl) (by decide) ?_
    refine HL.valg rfl (Val.move rfl) (by decide) ?_
    refine HL.valg rfl (Val.lenS rfl rfl Tryd.underlying47) (by decide) ?_
    refine HL.valg rfl ((Val.lss rfl rfl).as (congrArg Value.bool ((lssN x.length 1).trans (decide_eq_false (by omega))))) (by decide) ?_
    refine HL.val (Val.pickF rfl rfl) (by decide) ?_
    refine HL.val (Val.move rfl) (by decide) ?_
    refine HL.valg rfl (Val.move rfl) (by decide) ?_
    refine HL.valg rfl (Val.lenS rfl rfl Tryd.underlying47) (by decide) ?_
    refine HL.valg rfl ((Val.lss rfl rfl).as (congrArg Value.bool ((lssN u.length 1).trans (decide_eq_false (by omega))))) (by decide) ?_
    refine HL.val (Val.pickF rfl rfl) (by decide) ?_
    refine HL.val (Val.move rfl) (by decide) ?_
    refine HL.valg rfl (Val.move rfl) (by decide) ?_
    refine HL.valg rfl (Val.lenS rfl rfl Tryd.underlying47) (by decide) ?_
    refine HL.valg rfl ((Val.gtr rfl rfl).as (congrArg Value.bool ((lssN 32 x.length).trans (decide_eq_false (by omega))))) (by decide) ?_
    refine HL.val (Val.pickF rfl rfl) (by decide) ?_
    refine HL.val (Val.move rfl) (by decide) ?_
    refine HL.valg rfl (Val.move rfl) (by decide) ?_
    refine HL.valg rfl (Val.lenS rfl rfl Tryd.underlying47) (by decide) ?_
    refine HL.valg rfl ((Val.gtr rfl rfl).as (congrArg Value.bool ((lssN 32 u.length).trans (decide_eq_true (by omega))))) (by decide) ?_
    refine HL.val (Val.pickF rfl rfl) (by decide) ?_
    refine HL.val (Val.move rfl) (by decide) ?_
    refine HL.skip rfl (by decide) ?_
    refine HL.skip rfl (by decide) ?_
    refine HL.val (Val.pickT rfl rfl) (by decide) ?_
    refine HL.val (Val.move rfl) (by decide) ?_
    refine HL.skip rfl (by decide) ?_
    refine HL.skip rfl (by decide) ?_
    refine HL.val (Val.pickT rfl rfl) (by decide) ?_
    refine HL.nil ?_
    refine HQ.next ?_
    refine HC.yes rfl ?_
    refine HC.seq ?_
    refine HC.region ?_
    refine HL.val (Val.assign rfl) (by decide) ?_
    refine HL.nil ?_
    refine HQ.next ?_
    refine HC.ret ?_
    refine HQ.thenRet ?_
    exact HQ.ret1 rfl rfl (pure_end rfl)
  by_cases hK0 : K < 0
  · refine calls_H (args := [.slice adx x.length cx, .slice adu u.length cu, .int .i64 K]) noD [] Tryd.func20 rfl (m := 68) rfl rfl (hold_nil _ _) ?_
    refine HC.seq ?_
    refine HC.region ?_
    refine HL.val (Val.assign rfl) (by decide) ?_
    refine HL.nil ?_
    refine HQ.next ?_
    refine HC.seq ?_
    refine HC.seq ?_
    refine HC.region ?_
    refine HL.val (Val.move rfl) (by decide) ?_
    refine HL.val (Val.lenS rfl rfl Tryd.underlying47) (by decide) ?_
    refine HL.val ((Val.gtr rfl rfl).as (congrArg Value.bool ((lssN 2147483647 x.length).trans (decide_eq_false hzx)))) (by decide) ?_
    refine HL.val (Val.move rfl) (by decide) ?_
    refine HL.valg rfl (Val.move rfl) (by decide) ?_
    refine HL.valg rfl (Val.lenS rfl rfl Tryd.underlying47) (by decide) ?_
    refine HL.valg rfl ((Val.gtr rfl rfl).as (congrArg Value.bool ((lssN 2147483647 u.length).trans (decide_eq_false hzu)))) (by decide) ?_
    refine HL.val (Val.pickF rfl rfl) (by decide) ?_
    refine HL.nil ?_
    refine HQ.next ?_
    refine HC.no rfl ?_
    refine HC.skip ?_
    refine HQ.next ?_
    refine HC.seq ?_
    refine HC.seq ?_
    refine HC.region ?_
    refine HL.val (Val.move rfl) (by decide) ?_
    refine HL.val (Val.move rfl) (by decide) ?_
    refine HL.new (New.bslice (s := 1) rfl Tryd.underlying97 (by kernel_rfl) infoS (by decide) (by decide) (fillS2 adx x.length cx adu u.length cu)) (by decide) ?_
    intro b1 hb1
    refine HL.val ((Val.calls en34 (fun w hw => few2_any (hw.at (i := 0) rfl) (sx.sn szBy hw.sn rfl) hx (su.sn szBy hw.sn rfl) hu) rfl).as (congrArg Value.bool (decide_eq_true hf))) (by decide) ?_
    refine HL.val (Val.not rfl) (by decide) ?_
    refine HL.val (Val.move rfl) (by decide) ?_
    refine HL.valg rfl (Val.move rfl) (by decide) ?_
    refine HL.valg rfl (Val.lenS rfl rfl Tryd.underlying47) (by decide) ?_
    refine HL.valg rfl ((Val.lss rfl rfl).as (congrArg Value.bool ((lssN x.length 1).trans (decide_eq_false (by omega))))) (by decide) ?_
    refine HL.val (Val.pickF rfl rfl) (by decide) ?_
    refine HL.val (Val.move rfl) (by decide) ?_
    refine HL.valg rfl (Val.move rfl) (by decide) ?_
    refine HL.valg rfl (Val.lenS rfl rfl Tryd.underlying47) (by decide) ?_
    refine HL.valg rfl ((Val.lss rfl rfl).as (congrArg Value.bool ((lssN u.length 1).trans (decide_eq_false (by omega))))) (by decide) ?_
    refine HL.val (Val.pickF rfl rfl) (by decide) ?_
    refine HL.val (Val.move rfl) (by decide) ?_
    refine HL.valg rfl (Val.move rfl) (by decide) ?_
    refine HL.valg rfl (Val.lenS rfl rfl Tryd.underlying47) (by decide) ?_
    refine HL.valg rfl ((Val.gtr rfl rfl).as (congrArg Value.bool ((lssN 32 x.length).trans (decide_eq_false (by omega))))) (by decide) ?_
    refine HL.val (Val.pickF rfl rfl) (by decide) ?_
    refine HL.val (Val.move rfl) (by decide) ?_
    refine HL.valg rfl (Val.move rfl) (by decide) ?_
    refine HL.valg rfl (Val.lenS rfl rfl Tryd.underlying47) (by decide) ?_
    refine HL.valg rfl ((Val.gtr rfl rfl).as (congrArg Value.bool ((lssN 32 u.length).trans (decide_eq_false (by omega))))) (by decide) ?_
    refine HL.val (Val.pickF rfl rfl) (by decide) ?_
    refine HL.val (Val.move rfl) (by decide) ?_
    refine HL.valg rfl (Val.move rfl) (by decide) ?_
    refine HL.valg rfl ((Val.lss rfl rfl).as (congrArg Value.bool (decide_eq_true hK0))) (by decide) ?_
    refine HL.val (Val.pickF rfl rfl) (by decide) ?_
    refine HL.val (Val.move rfl) (by decide) ?_
    refine HL.skip rfl (by decide) ?_
    refine HL.skip rfl (by decide) ?_
    refine HL.val (Val.pickT rfl rfl) (by decide) ?_
    refine HL.nil ?_
    refine HQ.next ?_
    refine HC.yes rfl ?_
    refine HC.seq ?_
    refine HC.region ?_
    refine HL.val (Val.assign rfl) (by decide) ?_
    refine HL.nil ?_
    refine HQ.next ?_
    refine HC.ret ?_
    refine HQ.thenRet ?_
    exact HQ.ret1 rfl rfl (pure_end rfl)
  by_cases hK2 : (2 : Int) < K
  · refine calls_H (args := [.slice adx x.length cx, .slice adu u.length cu, .int .i64 K]) noD [] Tryd.func20 rfl (m := 68) rfl rfl (hold_nil _ _) ?_
    refine HC.seq ?_
    refine HC.region ?_
    refine HL.val (Val.assign rfl) (by decide) ?_
    refine HL.nil ?_
    refine HQ.next ?_
    refine HC.seq ?_
    refine HC.seq ?_
    refine HC.region ?_
    refine HL.val (Val.move rfl) (by decide) ?_
    refine HL.val (Val.lenS rfl rfl Tryd.underlying47) (by decide) ?_
    refine HL.val ((Val.gtr rfl rfl).as (congrArg Value.bool ((lssN 2147483647 x.length).trans (decide_eq_false hzx)))) (by decide) ?_
    refine HL.val (Val.move rfl) (by decide) ?_
    refine HL.valg rfl (Val.move rfl) (by decide) ?_
    refine HL.valg rfl (Val.lenS rfl rfl Tryd.underlying47) (by decide) ?_
    refine HL.valg rfl ((Val.gtr rfl rfl).as (congrArg Value.bool ((lssN 2147483647 u.length).trans (decide_eq_false hzu)))) (by decide) ?_
    refine HL.val (Val.pickF rfl rfl) (by decide) ?_
    refine HL.nil ?_
    refine HQ.next ?_
    refine HC.no rfl ?_
    refine HC.skip ?_
    refine HQ.next ?_
    refine HC.seq ?_
    refine HC.seq ?_
    refine HC.region ?_
    refine HL.val (Val.move rfl) (by decide) ?_
    refine HL.val (Val.move rfl) (by decide) ?_
    refine HL.new (New.bslice (s := 1) rfl Tryd.underlying97 (by kernel_rfl) infoS (by decide) (by decide) (fillS2 adx x.length cx adu u.length cu)) (by decide) ?_
    intro b1 hb1
    refine HL.val ((Val.calls en34 (fun w hw => few2_any (hw.at (i := 0) rfl) (sx.sn szBy hw.sn rfl) hx (su.sn szBy hw.sn rfl) hu) rfl).as (congrArg Value.bool (decide_eq_true hf))) (by decide) ?_
    refine HL.val (Val.not rfl) (by decide) ?_
    refine HL.val (Val.move rfl) (by decide) ?_
    refine HL.valg rfl (Val.move rfl) (by decide) ?_
    refine HL.valg rfl (Val.lenS rfl rfl Tryd.underlying47) (by decide) ?_
    refine HL.valg rfl ((Val.lss rfl rfl).as (congrArg Value.bool ((lssN x.length 1).trans (decide_eq_false (by omega))))) (by decide) ?_
    refine HL.val (Val.pickF rfl rfl) (by decide) ?_
    refine HL.val (Val.move rfl) (by decide) ?_
    refine HL.valg rfl (Val.move rfl) (by decide) ?_
    refine HL.valg rfl (Val.lenS rfl rfl Tryd.underlying47) (by decide) ?_
    refine HL.valg rfl ((Val.lss rfl rfl).as (congrArg Value.bool ((lssN u.length 1).trans (decide_eq_false (by omega))))) (by decide) ?_
    refine HL.val (Val.pickF rfl rfl) (by decide) ?_
    refine HL.val (Val.move rfl) (by decide) ?_
    refine HL.valg rfl (Val.move rfl) (by decide) ?_
    refine HL.valg rfl (Val.lenS rfl rfl Tryd.underlying47) (by decide) ?_
    refine HL.valg rfl ((Val.gtr rfl rfl).as (congrArg Value.bool ((lssN 32 x.length).trans (decide_eq_false (by omega))))) (by decide) ?_
    refine HL.val (Val.pickF rfl rfl) (by decide) ?_
    refine HL.val (Val.move rfl) (by decide) ?_
    refine HL.valg rfl (Val.move rfl) (by decide) ?_
    refine HL.valg rfl (Val.lenS rfl rfl Tryd.underlying47) (by decide) ?_
    refine HL.valg rfl ((Val.gtr rfl rfl).as (congrArg Value.bool ((lssN 32 u.length).trans (decide_eq_false (by omega))))) (by decide) ?_
    refine HL.val (Val.pickF rfl rfl) (by decide) ?_
    refine HL.val (Val.move rfl) (by decide) ?_
    refine HL.valg rfl (Val.move rfl) (by decide) ?_
    refine HL.valg rfl ((Val.lss rfl rfl).as (congrArg Value.bool (decide_eq_false hK0))) (by decide) ?_
    refine HL.val (Val.pickF rfl rfl) (by decide) ?_
    refine HL.val (Val.move rfl) (by decide) ?_
    refine HL.valg rfl (Val.move rfl) (by decide) ?_
    refine HL.valg rfl ((Val.gtr rfl rfl).as (congrArg Value.bool (decide_eq_true hK2))) (by decide) ?_
    refine HL.val (Val.pickF rfl rfl) (by decide) ?_
    refine HL.nil ?_
    refine HQ.next ?_
    refine HC.yes rfl ?_
    refine HC.seq ?_
    refine HC.region ?_
    refine HL.val (Val.assign rfl) (by decide) ?_
    refine HL.nil ?_
    refine HQ.next ?_
    refine HC.ret ?_
    refine HQ.thenRet ?_
    exact HQ.ret1 rfl rfl (pure_end rfl)
  rcases (show K = 0 ∨ K = 1 ∨ K = 2 by omega) with rfl | rfl | rfl
  · refine calls_H (args := [.slice adx x.length cx, .slice adu u.length cu, .int .i64 0]) noD [] Tryd.func20 rfl (m := 68) rfl rfl (hold_nil _ _) ?_
    refine HC.seq ?_
    refine HC.region ?_
    refine HL.val (Val.assign rfl) (by decide) ?_
    refine HL.nil ?_
    refine HQ.next ?_
    refine HC.seq ?_
    refine HC.seq ?_
    refine HC.region ?_
    refine HL.val (Val.move rfl) (by decide) ?_
    refine HL.val (Val.lenS rfl rfl Tryd.underlying47) (by decide) ?_
    refine HL.val ((Val.gtr rfl rfl).as (congrArg Value.bool ((lssN 2147483647 x.length).trans (decide_eq_false hzx)))) (by decide) ?_
    refine HL.val (Val.move rfl) (by decide) ?_
    refine HL.valg rfl (Val.move rfl) (by decide) ?_
    refine HL.valg rfl (Val.lenS rfl rfl Tryd.underlying47) (by decide) ?_
    refine HL.valg rfl ((Val.gtr rfl rfl).as (congrArg Value.bool ((lssN 2147483647 u.length).trans (decide_eq_false hzu)))) (by decide) ?_
    refine HL.val (Val.pickF rfl rfl) (by decide) ?_
    refine HL.nil ?_
    refine HQ.next ?_
    refine HC.no rfl ?_
    refine HC.skip ?_
    refine HQ.next ?_
    refine HC.seq ?_
    refine HC.seq ?_
    refine HC.region ?_
    refine HL.val (Val.move rfl) (by decide) ?_
    refine HL.val (Val.move rfl) (by decide) ?_
    refine HL.new (New.bslice (s := 1) rfl Tryd.underlying97 (by kernel_rfl) infoS (by decide) (by decide) (fillS2 adx x.length cx adu u.length cu)) (by decide) ?_
    intro b1 hb1
    refine HL.val ((Val.calls en34 (fun w hw => few2_any (hw.at (i := 0) rfl) (sx.sn szBy hw.sn rfl) hx (su.sn szBy hw.sn rfl) hu) rfl).as (congrArg Value.bool (decide_eq_true hf))) (by decide) ?_
    refine HL.val (Val.not rfl) (by decide) ?_
    refine HL.val (Val.move rfl) (by decide) ?_
    refine HL.valg rfl (Val.move rfl) (by decide) ?_
    refine HL.valg rfl (Val.lenS rfl rfl Tryd.underlying47) (by decide) ?_
    refine HL.valg rfl ((Val.lss rfl rfl).as (congrArg Value.bool ((lssN x.length 1).trans (decide_eq_false (by omega))))) (by decide) ?_
    refine HL.val (Val.pickF rfl rfl) (by decide) ?_
    refine HL.val (Val.move rfl) (by decide) ?_
    refine HL.valg rfl (Val.move rfl) (by decide) ?_
    refine HL.valg rfl (Val.lenS rfl rfl Tryd.underlying47) (by decide) ?_
    refine HL.valg rfl ((Val.lss rfl rfl).as (congrArg Value.bool ((lssN u.length 1).trans (decide_eq_false (by omega))))) (by decide) ?_
    refine HL.val (Val.pickF rfl rfl) (by decide) ?_
    refine HL.val (Val.move rfl) (by decide) ?_
    refine HL.valg rfl (Val.move rfl) (by decide) ?_
    refine HL.valg rfl (Val.lenS rfl rfl Tryd.underlying47) (by decide) ?_
    refine HL.valg rfl ((Val.gtr rfl rfl).as (congrArg Value.bool ((lssN 32 x.length).trans (decide_eq_false (by omega))))) (by decide) ?_
    refine HL.val (Val.pickF rfl rfl) (by decide) ?_
    refine HL.val (Val.move rfl) (by decide) ?_
    refine HL.valg rfl (Val.move rfl) (by decide) ?_
    refine HL.valg rfl (Val.lenS rfl rfl Tryd.underlying47) (by decide) ?_
    refine HL.valg rfl ((Val.gtr rfl rfl).as (congrArg Value.bool ((lssN 32 u.length).trans (decide_eq_false (by omega))))) (by decide) ?_
    refine HL.val (Val.pickF rfl rfl) (by decide) ?_
    refine HL.val (Val.move rfl) (by decide) ?_
    refine HL.valg rfl (Val.move rfl) (by decide) ?_
    refine HL.valg rfl ((Val.lss rfl rfl).as (congrArg Value.bool (show decide ((0 : Int) < 0) = false by decide))) (by decide) ?_
    refine HL.val (Val.pickF rfl rfl) (by decide) ?_
    refine HL.val (Val.move rfl) (by decide) ?_
    refine HL.valg rfl (Val.move rfl) (by decide) ?_
    refine HL.valg rfl ((Val.gtr rfl rfl).as (congrArg Value.bool (show decide ((2 : Int) < 0) = false by decide))) (by decide) ?_
    refine HL.val (Val.pickF rfl rfl) (by decide) ?_
    refine HL.nil ?_
    refine HQ.next ?_
    refine HC.no rfl ?_
    refine HC.skip ?_
    refine HQ.next ?_
    refine HC.seq ?_
    refine HC.region ?_
    refine HL.val (Val.move rfl) (by decide) ?_
    refine HL.val (Val.move rfl) (by decide) ?_
    refine HL.val (Val.move rfl) (by decide) ?_
    refine HL.fam (FamV.call (R := fun r => True) (ob := fun r => .cells (flat (byA 16) (prodL x u)) 30 (0, 0)) (pv := fun r => .tuple #[.slice (some ⟨r.1, 0, none⟩) (x.length + u.length - 1) (x.length + u.length - 1), .bool true]) en64 (fun w hw => ipmul0 (hg.sn hw.sn rfl) (ht.sn hw.sn rfl) (hd.sn hw.sn rfl) (hh.sn hw.sn rfl) (sx.sn szBy hw.sn rfl) hpx (su.sn szBy hw.sn rfl) hpu h1 h2 (by omega)) rfl) (fun _ h => by cases h) (by decide) ?_
    intro b2 c2 q2 r2 hb2
    dsimp only
    refine HL.val (Val.move rfl) (by decide) ?_
    refine HL.val (Val.extract rfl rfl) (by decide) ?_
    refine HL.val (Val.extract rfl rfl) (by decide) ?_
    refine HL.val (Val.assign rfl) (by decide) ?_
    refine HL.val (Val.assign rfl) (by decide) ?_
    refine HL.nil ?_
    refine HQ.next ?_
    refine HC.seq ?_
    refine HC.region ?_
    refine HL.val (Val.move rfl) (by decide) ?_
    refine HL.val (Val.move rfl) (by decide) ?_
    refine HL.valg rfl (Val.move rfl) (by decide) ?_
    refine HL.valg rfl (Val.call en21 (fl_p) rfl) (by decide) ?_
    refine HL.valg rfl (Val.move rfl) (by decide) ?_
    refine HL.fam (FamV.call (R := fun r => PreW r.2.2 x ∧ x.length ≤ r.2.1) (ob := fun r => .cells r.2.2 25 (0, 0)) (pv := fun r => .slice (some ⟨r.1, 0, none⟩) x.length r.2.1) en36 (fun w hw => l_any (sx.sn szBy hw.sn rfl) hx hlx) rfl) (fun _ h => by cases h; rfl) (by decide) ?_
    intro b3 c3 q3 r3 hb3
    dsimp only
    refine HL.valg rfl (Val.move rfl) (by decide) ?_
    refine HL.fam (FamV.call (R := fun r => PreW r.2.2 u ∧ u.length ≤ r.2.1) (ob := fun r => .cells r.2.2 25 (0, 0)) (pv := fun r => .slice (some ⟨r.1, 0, none⟩) u.length r.2.1) en36 (fun w hw => l_any (su.sn szBy hw.sn rfl) hu hlu) rfl) (fun _ h => by cases h; rfl) (by decide) ?_
    intro b4 c4 q4 r4 hb4
    dsimp only
    refine HL.fam (FamV.call (R := fun r => True) (ob := fun r => .cells (flat wA (prodL x u)) 25 (0, 0)) (pv := fun r => .slice (some ⟨r.1, 0, none⟩) (x.length + u.length - 1) (x.length + u.length - 1)) en61 (fun w hw => sprod_any h1 (PreW.sl r3.1 (hw.at (i := 1) rfl)) hpx (PreW.sl r4.1 (hw.at (i := 0) rfl)) hpu (by omega)) rfl) (fun _ h => by cases h; rfl) (by decide) ?_
    intro b5 c5 q5 r5 hb5
    dsimp only
    refine HL.valg rfl (Val.calls en37 (fun w hw => same_mul (hw.at (i := 3) rfl) (hw.at (i := 0) rfl) (by omega)) rfl) (by decide) ?_
    refine HL.val (Val.pickT rfl rfl) (by decide) ?_
    refine HL.val (Val.assign rfl) (by decide) ?_
    refine HL.nil ?_
    refine HQ.next ?_
    refine HC.ret ?_
    exact HQ.ret1 rfl rfl (pure_end rfl)
  · refine calls_H (args := [.slice adx x.length cx, .slice adu u.length cu, .int .i64 1]) noD [] Tryd.func20 rfl (m := 68) rfl rfl (hold_nil _ _) ?_
    refine HC.seq ?_
    refine HC.region ?_
    refine HL.val (Val.assign rfl) (by decide) ?_
    refine HL.nil ?_
    refine HQ.next ?_
    refine HC.seq ?_
    refine HC.seq ?_
    refine HC.region ?_
    refine HL.val (Val.move rfl) (by decide) ?_
    refine HL.val (Val.lenS rfl rfl Tryd.underlying47) (by decide) ?_
    refine HL.val ((Val.gtr rfl rfl).as (congrArg Value.bool ((lssN 2147483647 x.length).trans (decide_eq_false hzx)))) (by decide) ?_
    refine HL.val (Val.move rfl) (by decide) ?_
    refine HL.valg rfl (Val.move rfl) (by decide) ?_
    refine HL.valg rfl (Val.lenS rfl rfl Tryd.underlying47) (by decide) ?_
    refine HL.valg rfl ((Val.gtr rfl rfl).as (congrArg Value.bool ((lssN 2147483647 u.length).trans (decide_eq_false hzu)))) (by decide) ?_
    refine HL.val (Val.pickF rfl rfl) (by decide) ?_
    refine HL.nil ?_
    refine HQ.next ?_
    refine HC.no rfl ?_
    refine HC.skip ?_
    refine HQ.next ?_
    refine HC.seq ?_
    refine HC.seq ?_
    refine HC.region ?_
    refine HL.val (Val.move rfl) (by decide) ?_
    refine HL.val (Val.move rfl) (by decide) ?_
    refine HL.new (New.bslice (s := 1) rfl Tryd.underlying97 (by kernel_rfl) infoS (by decide) (by decide) (fillS2 adx x.length cx adu u.length cu)) (by decide) ?_
    intro b1 hb1
    refine HL.val ((Val.calls en34 (fun w hw => few2_any (hw.at (i := 0) rfl) (sx.sn szBy hw.sn rfl) hx (su.sn szBy hw.sn rfl) hu) rfl).as (congrArg Value.bool (decide_eq_true hf))) (by decide) ?_
    refine HL.val (Val.not rfl) (by decide) ?_
    refine HL.val (Val.move rfl) (by decide) ?_
    refine HL.valg rfl (Val.move rfl) (by decide) ?_
    refine HL.valg rfl (Val.lenS rfl rfl Tryd.underlying47) (by decide) ?_
    refine HL.valg rfl ((Val.lss rfl rfl).as (congrArg Value.bool ((lssN x.length 1).trans (decide_eq_false (by omega))))) (by decide) ?_
    refine HL.val (Val.pickF rfl rfl) (by decide) ?_
    refine HL.val (Val.move rfl) (by decide) ?_
    refine HL.valg rfl (Val.move rfl) (by decide) ?_
    refine HL.valg rfl (Val.lenS rfl rfl Tryd.underlying47) (by decide) ?_
    refine HL.valg rfl ((Val.lss rfl rfl).as (congrArg Value.bool ((lssN u.length 1).trans (decide_eq_false (by omega))))) (by decide) ?_
    refine HL.val (Val.pickF rfl rfl) (by decide) ?_
    refine HL.val (Val.move rfl) (by decide) ?_
    refine HL.valg rfl (Val.move rfl) (by decide) ?_
    refine HL.valg rfl (Val.lenS rfl rfl Tryd.underlying47) (by decide) ?_
    refine HL.valg rfl ((Val.gtr rfl rfl).as (congrArg Value.bool ((lssN 32 x.length).trans (decide_eq_false (by omega))))) (by decide) ?_
    refine HL.val (Val.pickF rfl rfl) (by decide) ?_
    refine HL.val (Val.move rfl) (by decide) ?_
    refine HL.valg rfl (Val.move rfl) (by decide) ?_
    refine HL.valg rfl (Val.lenS rfl rfl Tryd.underlying47) (by decide) ?_
    refine HL.valg rfl ((Val.gtr rfl rfl).as (congrArg Value.bool ((lssN 32 u.length).trans (decide_eq_false (by omega))))) (by decide) ?_
    refine HL.val (Val.pickF rfl rfl) (by decide) ?_
    refine HL.val (Val.move rfl) (by decide) ?_
    refine HL.valg rfl (Val.move rfl) (by decide) ?_
    refine HL.valg rfl ((Val.lss rfl rfl).as (congrArg Value.bool (show decide ((1 : Int) < 0) = false by decide))) (by decide) ?_
    refine HL.val (Val.pickF rfl rfl) (by decide) ?_
    refine HL.val (Val.move rfl) (by decide) ?_
    refine HL.valg rfl (Val.move rfl) (by decide) ?_
    refine HL.valg rfl ((Val.gtr rfl rfl).as (congrArg Value.bool (show decide ((2 : Int) < 1) = false by decide))) (by decide) ?_
    refine HL.val (Val.pickF rfl rfl) (by decide) ?_
    refine HL.nil ?_
    refine HQ.next ?_
    refine HC.no rfl ?_
    refine HC.skip ?_
    refine HQ.next ?_
    refine HC.seq ?_
    refine HC.region ?_
    refine HL.val (Val.move rfl) (by decide) ?_
    refine HL.val (Val.move rfl) (by decide) ?_
    refine HL.val (Val.move rfl) (by decide) ?_
    refine HL.fam (FamV.call (R := fun r => True) (ob := fun r => .cells (flat (byA 16) (prodL x u)) 30 (0, 0)) (pv := fun r => .tuple #[.slice (some ⟨r.1, 0, none⟩) (x.length + u.length - 1) (x.length + u.length - 1), .bool true]) en64 (fun w hw => ipmul1 (hg.sn hw.sn rfl) (ht.sn hw.sn rfl) (hd.sn hw.sn rfl) (hh.sn hw.sn rfl) (sx.sn szBy hw.sn rfl) hpx (su.sn szBy hw.sn rfl) hpu h1 h2 (by omega)) rfl) (fun _ h => by cases h) (by decide) ?_
    intro b2 c2 q2 r2 hb2
    dsimp only
    refine HL.val (Val.move rfl) (by decide) ?_
    refine HL.val (Val.extract rfl rfl) (by decide) ?_
    refine HL.val (Val.extract rfl rfl) (by decide) ?_
    refine HL.val (Val.assign rfl) (by decide) ?_
    refine HL.val (Val.assign rfl) (by decide) ?_
    refine HL.nil ?_
    refine HQ.next ?_
    refine HC.seq ?_
    refine HC.region ?_
    refine HL.val (Val.move rfl) (by decide) ?_
    refine HL.val (Val.move rfl) (by decide) ?_
    refine HL.valg rfl (Val.move rfl) (by decide) ?_
    refine HL.valg rfl (Val.call en21 (fl_p) rfl) (by decide) ?_
    refine HL.valg rfl (Val.move rfl) (by decide) ?_
    refine HL.fam (FamV.call (R := fun r => PreW r.2.2 x ∧ x.length ≤ r.2.1) (ob := fun r => .cells r.2.2 25 (0, 0)) (pv := fun r => .slice (some ⟨r.1, 0, none⟩) x.length r.2.1) en36 (fun w hw => l_any (sx.sn szBy hw.sn rfl) hx hlx) rfl) (fun _ h => by cases h; rfl) (by decide) ?_
    intro b3 c3 q3 r3 hb3
    dsimp only
    refine HL.valg rfl (Val.move rfl) (by decide) ?_
    refine HL.fam (FamV.call (R := fun r => PreW r.2.2 u ∧ u.length ≤ r.2.1) (ob := fun r => .cells r.2.2 25 (0, 0)) (pv := fun r => .slice (some ⟨r.1, 0, none⟩) u.length r.2.1) en36 (fun w hw => l_any (su.sn szBy hw.sn rfl) hu hlu) rfl) (fun _ h => by cases h; rfl) (by decide) ?_
    intro b4 c4 q4 r4 hb4
    dsimp only
    refine HL.fam (FamV.call (R := fun r => True) (ob := fun r => .cells (flat wA (prodL x u)) 25 (0, 0)) (pv := fun r => .slice (some ⟨r.1, 0, none⟩) (x.length + u.length - 1) (x.length + u.length - 1)) en61 (fun w hw => sprod_any h1 (PreW.sl r3.1 (hw.at (i := 1) rfl)) hpx (PreW.sl r4.1 (hw.at (i := 0) rfl)) hpu (by omega)) rfl) (fun _ h => by cases h; rfl) (by decide) ?_
    intro b5 c5 q5 r5 hb5
    dsimp only
    refine HL.valg rfl (Val.calls en37 (fun w hw => same_mul (hw.at (i := 3) rfl) (hw.at (i := 0) rfl) (by omega)) rfl) (by decide) ?_
    refine HL.val (Val.pickT rfl rfl) (by decide) ?_
    refine HL.val (Val.assign rfl) (by decide) ?_
    refine HL.nil ?_
    refine HQ.next ?_
    refine HC.ret ?_
    exact HQ.ret1 rfl rfl (pure_end rfl)
  · refine calls_H (args := [.slice adx x.length cx, .slice adu u.length cu, .int .i64 2]) noD [] Tryd.func20 rfl (m := 68) rfl rfl (hold_nil _ _) ?_
    refine HC.seq ?_
    refine HC.region ?_
    refine HL.val (Val.assign rfl) (by decide) ?_
    refine HL.nil ?_
    refine HQ.next ?_
    refine HC.seq ?_
    refine HC.seq ?_
    refine HC.region ?_
    refine HL.val (Val.move rfl) (by decide) ?_
    refine HL.val (Val.lenS rfl rfl Tryd.underlying47) (by decide) ?_
    refine HL.val ((Val.gtr rfl rfl).as (congrArg Value.bool ((lssN 2147483647 x.length).trans (decide_eq_false hzx)))) (by decide) ?_
    refine HL.val (Val.move rfl) (by decide) ?_
    refine HL.valg rfl (Val.move rfl) (by decide) ?_
    refine HL.valg rfl (Val.lenS rfl rfl Tryd.underlying47) (by decide) ?_
    refine HL.valg rfl ((Val.gtr rfl rfl).as (congrArg Value.bool ((lssN 2147483647 u.length).trans (decide_eq_false hzu)))) (by decide) ?_
    refine HL.val (Val.pickF rfl rfl) (by decide) ?_
    refine HL.nil ?_
    refine HQ.next ?_
    refine HC.no rfl ?_
    refine HC.skip ?_
    refine HQ.next ?_
    refine HC.seq ?_
    refine HC.seq ?_
    refine HC.region ?_
    refine HL.val (Val.move rfl) (by decide) ?_
    refine HL.val (Val.move rfl) (by decide) ?_
    refine HL.new (New.bslice (s := 1) rfl Tryd.underlying97 (by kernel_rfl) infoS (by decide) (by decide) (fillS2 adx x.length cx adu u.length cu)) (by decide) ?_
    intro b1 hb1
    refine HL.val ((Val.calls en34 (fun w hw => few2_any (hw.at (i := 0) rfl) (sx.sn szBy hw.sn rfl) hx (su.sn szBy hw.sn rfl) hu) rfl).as (congrArg Value.bool (decide_eq_true hf))) (by decide) ?_
    refine HL.val (Val.not rfl) (by decide) ?_
    refine HL.val (Val.move rfl) (by decide) ?_
    refine HL.valg rfl (Val.move rfl) (by decide) ?_
    refine HL.valg rfl (Val.lenS rfl rfl Tryd.underlying47) (by decide) ?_
    refine HL.valg rfl ((Val.lss rfl rfl).as (congrArg Value.bool ((lssN x.length 1).trans (decide_eq_false (by omega))))) (by decide) ?_
    refine HL.val (Val.pickF rfl rfl) (by decide) ?_
    refine HL.val (Val.move rfl) (by decide) ?_
    refine HL.valg rfl (Val.move rfl) (by decide) ?_
    refine HL.valg rfl (Val.lenS rfl rfl Tryd.underlying47) (by decide) ?_
    refine HL.valg rfl ((Val.lss rfl rfl).as (congrArg Value.bool ((lssN u.length 1).trans (decide_eq_false (by omega))))) (by decide) ?_
    refine HL.val (Val.pickF rfl rfl) (by decide) ?_
    refine HL.val (Val.move rfl) (by decide) ?_
    refine HL.valg rfl (Val.move rfl) (by decide) ?_
    refine HL.valg rfl (Val.lenS rfl rfl Tryd.underlying47) (by decide) ?_
    refine HL.valg rfl ((Val.gtr rfl rfl).as (congrArg Value.bool ((lssN 32 x.length).trans (decide_eq_false (by omega))))) (by decide) ?_
    refine HL.val (Val.pickF rfl rfl) (by decide) ?_
    refine HL.val (Val.move rfl) (by decide) ?_
    refine HL.valg rfl (Val.move rfl) (by decide) ?_
    refine HL.valg rfl (Val.lenS rfl rfl Tryd.underlying47) (by decide) ?_
    refine HL.valg rfl ((Val.gtr rfl rfl).as (congrArg Value.bool ((lssN 32 u.length).trans (decide_eq_false (by omega))))) (by decide) ?_
    refine HL.val (Val.pickF rfl rfl) (by decide) ?_
    refine HL.val (Val.move rfl) (by decide) ?_
    refine HL.valg rfl (Val.move rfl) (by decide) ?_
    refine HL.valg rfl ((Val.lss rfl rfl).as (congrArg Value.bool (show decide ((2 : Int) < 0) = false by decide))) (by decide) ?_
    refine HL.val (Val.pickF rfl rfl) (by decide) ?_
    refine HL.val (Val.move rfl) (by decide) ?_
    refine HL.valg rfl (Val.move rfl) (by decide) ?_
    refine HL.valg rfl ((Val.gtr rfl rfl).as (congrArg Value.bool (show decide ((2 : Int) < 2) = false by decide))) (by decide) ?_
    refine HL.val (Val.pickF rfl rfl) (by decide) ?_
    refine HL.nil ?_
    refine HQ.next ?_
    refine HC.no rfl ?_
    refine HC.skip ?_
    refine HQ.next ?_
    refine HC.seq ?_
    refine HC.region ?_
    refine HL.val (Val.move rfl) (by decide) ?_
    refine HL.val (Val.move rfl) (by decide) ?_
    refine HL.val (Val.move rfl) (by decide) ?_
    refine HL.fam (FamV.call (R := fun r => True) (ob := fun r => .cells (flat (byA 16) (prodL x u)) 30 (0, 0)) (pv := fun r => .tuple #[.slice (some ⟨r.1, 0, none⟩) (x.length + u.length - 1) (x.length + u.length - 1), .bool true]) en64 (fun w hw => ipmul2 (hg.sn hw.sn rfl) (ht.sn hw.sn rfl) (hd.sn hw.sn rfl) (hh.sn hw.sn rfl) (sx.sn szBy hw.sn rfl) hpx (su.sn szBy hw.sn rfl) hpu h1 h2 (by omega)) rfl) (fun _ h => by cases h) (by decide) ?_
    intro b2 c2 q2 r2 hb2
    dsimp only
    refine HL.val (Val.move rfl) (by decide) ?_
    refine HL.val (Val.extract rfl rfl) (by decide) ?_
    refine HL.val (Val.extract rfl rfl) (by decide) ?_
    refine HL.val (Val.assign rfl) (by decide) ?_
    refine HL.val (Val.assign rfl) (by decide) ?_
    refine HL.nil ?_
    refine HQ.next ?_
    refine HC.seq ?_
    refine HC.region ?_
    refine HL.val (Val.move rfl) (by decide) ?_
    refine HL.val (Val.move rfl) (by decide) ?_
    refine HL.valg rfl (Val.move rfl) (by decide) ?_
    refine HL.valg rfl (Val.call en21 (fl_p) rfl) (by decide) ?_
    refine HL.valg rfl (Val.move rfl) (by decide) ?_
    refine HL.fam (FamV.call (R := fun r => PreW r.2.2 x ∧ x.length ≤ r.2.1) (ob := fun r => .cells r.2.2 25 (0, 0)) (pv := fun r => .slice (some ⟨r.1, 0, none⟩) x.length r.2.1) en36 (fun w hw => l_any (sx.sn szBy hw.sn rfl) hx hlx) rfl) (fun _ h => by cases h; rfl) (by decide) ?_
    intro b3 c3 q3 r3 hb3
    dsimp only
    refine HL.valg rfl (Val.move rfl) (by decide) ?_
    refine HL.fam (FamV.call (R := fun r => PreW r.2.2 u ∧ u.length ≤ r.2.1) (ob := fun r => .cells r.2.2 25 (0, 0)) (pv := fun r => .slice (some ⟨r.1, 0, none⟩) u.length r.2.1) en36 (fun w hw => l_any (su.sn szBy hw.sn rfl) hu hlu) rfl) (fun _ h => by cases h; rfl) (by decide) ?_
    intro b4 c4 q4 r4 hb4
    dsimp only
    refine HL.fam (FamV.call (R := fun r => True) (ob := fun r => .cells (flat wA (prodL x u)) 25 (0, 0)) (pv := fun r => .slice (some ⟨r.1, 0, none⟩) (x.length + u.length - 1) (x.length + u.length - 1)) en61 (fun w hw => sprod_any h1 (PreW.sl r3.1 (hw.at (i := 1) rfl)) hpx (PreW.sl r4.1 (hw.at (i := 0) rfl)) hpu (by omega)) rfl) (fun _ h => by cases h; rfl) (by decide) ?_
    intro b5 c5 q5 r5 hb5
    dsimp only
    refine HL.valg rfl (Val.calls en37 (fun w hw => same_mul (hw.at (i := 3) rfl) (hw.at (i := 0) rfl) (by omega)) rfl) (by decide) ?_
    refine HL.val (Val.pickT rfl rfl) (by decide) ?_
    refine HL.val (Val.assign rfl) (by decide) ?_
    refine HL.nil ?_
    refine HQ.next ?_
    refine HC.ret ?_
    exact HQ.ret1 rfl rfl (pure_end rfl)
set_option maxRecDepth 100000 in
theorem fnPolyMul128_met (os : Os) (args : Array Value) : laidMetH Tryd.prog Rows.fnPolyMul128Row.laid ((World.doorLaid Tryd.prog 400 os).forCall (fun _ _ => 0) ⟨#[], args, []⟩).memory :=
  laidMetH_of_parts3 (fuel := 8) (laidMet_of_run' 8 (by kernel_rfl) (by kernel_rfl)) (by kernel_rfl) (by kernel_rfl)
set_option maxRecDepth 100000 in
theorem fnPolyMul128_lifted (os : Os) (started : os.Started) (H : Type) (enc : TypeId × Value → H) :
    ReturnsInHanded {} Tryd.checked os 20 .any (fun w args => (Rows.fnPolyMul128Spec.pre enc Tryd.prog Tryd.f20 [] false w args ∧ laidMetH Tryd.prog Rows.fnPolyMul128Row.laid w) ∧ sizedMet enc Tryd.prog Tryd.f20 (OpenSpec.ofChange Rows.fnPolyMul128Spec) false w args)
      (Rows.fnPolyMul128Spec.post enc Tryd.prog Tryd.f20 false true false false) := by
  refine returnsInHanded_of_change_and (C := Tryd.checked) (X := fun w _ => laidMetH Tryd.prog Rows.fnPolyMul128Row.laid w) (fun _ _ _ hh h => h.of_heap hh) own1 started (by kernel_rfl) Tryd.func20
    (ChangeSpec.witness_shaped (enc := enc) (C := Tryd.checked) (os := os) (X := fun w _ => laidMetH Tryd.prog Rows.fnPolyMul128Row.laid w) false (World.doorLaid Tryd.prog 400 os) #[.slice none 0 0, .slice none 0 0, .int .i64 0] 8 rfl (World.shaped_of_RefB (by kernel_rfl) (by kernel_rfl)) (by kernel_rfl) (by kernel_rfl) (by kernel_rfl) (fnPolyMul128_met os _)) ?_
  intro W base args ds gs before hval0 hW _ _ hL _
  have hval : ∀ (j : Nat) t v, Tryd.f20.params[j]? = some t → args[j]? = some v → Value.okWide Tryd.prog W .any base t v := hval0
  have hW' := hW
  obtain ⟨p, q, hA0, hV, rfl, hfz, hnd⟩ := hW
  have hV0 := hV
  have hA : DataW.TrodAll enc Tryd.prog W 0 (fun _ => true) true Tryd.f20.params.toList args.toList ds p := hA0
  rw [Tryd.params20] at hA hval
  obtain ⟨v0, v1, v2, d0, d1, d2, p0, p1, p2, rfl, rfl, rfl, h0, h1, h2⟩ := trodAll_three hA
  obtain ⟨g0, g1, g2, g3, g4, rfl⟩ : ∃ g0 g1 g2 g3 g4, gs = [g0, g1, g2, g3, g4] := by
    have hgl := trodVars_len hV0
    match gs, hgl with
    | [g0, g1, g2, g3, g4], _ => exact ⟨g0, g1, g2, g3, g4, rfl⟩
  obtain ⟨adx, bx, ox, cx, x, rfl, nx, hx, sx⟩ := open_rows Tryd.underlying47 Tryd.underlying30 Tryd.underlying5 (by kernel_rfl) (by kernel_rfl) (by decide) (hval 0 47 v0 rfl rfl) h0
  obtain ⟨adu, bu, ou, cu, u, rfl, nu, hu, su⟩ := open_rows Tryd.underlying47 Tryd.underlying30 Tryd.underlying5 (by kernel_rfl) (by kernel_rfl) (by decide) (hval 1 47 v1 rfl rfl) h1
  obtain ⟨Ki, rfl, rfl, rfl, wK⟩ := open_int Tryd.underlying3 (hval 2 3 v2 rfl rfl) h2
  clear hA0 hval0
  refine (main_w (db_at (laid_at (by kernel_rfl) hL 1 rfl)) (gr_at (laid_at (by kernel_rfl) hL 2 rfl)) (hf_at (laid_at (by kernel_rfl) hL 3 rfl)) (rt_at (laid_at (by kernel_rfl) hL 4 rfl)) nx hx sx nu hu su).mono fun e W' ⟨he, hb⟩ => ?_
  subst he
  exact ⟨_, rfl, ⟨_, _, _, [], _, _, hW', trodAll_mk1 (shut_bool Tryd.underlying4 true), trodAll_mk3 (Below.trod laidOut1 (by kernel_rfl) (of_decide_eq_true (by kernel_rfl)) h0 hb (trod_lt h0)) (Below.trod laidOut1 (by kernel_rfl) (of_decide_eq_true (by kernel_rfl)) h1 hb (trod_lt h1)) (shut_int Tryd.underlying3 wK), Below.trodVars laidOut1 hb (by kernel_rfl) hV, hb.frame _, fun h => by cases h⟩⟩
theorem fnPolyMul128_c1 : (Rows.fnPolyMul128Row.inPlace == Tryd.pinned.checked.prog.inPlace 20) = true := by kernel_rfl
theorem fnPolyMul128_c2 : (Rows.fnPolyMul128Row.unfollowed == Tryd.pinned.checked.prog.unfollowed 20) = true := by kernel_rfl
theorem fnPolyMul128_c3 : (Rows.fnPolyMul128Row.recurses == Tryd.pinned.checked.prog.recurses 20) = true := by kernel_rfl
theorem fnPolyMul128_c4 : (Rows.fnPolyMul128Row.named == Tryd.pinned.checked.prog.varsNamed 20) = true := by kernel_rfl
theorem fnPolyMul128_c5 : Rows.fnPolyMul128Row.wf (OpenSpec.ofChange Rows.fnPolyMul128Spec) = true := by kernel_rfl
theorem fnPolyMul128_c8 : (Rows.fnPolyMul128Row.plainKeys == Tryd.pinned.checked.prog.plainKeys) = true := by kernel_rfl
theorem fnPolyMul128_d1 : (Rows.fnPolyMul128Row.lifted == Tryd.pinned.checked.prog.liftsFinal) = true := by rw [lifts1]; rfl
theorem fnPolyMul128_d2 : (Tryd.pinned.checked.prog.make == some Rows.fnPolyMul128Row.make) = true := by rw [make1]; rfl
theorem looks1 : false = Tryd.pinned.checked.prog.looks [] := by kernel_rfl
theorem fnPolyMul128_closed : joinedFacts Tryd.pinned.checked.prog 20 Tryd.f20 Rows.fnPolyMul128Spec Rows.fnPolyMul128Row = true := by
  delta joinedFacts
  repeat' with_reducible apply and_i
  all_goals first | with_reducible exact fnPolyMul128_c1 | with_reducible exact fnPolyMul128_c2 | with_reducible exact fnPolyMul128_c3 | with_reducible exact fnPolyMul128_c4 | with_reducible exact fnPolyMul128_c5 | with_reducible exact c6 | with_reducible exact c7 | with_reducible exact fnPolyMul128_c8 | with_reducible exact c9 | with_reducible exact may1 | with_reducible exact fnPolyMul128_d1 | with_reducible exact fnPolyMul128_d2 | kernel_rfl
theorem fnPolyMul128_named : Tryd.pinned.checked.prog.funcNamed Rows.fnPolyMul128Row.func = some 20 := by kernel_rfl
theorem fnPolyMul128_inst : Tryd.f20.isInstance Tryd.pinned.checked.prog Rows.fnPolyMul128Row.origin Rows.fnPolyMul128Row.targs := of_decide_eq_true (by kernel_rfl)
theorem fnPolyMul128_wrap : Tryd.f20.isWrapper Tryd.pinned.checked.prog Rows.fnPolyMul128Row.wrapper Rows.fnPolyMul128Row.mainSum := by unfold Func.isWrapper; first | (rw [if_pos (by decide +kernel)]; kernel_rfl) | (rw [if_neg (by decide +kernel)]; exact ⟨rfl, rfl⟩)
theorem fnPolyMul128_holds : Rows.FnPolyMul128Said :=
  OpenClaim.holds_of_wide 20 Tryd.f20 rfl rfl rfl rfl rfl rfl rfl ⟨rfl, rfl, rfl, rfl, rfl⟩ rfl rfl rfl rfl rfl fnPolyMul128_named Tryd.func20 fnPolyMul128_closed
    fnPolyMul128_inst fnPolyMul128_wrap
    (fun os started H enc _ => fnPolyMul128_lifted os started H enc)
theorem fnPolyMul128_w : Rows.fnPolyMul128Row.wfByText (OpenSpec.ofChange Rows.fnPolyMul128Spec) = true := by kernel_rfl
theorem fnPolyMul128_main1 : Tryd.pinned.checked.prog.mainIs = some (Rows.fnPolyMul128Card.stood.harness.1, Rows.fnPolyMul128Card.stood.harness.2.toList) := main1.trans (by kernel_rfl)
theorem fnPolyMul128_goes : false = Rows.fnPolyMul128Row.goesBy Tryd.pinned.checked.prog := by kernel_rfl
theorem fnPolyMul128_har : (!Rows.fnPolyMul128Card.stood.harness.1 && Rows.fnPolyMul128Card.stood.harness.2.isEmpty && !false) = false := by kernel_rfl
theorem fnPolyMul128_hl : ∀ f fn, Tryd.pinned.checked.prog.funcNamed Rows.fnPolyMul128Row.func = some f → Tryd.pinned.checked.prog.funcs[f]? = some fn → false = Tryd.pinned.checked.prog.looks [] ∧ ∀ (j : Nat) t, fn.params[j]? = some t → Tryd.pinned.checked.prog.wantsStandIn t = false := fun f fn hf hfn => by
  obtain rfl : f = 20 := (Option.some.inj (fnPolyMul128_named.symm.trans hf)).symm
  obtain rfl : fn = Tryd.f20 := (Option.some.inj (Tryd.func20.symm.trans hfn)).symm
  exact ⟨looks1, fun j t ht => by
    rw [Tryd.params20] at ht
    have hm : t ∈ [47, 47, 3] := by simpa using Array.mem_of_getElem? ht
    have hall : ([47, 47, 3].all fun u => !Tryd.pinned.checked.prog.wantsStandIn u) = true := by kernel_rfl
    exact (show Tryd.pinned.checked.prog.wantsStandIn t = false by simpa using List.all_eq_true.1 hall t hm)⟩
theorem fnPolyMul128Card_holds : Rows.FnPolyMul128CardSaid :=
  Claim7.holds_tied_plain_at .later [] Rows.fnPolyMul128Card.laidKinds true Rows.fnPolyMul128Card.stood.harness false
    fnPolyMul128_holds (fun _ h => by cases h) fnPolyMul128_w (fun _ h => by cases h) fnPolyMul128_row_tie rfl ⟨rfl, rfl⟩ fnPolyMul128_main1 fnPolyMul128_har fnPolyMul128_hl fnPolyMul128_goes
#print axioms fnPolyMul128Card_holds
end Go.Proofs.YtgdfdkpkhjbibaaDoor
