/-
  Products of polynomials by every road (written by genpo.py).
-/
import Derived.Test.YtgdfdkpkhjbibaaDoorPn
namespace Go.Proofs.YtgdfdkpkhjbibaaDoor
open Go.RowKit

set_option maxRecDepth 100000 in
theorem polyMul_any {x u r : List Nat} {b k0 c0 : Nat} {ad1 ad2 : Option Addr} {d1 o1 c1 d2 o2 c2 : Nat} {w0 : World} (h0 : w0.heap[b]? = some (.cells (flat fpC r) 81 (0, 0))) (hr : r.length = k0) (hk0 : k0 = (x.length + u.length - 1)) (h1 : 0 < x.length) (hs1 : SlA fpC 2 w0 ad1 d1 o1 x) (hp1 : AllLt x) (hs2 : SlA fpC 2 w0 ad2 d2 o2 u) (hp2 : AllLt u) (hn1 : d1 ≠ b) (hn2 : d2 ≠ b) (hl : x.length + u.length ≤ 65) :
    Calls Tryd.prog 101 #[.slice (some ⟨b, 0, none⟩) k0 c0, .slice ad1 x.length c1, .slice ad2 u.length c2] w0 fun e w' => e = .returned (.tuple #[]) ∧ Hold (fun k => k == b) w0 [(b, .cells (flat fpC (prodL x u)) 81 (0, 0))] w' := by
  refine calls_H (args := [.slice (some ⟨b, 0, none⟩) k0 c0, .slice ad1 x.length c1, .slice ad2 u.length c2]) (fun k => k == b) [(b, .cells (flat fpC r) 81 (0, 0))] Tryd.func101 rfl (m := 21) rfl rfl (hold_one h0) ?_
  refine HC.seq ?_
  refine HC.region ?_
  refine HL.val (Val.move rfl) (by decide) ?_
  refine HL.val (Val.lenS rfl rfl Tryd.underlying102) (by decide) ?_
  refine HL.val (Val.move rfl) (by decide) ?_
  refine HL.val (Val.lenS rfl rfl Tryd.underlying102) (by decide) ?_
  refine HL.val ((Val.addI rfl rfl).as (congrArg (Value.int .i64) (addN x.length u.length (by omega)))) (by decide) ?_
  refine HL.val ((Val.subI rfl rfl).as (congrArg (Value.int .i64) (sub1N (by omega) (by omega)))) (by decide) ?_
  refine HL.val ((Val.lss rfl rfl).as (congrArg Value.bool ((lssN (x.length + u.length - 1) 128).trans (decide_eq_true (by omega))))) (by decide) ?_
  refine HL.nil ?_
  refine HQ.next ?_
  refine HC.yes rfl ?_
  refine HC.region ?_
  refine HL.val (Val.move rfl) (by decide) ?_
  refine HL.val (Val.move rfl) (by decide) ?_
  refine HL.val (Val.move rfl) (by decide) ?_
  refine HL.callD en102 rfl (fun w1 hw => lift_one hw (i := 0) rfl (ownB b) (mulSq_any (hw.at (i := 0) rfl) hr hk0 h1 (hs1.sn szE hw.sn (beq_false_of_ne hn1)) hp1 (hs2.sn szE hw.sn (beq_false_of_ne hn2)) hp2 hn1 hn2 (by omega))) (by decide) ?_
  simp only [List.set_cons_zero]
  refine HL.nil ?_
  exact HQ.end0 rfl (fun w hw => ⟨rfl, hw.pick [0] (by simp)⟩)

set_option maxRecDepth 100000 in
theorem ipmul0 {x u : List Nat} {ad1 ad2 : Option Addr} {d1 o1 c1 d2 o2 c2 : Nat} {w : World} (hg : GR w) (_ht : RT w) (_hd : DB w) (_hh : HF w) (hs1 : SlA (byA 16) 16 w ad1 d1 o1 x) (hp1 : AllLt x) (hs2 : SlA (byA 16) 16 w ad2 d2 o2 u) (hp2 : AllLt u) (h1 : 0 < x.length) (h2 : 0 < u.length) (hl : x.length + u.length ≤ 65) :
    Calls Tryd.prog 64 #[.slice ad1 x.length c1, .slice ad2 u.length c2, .int .i64 0] w fun e w' => ∃ r : Fam, True ∧ e = .returned (.tuple #[.slice (some ⟨r.1, 0, none⟩) (x.length + u.length - 1) (x.length + u.length - 1), .bool true]) ∧ Below w.heap.size w w' ∧ w.heap.size ≤ r.1 ∧ w'.heap[r.1]? = some (.cells (flat (byA 16) (prodL x u)) 30 (0, 0)) := by
  refine calls_H (args := [.slice ad1 x.length c1, .slice ad2 u.length c2, .int .i64 0]) (noD) [] Tryd.func64 rfl (m := 67) rfl rfl (hold_nil _ _) ?_
  refine HC.seq ?_
  refine HC.region ?_
  refine HL.val (Val.assign rfl) (by decide) ?_
  refine HL.val (Val.assign rfl) (by decide) ?_
  refine HL.nil ?_
  refine HQ.next ?_
  refine HC.seq ?_
  refine HC.region ?_
  refine HL.val (Val.move rfl) (by decide) ?_
  refine HL.fam (FamV.call (R := fun r => True) (ob := fun r => .cells (flat fpC x) 81 (0, 0)) (pv := fun r => .tuple #[.slice (some ⟨r.1, 0, none⟩) x.length x.length, .bool true]) en81 (fun w hw => list_good (hg.sn hw.sn rfl) (hs1.sn szBy hw.sn rfl) hp1 (by omega)) rfl) (fun _ h => by cases h) (by decide) ?_
  intro b1 c1 q1 r1 hb1
  dsimp only
  refine HL.val (Val.move rfl) (by decide) ?_
  refine HL.val (Val.extract rfl rfl) (by decide) ?_
  refine HL.val (Val.extract rfl rfl) (by decide) ?_
  refine HL.val (Val.assign rfl) (by decide) ?_
  refine HL.val (Val.assign rfl) (by decide) ?_
  refine HL.nil ?_
  refine HQ.next ?_
  refine HC.seq ?_
  refine HC.region ?_
  refine HL.val (Val.move rfl) (by decide) ?_
  refine HL.fam (FamV.call (R := fun r => True) (ob := fun r => .cells (flat fpC u) 81 (0, 0)) (pv := fun r => .tuple #[.slice (some ⟨r.1, 0, none⟩) u.length u.length, .bool true]) en81 (fun w hw => list_good (hg.sn hw.sn rfl) (hs2.sn szBy hw.sn rfl) hp2 (by omega)) rfl) (fun _ h => by cases h) (by decide) ?_
  intro b2 c2 q2 r2 hb2
  dsimp only
  refine HL.val (Val.move rfl) (by decide) ?_
  refine HL.val (Val.extract rfl rfl) (by decide) ?_
  refine HL.val (Val.extract rfl rfl) (by decide) ?_
  refine HL.val (Val.assign rfl) (by decide) ?_
  refine HL.val (Val.assign rfl) (by decide) ?_
  refine HL.nil ?_
  refine HQ.next ?_
  refine HC.seq ?_
  refine HC.seq ?_
  refine HC.region ?_
  refine HL.val (Val.move rfl) (by decide) ?_
  refine HL.val (Val.not rfl) (by decide) ?_
  refine HL.val (Val.move rfl) (by decide) ?_
  refine HL.valg rfl (Val.move rfl) (by decide) ?_
  refine HL.valg rfl (Val.not rfl) (by decide) ?_
  refine HL.val (Val.pickF rfl rfl) (by decide) ?_
  refine HL.val (Val.move rfl) (by decide) ?_
  refine HL.valg rfl (Val.move rfl) (by decide) ?_
  refine HL.valg rfl (Val.lenS rfl rfl Tryd.underlying47) (by decide) ?_
  refine HL.valg rfl ((Val.eqlI rfl rfl).as (congrArg Value.bool (eqlF0 h1))) (by decide) ?_
  refine HL.val (Val.pickF rfl rfl) (by decide) ?_
  refine HL.val (Val.move rfl) (by decide) ?_
  refine HL.valg rfl (Val.move rfl) (by decide) ?_
  refine HL.valg rfl (Val.lenS rfl rfl Tryd.underlying47) (by decide) ?_
  refine HL.valg rfl ((Val.eqlI rfl rfl).as (congrArg Value.bool (eqlF0 h2))) (by decide) ?_
  refine HL.val (Val.pickF rfl rfl) (by decide) ?_
  refine HL.nil ?_
  refine HQ.next ?_
  refine HC.no rfl ?_
  refine HC.skip ?_
  refine HQ.next ?_
  refine HC.seq ?_
  refine HC.region ?_
  refine HL.val (Val.move rfl) (by decide) ?_
  refine HL.val (Val.lenS rfl rfl Tryd.underlying47) (by decide) ?_
  refine HL.val (Val.move rfl) (by decide) ?_
  refine HL.val (Val.lenS rfl rfl Tryd.underlying47) (by decide) ?_
  refine HL.val ((Val.addI rfl rfl).as (congrArg (Value.int .i64) (addN x.length u.length (by omega)))) (by decide) ?_
  refine HL.val ((Val.subI rfl rfl).as (congrArg (Value.int .i64) (sub1N (by omega) (by omega)))) (by decide) ?_
  refine HL.new (New.make (s := 2) (by' := 16) (z := .agg (rawC 0)) (x.length + u.length - 1) rfl rfl Tryd.underlying102 (by kernel_rfl) (by kernel_rfl) (by kernel_rfl) (by omega) (by omega) made_els) (by decide) ?_
  intro b3 hb3
  refine HL.val (Val.assign rfl) (by decide) ?_
  refine HL.nil ?_
  refine HQ.next ?_
  refine HC.seq ?_
  refine HC.seq ?_
  refine HC.region ?_
  refine HL.val (Val.move rfl) (by decide) ?_
  refine HL.nil ?_
  refine HQ.next ?_
  refine HC.block ?_
  refine HC.seq ?_
  refine HC.region ?_
  refine HL.val ((Val.eqlI rfl rfl).as (congrArg Value.bool (show ((0 : Int) == 0) = true by decide))) (by decide) ?_
  refine HL.val (Val.assign rfl) (by decide) ?_
  refine HL.nil ?_
  refine HQ.next ?_
  refine HC.yes rfl ?_
  refine HC.region ?_
  refine HL.val (Val.move rfl) (by decide) ?_
  refine HL.val (Val.move rfl) (by decide) ?_
  refine HL.val (Val.move rfl) (by decide) ?_
  refine HL.callD en101 rfl (fun w1 hw => lift_one hw (i := 0) rfl (.inl hb3) (polyMul_any (hw.at (i := 0) rfl) List.length_replicate rfl h1 (SlA.of_row szE (hw.at (i := 2) rfl)) hp1 (SlA.of_row szE (hw.at (i := 1) rfl)) hp2 (nd_ne hw (i := 2) (j := 0) rfl rfl (by decide)) (nd_ne hw (i := 1) (j := 0) rfl rfl (by decide)) (by omega))) (by decide) ?_
  simp only [List.set_cons_zero]
  refine HL.nil ?_
  refine HQ.blockNormal ?_
  refine HQ.next ?_
  refine HC.seq ?_
  refine HC.region ?_
  refine HL.val (Val.move rfl) (by decide) ?_
  refine HL.fam (FamV.call (R := fun r => True) (ob := fun r => .cells (flat (byA 16) (prodL x u)) 30 (0, 0)) (pv := fun r => .slice (some ⟨r.1, 0, none⟩) (x.length + u.length - 1) (x.length + u.length - 1)) en82 (fun w hw => all_len (prodL_len x u) (SlA.of_row szE (hw.at (i := 0) rfl)) (prodL_lt x u) (by omega)) rfl) (fun _ h => by cases h) (by decide) ?_
  intro b4 c4 q4 r4 hb4
  dsimp only
  refine HL.val (Val.assign rfl) (by decide) ?_
  refine HL.val (Val.assign rfl) (by decide) ?_
  refine HL.nil ?_
  refine HQ.next ?_
  refine HC.ret ?_
  refine HQ.ret2 rfl rfl rfl (fun w hw => ?_)
  exact ⟨(b4, 0, #[]), trivial, rfl, hw.sn.pure, hb4, hw.at (i := 0) rfl⟩

set_option maxRecDepth 100000 in
theorem ipmul1 {x u : List Nat} {ad1 ad2 : Option Addr} {d1 o1 c1 d2 o2 c2 : Nat} {w : World} (hg : GR w) (_ht : RT w) (_hd : DB w) (_hh : HF w) (hs1 : SlA (byA 16) 16 w ad1 d1 o1 x) (hp1 : AllLt x) (hs2 : SlA (byA 16) 16 w ad2 d2 o2 u) (hp2 : AllLt u) (h1 : 0 < x.length) (h2 : 0 < u.length) (hl : x.length + u.length ≤ 65) :
    Calls Tryd.prog 64 #[.slice ad1 x.length c1, .slice ad2 u.length c2, .int .i64 1] w fun e w' => ∃ r : Fam, True ∧ e = .returned (.tuple #[.slice (some ⟨r.1, 0, none⟩) (x.length + u.length - 1) (x.length + u.length - 1), .bool true]) ∧ Below w.heap.size w w' ∧ w.heap.size ≤ r.1 ∧ w'.heap[r.1]? = some (.cells (flat (byA 16) (prodL x u)) 30 (0, 0)) := by
  refine calls_H (args := [.slice ad1 x.length c1, .slice ad2 u.length c2, .int .i64 1]) (noD) [] Tryd.func64 rfl (m := 67) rfl rfl (hold_nil _ _) ?_
  refine HC.seq ?_
  refine HC.region ?_
  refine HL.val (Val.assign rfl) (by decide) ?_
  refine HL.val (Val.assign rfl) (by decide) ?_
  refine HL.nil ?_
  refine HQ.next ?_
  refine HC.seq ?_
  refine HC.region ?_
  refine HL.val (Val.move rfl) (by decide) ?_
  refine HL.fam (FamV.call (R := fun r => True) (ob := fun r => .cells (flat fpC x) 81 (0, 0)) (pv := fun r => .tuple #[.slice (some ⟨r.1, 0, none⟩) x.length x.length, .bool true]) en81 (fun w hw => list_good (hg.sn hw.sn rfl) (hs1.sn szBy hw.sn rfl) hp1 (by omega)) rfl) (fun _ h => by cases h) (by decide) ?_
  intro b1 c1 q1 r1 hb1
  dsimp only
  refine HL.val (Val.move rfl) (by decide) ?_
  refine HL.val (Val.extract rfl rfl) (by decide) ?_
  refine HL.val (Val.extract rfl rfl) (by decide) ?_
  refine HL.val (Val.assign rfl) (by decide) ?_
  refine HL.val (Val.assign rfl) (by decide) ?_
  refine HL.nil ?_
  refine HQ.next ?_
  refine HC.seq ?_
  refine HC.region ?_
  refine HL.val (Val.move rfl) (by decide) ?_
  refine HL.fam (FamV.call (R := fun r => True) (ob := fun r => .cells (flat fpC u) 81 (0, 0)) (pv := fun r => .tuple #[.slice (some ⟨r.1, 0, none⟩) u.length u.length, .bool true]) en81 (fun w hw => list_good (hg.sn hw.sn rfl) (hs2.sn szBy hw.sn rfl) hp2 (by omega)) rfl) (fun _ h => by cases h) (by decide) ?_
  intro b2 c2 q2 r2 hb2
  dsimp only
  refine HL.val (Val.move rfl) (by decide) ?_
  refine HL.val (Val.extract rfl rfl) (by decide) ?_
  refine HL.val (Val.extract rfl rfl) (by decide) ?_
  refine HL.val (Val.assign rfl) (by decide) ?_
  refine HL.val (Val.assign rfl) (by decide) ?_
  refine HL.nil ?_
  refine HQ.next ?_
  refine HC.seq ?_
  refine HC.seq ?_
  refine HC.region ?_
  refine HL.val (Val.move rfl) (by decide) ?_
  refine HL.val (Val.not rfl) (by decide) ?_
  refine HL.val (Val.move rfl) (by decide) ?_
  refine HL.valg rfl (Val.move rfl) (by decide) ?_
  refine HL.valg rfl (Val.not rfl) (by decide) ?_
  refine HL.val (Val.pickF rfl rfl) (by decide) ?_
  refine HL.val (Val.move rfl) (by decide) ?_
  refine HL.valg rfl (Val.move rfl) (by decide) ?_
  refine HL.valg rfl (Val.lenS rfl rfl Tryd.underlying47) (by decide) ?_
  refine HL.valg rfl ((Val.eqlI rfl rfl).as (congrArg Value.bool (eqlF0 h1))) (by decide) ?_
  refine HL.val (Val.pickF rfl rfl) (by decide) ?_
  refine HL.val (Val.move rfl) (by decide) ?_
  refine HL.valg rfl (Val.move rfl) (by decide) ?_
  refine HL.valg rfl (Val.lenS rfl rfl Tryd.underlying47) (by decide) ?_
  refine HL.valg rfl ((Val.eqlI rfl rfl).as (congrArg Value.bool (eqlF0 h2))) (by decide) ?_
  refine HL.val (Val.pickF rfl rfl) (by decide) ?_
  refine HL.nil ?_
  refine HQ.next ?_
  refine HC.no rfl ?_
  refine HC.skip ?_
  refine HQ.next ?_
  refine HC.seq ?_
  refine HC.region ?_
  refine HL.val (Val.move rfl) (by decide) ?_
  refine HL.val (Val.lenS rfl rfl Tryd.underlying47) (by decide) ?_
  refine HL.val (Val.move rfl) (by decide) ?_
  refine HL.val (Val.lenS rfl rfl Tryd.underlying47) (by decide) ?_
  refine HL.val ((Val.addI rfl rfl).as (congrArg (Value.int .i64) (addN x.length u.length (by omega)))) (by decide) ?_
  refine HL.val ((Val.subI rfl rfl).as (congrArg (Value.int .i64) (sub1N (by omega) (by omega)))) (by decide) ?_
  refine HL.new (New.make (s := 2) (by' := 16) (z := .agg (rawC 0)) (x.length + u.length - 1) rfl rfl Tryd.underlying102 (by kernel_rfl) (by kernel_rfl) (by kernel_rfl) (by omega) (by omega) made_els) (by decide) ?_
  intro b3 hb3
  refine HL.val (Val.assign rfl) (by decide) ?_
  refine HL.nil ?_
  refine HQ.next ?_
  refine HC.seq ?_
  refine HC.seq ?_
  refine HC.region ?_
  refine HL.val (Val.move rfl) (by decide) ?_
  refine HL.nil ?_
  refine HQ.next ?_
  refine HC.block ?_
  refine HC.seq ?_
  refine HC.region ?_
  refine HL.val ((Val.eqlI rfl rfl).as (congrArg Value.bool (show ((1 : Int) == 0) = false by decide))) (by decide) ?_
  refine HL.val (Val.assign rfl) (by decide) ?_
  refine HL.nil ?_
  refine HQ.next ?_
  refine HC.no rfl ?_
  refine HC.seq ?_
  refine HC.region ?_
  refine HL.val ((Val.eqlI rfl rfl).as (congrArg Value.bool (show ((1 : Int) == 1) = true by decide))) (by decide) ?_
  refine HL.val (Val.assign rfl) (by decide) ?_
  refine HL.nil ?_
  refine HQ.next ?_
  refine HC.yes rfl ?_
  refine HC.region ?_
  refine HL.val (Val.move rfl) (by decide) ?_
  refine HL.val (Val.move rfl) (by decide) ?_
  refine HL.val (Val.move rfl) (by decide) ?_
  refine HL.callD en102 rfl (fun w1 hw => lift_one hw (i := 0) rfl (.inl hb3) (mulSq_any (hw.at (i := 0) rfl) List.length_replicate rfl h1 (SlA.of_row szE (hw.at (i := 2) rfl)) hp1 (SlA.of_row szE (hw.at (i := 1) rfl)) hp2 (nd_ne hw (i := 2) (j := 0) rfl rfl (by decide)) (nd_ne hw (i := 1) (j := 0) rfl rfl (by decide)) (by omega))) (by decide) ?_
  simp only [List.set_cons_zero]
  refine HL.nil ?_
  refine HQ.blockNormal ?_
  refine HQ.next ?_
  refine HC.seq ?_
  refine HC.region ?_
  refine HL.val (Val.move rfl) (by decide) ?_
  refine HL.fam (FamV.call (R := fun r => True) (ob := fun r => .cells (flat (byA 16) (prodL x u)) 30 (0, 0)) (pv := fun r => .slice (some ⟨r.1, 0, none⟩) (x.length + u.length - 1) (x.length + u.length - 1)) en82 (fun w hw => all_len (prodL_len x u) (SlA.of_row szE (hw.at (i := 0) rfl)) (prodL_lt x u) (by omega)) rfl) (fun _ h => by cases h) (by decide) ?_
  intro b4 c4 q4 r4 hb4
  dsimp only
  refine HL.val (Val.assign rfl) (by decide) ?_
  refine HL.val (Val.assign rfl) (by decide) ?_
  refine HL.nil ?_
  refine HQ.next ?_
  refine HC.ret ?_
  refine HQ.ret2 rfl rfl rfl (fun w hw => ?_)
  exact ⟨(b4, 0, #[]), trivial, rfl, hw.sn.pure, hb4, hw.at (i := 0) rfl⟩

set_option maxRecDepth 100000 in
theorem ipmul2 {x u : List Nat} {ad1 ad2 : Option Addr} {d1 o1 c1 d2 o2 c2 : Nat} {w : World} (hg : GR w) (ht : RT w) (hd : DB w) (hh : HF w) (hs1 : SlA (byA 16) 16 w ad1 d1 o1 x) (hp1 : AllLt x) (hs2 : SlA (byA 16) 16 w ad2 d2 o2 u) (hp2 : AllLt u) (h1 : 0 < x.length) (h2 : 0 < u.length) (hl : x.length + u.length ≤ 65) :
    Calls Tryd.prog 64 #[.slice ad1 x.length c1, .slice ad2 u.length c2, .int .i64 2] w fun e w' => ∃ r : Fam, True ∧ e = .returned (.tuple #[.slice (some ⟨r.1, 0, none⟩) (x.length + u.length - 1) (x.length + u.length - 1), .bool true]) ∧ Below w.heap.size w w' ∧ w.heap.size ≤ r.1 ∧ w'.heap[r.1]? = some (.cells (flat (byA 16) (prodL x u)) 30 (0, 0)) := by
  refine calls_H (args := [.slice ad1 x.length c1, .slice ad2 u.length c2, .int .i64 2]) (noD) [] Tryd.func64 rfl (m := 67) rfl rfl (hold_nil _ _) ?_
  refine HC.seq ?_
  refine HC.region ?_
  refine HL.val (Val.assign rfl) (by decide) ?_
  refine HL.val (Val.assign rfl) (by decide) ?_
  refine HL.nil ?_
  refine HQ.next ?_
  refine HC.seq ?_
  refine HC.region ?_
  refine HL.val (Val.move rfl) (by decide) ?_
  refine HL.fam (FamV.call (R := fun r => True) (ob := fun r => .cells (flat fpC x) 81 (0, 0)) (pv := fun r => .tuple #[.slice (some ⟨r.1, 0, none⟩) x.length x.length, .bool true]) en81 (fun w hw => list_good (hg.sn hw.sn rfl) (hs1.sn szBy hw.sn rfl) hp1 (by omega)) rfl) (fun _ h => by cases h) (by decide) ?_
  intro b1 c1 q1 r1 hb1
  dsimp only
  refine HL.val (Val.move rfl) (by decide) ?_
  refine HL.val (Val.extract rfl rfl) (by decide) ?_
  refine HL.val (Val.extract rfl rfl) (by decide) ?_
  refine HL.val (Val.assign rfl) (by decide) ?_
  refine HL.val (Val.assign rfl) (by decide) ?_
  refine HL.nil ?_
  refine HQ.next ?_
  refine HC.seq ?_
  refine HC.region ?_
  refine HL.val (Val.move rfl) (by decide) ?_
  refine HL.fam (FamV.call (R := fun r => True) (ob := fun r => .cells (flat fpC u) 81 (0, 0)) (pv := fun r => .tuple #[.slice (some ⟨r.1, 0, none⟩) u.length u.length, .bool true]) en81 (fun w hw => list_good (hg.sn hw.sn rfl) (hs2.sn szBy hw.sn rfl) hp2 (by omega)) rfl) (fun _ h => by cases h) (by decide) ?_
  intro b2 c2 q2 r2 hb2
  dsimp only
  refine HL.val (Val.move rfl) (by decide) ?_
  refine HL.val (Val.extract rfl rfl) (by decide) ?_
  refine HL.val (Val.extract rfl rfl) (by decide) ?_
  refine HL.val (Val.assign rfl) (by decide) ?_
  refine HL.val (Val.assign rfl) (by decide) ?_
  refine HL.nil ?_
  refine HQ.next ?_
  refine HC.seq ?_
  refine HC.seq ?_
  refine HC.region ?_
  refine HL.val (Val.move rfl) (by decide) ?_
  refine HL.val (Val.not rfl) (by decide) ?_
  refine HL.val (Val.move rfl) (by decide) ?_
  refine HL.valg rfl (Val.move rfl) (by decide) ?_
  refine HL.valg rfl (Val.not rfl) (by decide) ?_
  refine HL.val (Val.pickF rfl rfl) (by decide) ?_
  refine HL.val (Val.move rfl) (by decide) ?_
  refine HL.valg rfl (Val.move rfl) (by decide) ?_
  refine HL.valg rfl (Val.lenS rfl rfl Tryd.underlying47) (by decide) ?_
  refine HL.valg rfl ((Val.eqlI rfl rfl).as (congrArg Value.bool (eqlF0 h1))) (by decide) ?_
  refine HL.val (Val.pickF rfl rfl) (by decide) ?_
  refine HL.val (Val.move rfl) (by decide) ?_
  refine HL.valg rfl (Val.move rfl) (by decide) ?_
  refine HL.valg rfl (Val.lenS rfl rfl Tryd.underlying47) (by decide) ?_
  refine HL.valg rfl ((Val.eqlI rfl rfl).as (congrArg Value.bool (eqlF0 h2))) (by decide) ?_
  refine HL.val (Val.pickF rfl rfl) (by decide) ?_
  refine HL.nil ?_
  refine HQ.next ?_
  refine HC.no rfl ?_
  refine HC.skip ?_
  refine HQ.next ?_
  refine HC.seq ?_
  refine HC.region ?_
  refine HL.val (Val.move rfl) (by decide) ?_
  refine HL.val (Val.lenS rfl rfl Tryd.underlying47) (by decide) ?_
  refine HL.val (Val.move rfl) (by decide) ?_
  refine HL.val (Val.lenS rfl rfl Tryd.underlying47) (by decide) ?_
  refine HL.val ((Val.addI rfl rfl).as (congrArg (Value.int .i64) (addN x.length u.length (by omega)))) (by decide) ?_
  refine HL.val ((Val.subI rfl rfl).as (congrArg (Value.int .i64) (sub1N (by omega) (by omega)))) (by decide) ?_
  refine HL.new (New.make (s := 2) (by' := 16) (z := .agg (rawC 0)) (x.length + u.length - 1) rfl rfl Tryd.underlying102 (by kernel_rfl) (by kernel_rfl) (by kernel_rfl) (by omega) (by omega) made_els) (by decide) ?_
  intro b3 hb3
  refine HL.val (Val.assign rfl) (by decide) ?_
  refine HL.nil ?_
  refine HQ.next ?_
  refine HC.seq ?_
  refine HC.seq ?_
  refine HC.region ?_
  refine HL.val (Val.move rfl) (by decide) ?_
  refine HL.nil ?_
  refine HQ.next ?_
  refine HC.block ?_
  refine HC.seq ?_
  refine HC.region ?_
  refine HL.val ((Val.eqlI rfl rfl).as (congrArg Value.bool (show ((2 : Int) == 0) = false by decide))) (by decide) ?_
  refine HL.val (Val.assign rfl) (by decide) ?_
  refine HL.nil ?_
  refine HQ.next ?_
  refine HC.no rfl ?_
  refine HC.seq ?_
  refine HC.region ?_
  refine HL.val ((Val.eqlI rfl rfl).as (congrArg Value.bool (show ((2 : Int) == 1) = false by decide))) (by decide) ?_
  refine HL.val (Val.assign rfl) (by decide) ?_
  refine HL.nil ?_
  refine HQ.next ?_
  refine HC.no rfl ?_
  refine HC.seq ?_
  refine HC.region ?_
  refine HL.val ((Val.eqlI rfl rfl).as (congrArg Value.bool (show ((2 : Int) == 2) = true by decide))) (by decide) ?_
  refine HL.val (Val.assign rfl) (by decide) ?_
  refine HL.nil ?_
  refine HQ.next ?_
  refine HC.yes rfl ?_
  refine HC.region ?_
  refine HL.val (Val.move rfl) (by decide) ?_
  refine HL.val (Val.move rfl) (by decide) ?_
  refine HL.val (Val.move rfl) (by decide) ?_
  refine HL.callD en103 rfl (fun w1 hw => lift_one hw (i := 0) rfl (.inl hb3) (mulLog_any (ht.sn hw.sn rfl) (hd.sn hw.sn rfl) (hh.sn hw.sn rfl) (hw.at (i := 0) rfl) List.length_replicate rfl h1 h2 (SlA.of_row szE (hw.at (i := 2) rfl)) hp1 (SlA.of_row szE (hw.at (i := 1) rfl)) hp2 (nd_ne hw (i := 2) (j := 0) rfl rfl (by decide)) (nd_ne hw (i := 1) (j := 0) rfl rfl (by decide)) (Nat.ne_of_lt (Nat.lt_of_lt_of_le ht.lt hb3)) (Nat.ne_of_lt (Nat.lt_of_lt_of_le (db_lt hd) hb3)) (Nat.ne_of_lt (Nat.lt_of_lt_of_le hh.lt hb3)) (by omega))) (by decide) ?_
  simp only [List.set_cons_zero]
  refine HL.nil ?_
  refine HQ.blockNormal ?_
  refine HQ.next ?_
  refine HC.seq ?_
  refine HC.region ?_
  refine HL.val (Val.move rfl) (by decide) ?_
  refine HL.fam (FamV.call (R := fun r => True) (ob := fun r => .cells (flat (byA 16) (prodL x u)) 30 (0, 0)) (pv := fun r => .slice (some ⟨r.1, 0, none⟩) (x.length + u.length - 1) (x.length + u.length - 1)) en82 (fun w hw => all_len (prodL_len x u) (SlA.of_row szE (hw.at (i := 0) rfl)) (prodL_lt x u) (by omega)) rfl) (fun _ h => by cases h) (by decide) ?_
  intro b4 c4 q4 r4 hb4
  dsimp only
  refine HL.val (Val.assign rfl) (by decide) ?_
  refine HL.val (Val.assign rfl) (by decide) ?_
  refine HL.nil ?_
  refine HQ.next ?_
  refine HC.ret ?_
  refine HQ.ret2 rfl rfl rfl (fun w hw => ?_)
  exact ⟨(b4, 0, #[]), trivial, rfl, hw.sn.pure, hb4, hw.at (i := 0) rfl⟩
end Go.Proofs.YtgdfdkpkhjbibaaDoor
