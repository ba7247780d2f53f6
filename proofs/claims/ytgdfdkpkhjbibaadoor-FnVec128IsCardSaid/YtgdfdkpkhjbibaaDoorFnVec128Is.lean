/-
  FnVec128Is: whatever the input, the law answers true (written by laws2.py).
  Conditions: the package variables that the row lists read as listed (the card ties them to the program's text).
-/
import Derived.Test.YtgdfdkpkhjbibaaDoorVd
import Derived.Test.YtgdfdkpkhjbibaaDoorTie
import Derived.Test.YtgdfdkpkhjbibaaDoorCards
import Derived.SevenTiedAt
namespace Go.Proofs.YtgdfdkpkhjbibaaDoor
open Go.ChangeShapes Go.WideShapes Go.ChangeAt Go.WideElems Go.RowKit
theorem infoS : (Tryd.prog.info? 47).bind (·.zero) = some (.slice none 0 0) := by kernel_rfl
theorem fillS1 (a : Option Addr) (l c : Nat) : Instr.fill (fun i => some (i * 1, 1)) ((Array.range (1 * 1)).map ((Value.slice none 0 0).cells[· % (Value.slice none 0 0).cells.size]!)) [(0, .slice a l c)] = some #[.slice a l c] := by kernel_rfl
theorem fillS2 (a : Option Addr) (l c : Nat) (a2 : Option Addr) (l2 c2 : Nat) : Instr.fill (fun i => some (i * 1, 1)) ((Array.range (2 * 1)).map ((Value.slice none 0 0).cells[· % (Value.slice none 0 0).cells.size]!)) [(0, .slice a l c), (1, .slice a2 l2 c2)] = some #[.slice a l c, .slice a2 l2 c2] := by kernel_rfl
theorem neF {a : Nat} : (!decide (a = a)) = false := by simp
theorem row_map {f : Nat → Nat} {m k : Nat} (h : k < m) : ∀ j, j < (byA 16 (f k)).size → (flat (byA 16) ((List.range m).map f))[k * 16 + j]? = (byA 16 (f k))[j]? := fun j hj => by
  have h2 := flat_get szBy (l := (List.range m).map f) (i := k) (by simpa using h) j (by rw [szBy] at hj ⊢; exact hj)
  rwa [mapR_get f h] at h2
set_option maxRecDepth 100000 in
theorem main_w {adx : Option Addr} {bx ox cx : Nat} {x : List Nat} {adu : Option Addr} {bu ou cu : Nat} {u : List Nat} {z : Nat} {w : World} (hg : GR w) (_nx : x.length ≤ 9223372036854775807) (hx : ∀ k, k < x.length → x.getD k 0 < 256 ^ 16) (sx : SlA (byA 16) 16 w adx bx ox x) (_nu : u.length ≤ 9223372036854775807) (hu : ∀ k, k < u.length → u.getD k 0 < 256 ^ 16) (su : SlA (byA 16) 16 w adu bu ou u) (hBz : z < 256 ^ 16) :
    Calls Tryd.prog 17 #[.slice adx x.length cx, .slice adu u.length cu, byV 16 z] w fun e w' => e = .returned (.bool true) ∧ Below w.heap.size w w' := by
  by_cases hzx : 2147483647 < x.length
  · refine calls_H (args := [.slice adx x.length cx, .slice adu u.length cu, byV 16 z]) noD [] Tryd.func17 rfl (m := 163) rfl rfl (hold_nil _ _) ?_
    refine HC.seq ?_
    refine HC.region ?_
    refine HL.new (New.box rfl) (by decide) ?_
    intro b1 hb1
    refine HL.val (Val.assign rfl) (by decide) ?_
    refine HL.nil ?_
    refine HQ.next ?_
    refine HC.seq ?_
    refine HC.seq ?_
    refine HC.region ?_
    refine HL.val (Val.move rfl) (by decide) ?_
    refine HL.val (Val.lenS rfl rfl Tryd.underlying47) (by decide) ?_
    refine HL.val ((Val.gtr rfl rfl).as (congrArg Value.bool ((lssN 2147483647 x.length).trans (decide_eq_true hzx)))) (by decide) ?_
    refine HL.val (Val.move rfl) (by decide) ?_
    refine HL.skip rfl (by decide) ?_
    refine HL.skip rfl (by decide) ?_
    refine HL.skip rfl (by decide) ?_
    refine HL.val (Val.pickT rfl rfl) (by decide) ?_
    refine HL.nil ?_
    refine HQ.next ?_
    refine HC.yes rfl ?_
    refine HC.seq ?_
    refine HC.region ?_
    refine HL.val (Val.assign rfl) (by decide) ?_
    refine HL.nil ?_
    refine HQ.next ?_
    refine HC.ret ?_
    refine HQ.thenRet ?_
    exact HQ.ret1 rfl rfl (pure_end rfl)
  by_cases hzu : 2147483647 < u.length
  · refine calls_H (args := [.slice adx x.length cx, .slice adu u.length cu, byV 16 z]) noD [] Tryd.func17 rfl (m := 163) rfl rfl (hold_nil _ _) ?_
    refine HC.seq ?_
    refine HC.region ?_
    refine HL.new (New.box rfl) (by decide) ?_
    intro b1 hb1
    refine HL.val (Val.assign rfl) (by decide) ?_
    refine HL.nil ?_
    refine HQ.next ?_
    refine HC.seq ?_
    refine HC.seq ?_
    refine HC.region ?_
    refine HL.val (Val.move rfl) (by decide) ?_
    refine HL.val (Val.lenS rfl rfl Tryd.underlying47) (by decide) ?_
    refine HL.val ((Val.gtr rfl rfl).as (congrArg Value.bool ((lssN 2147483647 x.length).trans (decide_eq_false hzx)))) (by decide) ?_
    refine HL.val (Val.move rfl) (by decide) ?_
    refine HL.valg rfl (Val.move rfl) (by decide) ?_
    refine HL.valg rfl (Val.lenS rfl rfl Tryd.underlying47) (by decide) ?_
    refine HL.valg rfl ((Val.gtr rfl rfl).as (congrArg Value.bool ((lssN 2147483647 u.length).trans (decide_eq_true hzu)))) (by decide) ?_
    refine HL.val (Val.pickF rfl rfl) (by decide) ?_
    refine HL.nil ?_
    refine HQ.next ?_
    refine HC.yes rfl ?_
    refine HC.seq ?_
    refine HC.region ?_
    refine HL.val (Val.assign rfl) (by decide) ?_
    refine HL.nil ?_
    refine HQ.next ?_
    refine HC.ret ?_
    refine HQ.thenRet ?_
    exact HQ.ret1 rfl rfl (pure_end rfl)
  by_cases hf : Few x ∧ Few u
  · have hfx := hf.1
    have hfu := hf.2
    have hpx := allLt_of hfx.2
    have hlx : x.length ≤ 100000 := Nat.le_trans hfx.1 (by decide)
    have hpu := allLt_of hfu.2
    have hlu : u.length ≤ 100000 := Nat.le_trans hfu.1 (by decide)
    by_cases hz : z < pf
    · by_cases hlm : x.length = u.length
      · refine calls_H (args := [.slice adx x.length cx, .slice adu u.length cu, byV 16 z]) noD [] Tryd.func17 rfl (m := 163) rfl rfl (hold_nil _ _) ?_
        refine HC.seq ?_
        refine HC.region ?_
        refine HL.new (New.box rfl) (by decide) ?_
        intro b1 hb1
        refine HL.val (Val.assign rfl) (by decide) ?_
        refine HL.nil ?_
        refine HQ.next ?_
        refine HC.seq ?_
        refine HC.seq ?_
        refine HC.region ?_
        refine HL.val (Val.move rfl) (by decide) ?_
        refine HL.val (Val.lenS rfl rfl Tryd.underlying47) (by decide) ?_
        refine HL.val ((Val.gtr rfl rfl).as (congrArg Value.bool ((lssN 2147483647 x.length).trans (decide_eq_false hzx)))) (by decide) ?_
        refine HL.val (Val.move rfl) (by decide) ?_
        refine HL.valg rfl (Val.move rfl) (by decide) ?_
        refine HL.valg rfl (Val.lenS rfl rfl Tryd.underlying47) (by decide) ?_
        refine HL.valg rfl ((Val.gtr rfl rfl).as (congrArg Value.bool ((lssN 2147483647 u.length).trans (decide_eq_false hzu)))) (by decide) ?_
        refine HL.val (Val.pickF rfl rfl) (by decide) ?_
        refine HL.nil ?_
        refine HQ.next ?_
        refine HC.no rfl ?_
        refine HC.skip ?_
        refine HQ.next ?_
        refine HC.seq ?_
        refine HC.seq ?_
        refine HC.region ?_
        refine HL.val (Val.move rfl) (by decide) ?_
        refine HL.val (Val.move rfl) (by decide) ?_
        refine HL.new (New.bslice (s := 1) rfl Tryd.underlying97 (by kernel_rfl) infoS (by decide) (by decide) (fillS2 adx x.length cx adu u.length cu)) (by decide) ?_
        intro b2 hb2
        refine HL.val ((Val.calls en34 (fun w hw => few2_any (hw.at (i := 0) rfl) (sx.sn szBy hw.sn rfl) hx (su.sn szBy hw.sn rfl) hu) rfl).as (congrArg Value.bool (decide_eq_true hf))) (by decide) ?_
        refine HL.val (Val.not rfl) (by decide) ?_
        refine HL.val (Val.move rfl) (by decide) ?_
        refine HL.valg rfl (Val.load_row rfl (fun w hw => hw.at (i := 1) rfl) Tryd.underlying30 rfl (by kernel_rfl)) (by decide) ?_
        refine HL.newg rfl (New.bslice rfl Tryd.underlying47 (by kernel_rfl) info30 (by decide) (by decide) (fill1 z)) (by decide) ?_
        intro b3 hb3
        refine HL.valg rfl ((Val.calls en25 (fun w hw => has_any (l := [z]) (hw.at (i := 0) rfl) (fun k hk => by match k, hk with | 0, _ => exact (pf_by hz)) (show 1 < 4611686018427387904 from by decide)) rfl).as (v := .bool true) (congrArg Value.bool (by simpa using hz))) (by decide) ?_
        refine HL.valg rfl (Val.not rfl) (by decide) ?_
        refine HL.val (Val.pickF rfl rfl) (by decide) ?_
        refine HL.val (Val.move rfl) (by decide) ?_
        refine HL.valg rfl (Val.move rfl) (by decide) ?_
        refine HL.valg rfl (Val.lenS rfl rfl Tryd.underlying47) (by decide) ?_
        refine HL.valg rfl (Val.move rfl) (by decide) ?_
        refine HL.valg rfl (Val.lenS rfl rfl Tryd.underlying47) (by decide) ?_
        refine HL.valg rfl ((Val.neqI rfl rfl).as (congrArg Value.bool (neqL hlm))) (by decide) ?_
        refine HL.val (Val.pickF rfl rfl) (by decide) ?_
        refine HL.nil ?_
        refine HQ.next ?_
        refine HC.no rfl ?_
        refine HC.skip ?_
        refine HQ.next ?_
        refine HC.seq ?_
        refine HC.region ?_
        refine HL.val (Val.move rfl) (by decide) ?_
        refine HL.val (Val.move rfl) (by decide) ?_
        refine HL.fam (FamV.call (R := fun r => True) (ob := fun r => .cells (flat (byA 16) ((List.range x.length).map fun i => (x.getD i 0 + u.getD i 0) % pf)) 30 (0, 0)) (pv := fun r => .tuple #[.slice (some ⟨r.1, 0, none⟩) x.length x.length, .bool true]) en55 (fun w hw => iVecAdd_good (hg.sn hw.sn rfl) (sx.sn szBy hw.sn rfl) hpx hlx (su.sn szBy hw.sn rfl) hpu hlu hlm) rfl) (fun _ h => by cases h) (by decide) ?_
        intro b4 c4 q4 r4 hb4
        dsimp only
        refine HL.val (Val.move rfl) (by decide) ?_
        refine HL.val (Val.extract rfl rfl) (by decide) ?_
        refine HL.val (Val.extract rfl rfl) (by decide) ?_
        refine HL.val (Val.assign rfl) (by decide) ?_
        refine HL.val (Val.assign rfl) (by decide) ?_
        refine HL.nil ?_
        refine HQ.next ?_
        refine HC.seq ?_
        refine HC.region ?_
        refine HL.val (Val.move rfl) (by decide) ?_
        refine HL.val (Val.move rfl) (by decide) ?_
        refine HL.fam (FamV.call (R := fun r => True) (ob := fun r => .cells (flat (byA 16) ((List.range x.length).map fun i => subF (x.getD i 0) (u.getD i 0))) 30 (0, 0)) (pv := fun r => .tuple #[.slice (some ⟨r.1, 0, none⟩) x.length x.length, .bool true]) en56 (fun w hw => iVecSub_good (hg.sn hw.sn rfl) (sx.sn szBy hw.sn rfl) hpx hlx (su.sn szBy hw.sn rfl) hpu hlu hlm) rfl) (fun _ h => by cases h) (by decide) ?_
        intro b5 c5 q5 r5 hb5
        dsimp only
        refine HL.val (Val.move rfl) (by decide) ?_
        refine HL.val (Val.extract rfl rfl) (by decide) ?_
        refine HL.val (Val.extract rfl rfl) (by decide) ?_
        refine HL.val (Val.assign rfl) (by decide) ?_
        refine HL.val (Val.assign rfl) (by decide) ?_
        refine HL.nil ?_
        refine HQ.next ?_
        refine HC.seq ?_
        refine HC.region ?_
        refine HL.val (Val.move rfl) (by decide) ?_
        refine HL.val (Val.load_row rfl (fun w hw => hw.at (i := 4) rfl) Tryd.underlying30 rfl (by kernel_rfl)) (by decide) ?_
        refine HL.fam (FamV.call (R := fun r => True) (ob := fun r => .cells (flat (byA 16) ((List.range x.length).map fun i => x.getD i 0 * z % pf)) 30 (0, 0)) (pv := fun r => .tuple #[.slice (some ⟨r.1, 0, none⟩) x.length x.length, .bool true]) en57 (fun w hw => iVecScale_good (hg.sn hw.sn rfl) (sx.sn szBy hw.sn rfl) hpx hlx hz) rfl) (fun _ h => by cases h) (by decide) ?_
        intro b6 c6 q6 r6 hb6
        dsimp only
        refine HL.val (Val.move rfl) (by decide) ?_
        refine HL.val (Val.extract rfl rfl) (by decide) ?_
        refine HL.val (Val.extract rfl rfl) (by decide) ?_
        refine HL.val (Val.assign rfl) (by decide) ?_
        refine HL.val (Val.assign rfl) (by decide) ?_
        refine HL.nil ?_
        refine HQ.next ?_
        refine HC.seq ?_
        refine HC.region ?_
        refine HL.val (Val.move rfl) (by decide) ?_
        refine HL.val (Val.move rfl) (by decide) ?_
        refine HL.val (Val.calls en58 (fun w hw => iDot_good (hg.sn hw.sn rfl) (sx.sn szBy hw.sn rfl) hpx hlx (su.sn szBy hw.sn rfl) hpu hlu hlm) rfl) (by decide) ?_
        refine HL.val (Val.move rfl) (by decide) ?_
        refine HL.val (Val.extract rfl rfl) (by decide) ?_
        refine HL.val (Val.extract rfl rfl) (by decide) ?_
        refine HL.new (New.alloc al30) (by decide) ?_
        intro b7 hb7
        refine HL.put 0 rfl (Put.row rfl rfl (by kernel_rfl) (szB _ _ _) (oneB _ _)) (.inl hb7) ?_
        simp only [List.set_cons_zero]
        refine HL.val (Val.assign rfl) (by decide) ?_
        refine HL.nil ?_
        refine HQ.next ?_
        refine HC.seq ?_
        refine HC.seq ?_
        refine HC.region ?_
        refine HL.val (Val.move rfl) (by decide) ?_
        refine HL.val (Val.not rfl) (by decide) ?_
        refine HL.val (Val.move rfl) (by decide) ?_
        refine HL.valg rfl (Val.move rfl) (by decide) ?_
        refine HL.valg rfl (Val.not rfl) (by decide) ?_
        refine HL.val (Val.pickF rfl rfl) (by decide) ?_
        refine HL.val (Val.move rfl) (by decide) ?_
        refine HL.valg rfl (Val.move rfl) (by decide) ?_
        refine HL.valg rfl (Val.not rfl) (by decide) ?_
        refine HL.val (Val.pickF rfl rfl) (by decide) ?_
        refine HL.val (Val.move rfl) (by decide) ?_
        refine HL.valg rfl (Val.move rfl) (by decide) ?_
        refine HL.valg rfl (Val.not rfl) (by decide) ?_
        refine HL.val (Val.pickF rfl rfl) (by decide) ?_
        refine HL.val (Val.move rfl) (by decide) ?_
        refine HL.valg rfl (Val.move rfl) (by decide) ?_
        refine HL.valg rfl (Val.lenS rfl rfl Tryd.underlying47) (by decide) ?_
        refine HL.valg rfl (Val.move rfl) (by decide) ?_
        refine HL.valg rfl (Val.lenS rfl rfl Tryd.underlying47) (by decide) ?_
        refine HL.valg rfl ((Val.neqI rfl rfl).as (congrArg Value.bool (neqL rfl))) (by decide) ?_
        refine HL.val (Val.pickF rfl rfl) (by decide) ?_
        refine HL.val (Val.move rfl) (by decide) ?_
        refine HL.valg rfl (Val.move rfl) (by decide) ?_
        refine HL.valg rfl (Val.lenS rfl rfl Tryd.underlying47) (by decide) ?_
        refine HL.valg rfl (Val.move rfl) (by decide) ?_
        refine HL.valg rfl (Val.lenS rfl rfl Tryd.underlying47) (by decide) ?_
        refine HL.valg rfl ((Val.neqI rfl rfl).as (congrArg Value.bool (neqL rfl))) (by decide) ?_
        refine HL.val (Val.pickF rfl rfl) (by decide) ?_
        refine HL.val (Val.move rfl) (by decide) ?_
        refine HL.valg rfl (Val.move rfl) (by decide) ?_
        refine HL.valg rfl (Val.lenS rfl rfl Tryd.underlying47) (by decide) ?_
        refine HL.valg rfl (Val.move rfl) (by decide) ?_
        refine HL.valg rfl (Val.lenS rfl rfl Tryd.underlying47) (by decide) ?_
        refine HL.valg rfl ((Val.neqI rfl rfl).as (congrArg Value.bool (neqL rfl))) (by decide) ?_
        refine HL.val (Val.pickF rfl rfl) (by decide) ?_
        refine HL.nil ?_
        refine HQ.next ?_
        refine HC.no rfl ?_
        refine HC.skip ?_
        refine HQ.next ?_
        refine HC.seq ?_
        refine HC.seq ?_
        refine HC.region ?_
        refine HL.val (Val.move rfl) (by decide) ?_
        refine HL.val (Val.lenS rfl rfl Tryd.underlying47) (by decide) ?_
        refine HL.val (Val.move rfl) (by decide) ?_
        refine HL.nil ?_
        refine HQ.next ?_
        refine HC.block ?_
        refine HC.loop (ι := {p : Nat // p ≤ x.length}) (fun p => x.length - p.1) (fun p => [(105, .int .i64 (p.1 : Int)), (104, .int .i64 (x.length : Int)), (0, .slice adx x.length cx), (1, .slice adu u.length cu), (5, .pointer (some ⟨b1, 0, none⟩)), (13, .pointer (some ⟨b7, 0, none⟩)), (7, .slice (some ⟨b4, 0, none⟩) x.length x.length), (9, .slice (some ⟨b5, 0, none⟩) x.length x.length), (11, .slice (some ⟨b6, 0, none⟩) x.length x.length)]) (fun p => [(b4, .cells (flat (byA 16) ((List.range x.length).map fun i => (x.getD i 0 + u.getD i 0) % pf)) 30 (0, 0)), (b5, .cells (flat (byA 16) ((List.range x.length).map fun i => subF (x.getD i 0) (u.getD i 0))) 30 (0, 0)), (b6, .cells (flat (byA 16) ((List.range x.length).map fun i => x.getD i 0 * z % pf)) 30 (0, 0)), (b1, .cells (byA 16 z) 30 (0, 0)), (b7, .cells (byA 16 (dotK x u x.length)) 30 (0, 0))]) ⟨0, Nat.zero_le _⟩ (fun ac wc ha hw => ⟨ha.subS ⟨rfl, rfl, rfl, rfl, rfl, rfl, rfl, rfl, rfl, trivial⟩, hw.pick [3, 2, 1, 6, 0] (by simp)⟩) ?_
        rintro ⟨k, hk⟩
        dsimp only
        refine HC.seq ?_
        refine HC.region ?_
        by_cases hkl : k < x.length
        · refine HL.val ((Val.lss rfl rfl).as (congrArg Value.bool ((lssN k x.length).trans (decide_eq_true hkl)))) (by decide) ?_
          refine HL.nil ?_
          refine HQ.next ?_
          refine HC.seq ?_
          refine HC.yes rfl ?_
          refine HC.skip ?_
          refine HQ.next ?_
          refine HC.seq ?_
          refine HC.block ?_
          refine HC.seq ?_
          refine HC.region ?_
          refine HL.val (Val.move rfl) (by decide) ?_
          refine HL.val (Val.assign rfl) (by decide) ?_
          refine HL.nil ?_
          refine HQ.next ?_
          refine HC.seq ?_
          refine HC.draw2 10 (by kernel_rfl) (by kernel_rfl) rfl rfl (by kernel_rfl) ?_
          simp only [List.take, List.drop]
          refine HV.val (Val.move rfl) (by decide) ?_
          refine HV.val (Val.move rfl) (by decide) ?_
          refine HV.val (Val.ixSliceA (s := 16) (i := k) (ox + k * 16) rfl (sx.at hkl) rfl Tryd.underlying47 (by kernel_rfl) hkl rfl) (by decide) ?_
          refine HV.val (Val.load_cells (byA 16 (x.getD k 0)) rfl (fun w hw => (sx.sn szBy hw.sn rfl).row szBy hkl) Tryd.underlying30 rfl (by kernel_rfl)) (by decide) ?_
          refine HV.val (Val.call en22 (n_p (pf_by (hpx.any k))) rfl) (by decide) ?_
          refine HV.val (Val.move rfl) (by decide) ?_
          refine HV.val (Val.move rfl) (by decide) ?_
          refine HV.val (Val.ixSliceA (s := 16) (i := k) (ou + k * 16) rfl (su.at (hlm ▸ hkl)) rfl Tryd.underlying47 (by kernel_rfl) (hlm ▸ hkl) rfl) (by decide) ?_
          refine HV.val (Val.load_cells (byA 16 (u.getD k 0)) rfl (fun w hw => (su.sn szBy hw.sn rfl).row szBy (hlm ▸ hkl)) Tryd.underlying30 rfl (by kernel_rfl)) (by decide) ?_
          refine HV.val (Val.call en22 (n_p (pf_by (hpu.any k))) rfl) (by decide) ?_
          refine HV.tail2 (New.alloc al25) (New.alloc al25) (by decide) (by decide) ?_
          intro b8 b9 hb8 hb9
          refine HL.put 1 rfl (Put.row rfl rfl (by kernel_rfl) rfl (wA_one _)) (.inl hb8) ?_
          simp only [List.set_cons_zero, List.set_cons_succ]
          refine HL.put 0 rfl (Put.row rfl rfl (by kernel_rfl) rfl (wA_one _)) (.inl hb9) ?_
          simp only [List.set_cons_zero]
          refine HL.nil ?_
          refine HQ.next ?_
          refine HC.seq ?_
          refine HC.draw0 34 (by kernel_rfl) (by kernel_rfl) ?_
          simp only [List.take, List.drop]
          refine HV.val (Val.move rfl) (by decide) ?_
          refine HV.val (Val.move rfl) (by decide) ?_
          refine HV.val (Val.ixSlice (s := 16) (i := k) (k * 16) rfl rfl Tryd.underlying47 (by kernel_rfl) hkl (by omega)) (by decide) ?_
          refine HV.val (Val.load_mid rfl (fun w hw => hw.at (i := 2) rfl) (byA 16 ((x.getD k 0 + u.getD k 0) % pf)) (row_map (f := fun i => (x.getD i 0 + u.getD i 0) % pf) hkl) Tryd.underlying30 rfl (by kernel_rfl)) (by decide) ?_
          refine HV.val (Val.call en22 (n_p (pf_by (Nat.mod_lt _ pf_pos))) rfl) (by decide) ?_
          refine HV.val (Val.call en21 (fl_p) rfl) (by decide) ?_
          refine HV.val (Val.load_row rfl (fun w hw => hw.at (i := 1) rfl) Tryd.underlying25 rfl (by kernel_rfl)) (by decide) ?_
          refine HV.val (Val.load_row rfl (fun w hw => hw.at (i := 0) rfl) Tryd.underlying25 rfl (by kernel_rfl)) (by decide) ?_
          refine HV.val (Val.call en41 (sadd_p ((x.getD k 0)) ((u.getD k 0)) (hpx.any k) (hpu.any k)) rfl) (by decide) ?_
          refine HV.val ((Val.neqA rfl rfl (by kernel_rfl) (neqW (lt_w (Nat.mod_lt _ pf_pos)) (lt_w (Nat.mod_lt _ pf_pos)))).as (congrArg Value.bool (neF))) (by decide) ?_
          refine HV.val (Val.move rfl) (by decide) ?_
          refine HV.valg rfl (Val.move rfl) (by decide) ?_
          refine HV.valg rfl (Val.move rfl) (by decide) ?_
          refine HV.valg rfl (Val.ixSlice (s := 16) (i := k) (k * 16) rfl rfl Tryd.underlying47 (by kernel_rfl) hkl (by omega)) (by decide) ?_
          refine HV.valg rfl (Val.load_mid rfl (fun w hw => hw.at (i := 3) rfl) (byA 16 (subF (x.getD k 0) (u.getD k 0))) (row_map (f := fun i => subF (x.getD i 0) (u.getD i 0)) hkl) Tryd.underlying30 rfl (by kernel_rfl)) (by decide) ?_
          refine HV.valg rfl (Val.call en22 (n_p (pf_by (subF_lt _ _))) rfl) (by decide) ?_
          refine HV.valg rfl (Val.call en21 (fl_p) rfl) (by decide) ?_
          refine HV.valg rfl (Val.load_row rfl (fun w hw => hw.at (i := 1) rfl) Tryd.underlying25 rfl (by kernel_rfl)) (by decide) ?_
          refine HV.valg rfl (Val.load_row rfl (fun w hw => hw.at (i := 0) rfl) Tryd.underlying25 rfl (by kernel_rfl)) (by decide) ?_
          refine HV.valg rfl (Val.call en42 (ssub_p ((x.getD k 0)) ((u.getD k 0)) (hpx.any k) (hpu.any k)) rfl) (by decide) ?_
          refine HV.valg rfl ((Val.neqA rfl rfl (by kernel_rfl) (neqW (lt_w (subF_lt _ _)) (lt_w (subF_lt _ _)))).as (congrArg Value.bool (neF))) (by decide) ?_
          refine HV.val (Val.pickF rfl rfl) (by decide) ?_
          refine HV.val (Val.move rfl) (by decide) ?_
          refine HV.valg rfl (Val.move rfl) (by decide) ?_
          refine HV.valg rfl (Val.move rfl) (by decide) ?_
          refine HV.valg rfl (Val.ixSlice (s := 16) (i := k) (k * 16) rfl rfl Tryd.underlying47 (by kernel_rfl) hkl (by omega)) (by decide) ?_
          refine HV.valg rfl (Val.load_mid rfl (fun w hw => hw.at (i := 4) rfl) (byA 16 (x.getD k 0 * z % pf)) (row_map (f := fun i => x.getD i 0 * z % pf) hkl) Tryd.underlying30 rfl (by kernel_rfl)) (by decide) ?_
          refine HV.valg rfl (Val.call en22 (n_p (pf_by (Nat.mod_lt _ pf_pos))) rfl) (by decide) ?_
          refine HV.valg rfl (Val.call en21 (fl_p) rfl) (by decide) ?_
          refine HV.valg rfl (Val.load_row rfl (fun w hw => hw.at (i := 1) rfl) Tryd.underlying25 rfl (by kernel_rfl)) (by decide) ?_
          refine HV.valg rfl (Val.load_row rfl (fun w hw => hw.at (i := 5) rfl) Tryd.underlying30 rfl (by kernel_rfl)) (by decide) ?_
          refine HV.valg rfl (Val.call en22 (n_p (pf_by hz)) rfl) (by decide) ?_
          refine HV.valg rfl (Val.call en45 (smul_p ((x.getD k 0)) z (hpx.any k) (lt_b hz)) rfl) (by decide) ?_
          refine HV.valg rfl ((Val.neqA rfl rfl (by kernel_rfl) (neqW (lt_w (Nat.mod_lt _ pf_pos)) (lt_w (Nat.mod_lt _ pf_pos)))).as (congrArg Value.bool (neF))) (by decide) ?_
          refine HV.tail0 ?_
          refine HL.val (Val.pickF rfl rfl) (by decide) ?_
          refine HL.nil ?_
          refine HQ.next ?_
          refine HC.no rfl ?_
          refine HC.skip ?_
          refine HQ.blockNormal ?_
          refine HQ.next ?_
          refine HC.region ?_
          refine HL.val ((Val.addI rfl rfl).as (congrArg (Value.int .i64) (wrap1 k (by omega)))) (by decide) ?_
          refine HL.val (Val.move rfl) (by decide) ?_
          refine HL.nil ?_
          exact ⟨fun ac wc ha hw => ⟨⟨k + 1, hkl⟩, by dsimp only; omega, ha.subS ⟨rfl, rfl, rfl, rfl, rfl, rfl, rfl, rfl, rfl, trivial⟩, hw.pick [2, 3, 4, 5, 6] (by simp)⟩⟩
        · refine HL.val ((Val.lss rfl rfl).as (congrArg Value.bool ((lssN k x.length).trans (decide_eq_false hkl)))) (by decide) ?_
          refine HL.nil ?_
          refine HQ.next ?_
          refine HC.seq ?_
          refine HC.no rfl ?_
          refine HC.exit ?_
          refine HQ.thenExit ?_
          refine HQ.thenExit ?_
          refine HQ.blockExit ?_
          refine HQ.next ?_
          refine HC.seq ?_
          refine HC.region ?_
          refine HL.val (Val.load_row rfl (fun w hw => hw.at (i := 4) rfl) Tryd.underlying30 rfl (by kernel_rfl)) (by decide) ?_
          refine HL.val (Val.call en22 (n_p (pf_by (dotK_lt _ _ _))) rfl) (by decide) ?_
          refine HL.val (Val.call en21 (fl_p) rfl) (by decide) ?_
          refine HL.val (Val.move rfl) (by decide) ?_
          refine HL.fam (FamV.call (R := fun r => PreW r.2.2 x ∧ x.length ≤ r.2.1) (ob := fun r => .cells r.2.2 25 (0, 0)) (pv := fun r => .slice (some ⟨r.1, 0, none⟩) x.length r.2.1) en36 (fun w hw => l_any (sx.sn szBy hw.sn rfl) hx hlx) rfl) (fun _ h => by cases h) (by decide) ?_
          intro b8 c8 q8 r8 hb8
          dsimp only
          refine HL.val (Val.move rfl) (by decide) ?_
          refine HL.fam (FamV.call (R := fun r => PreW r.2.2 u ∧ u.length ≤ r.2.1) (ob := fun r => .cells r.2.2 25 (0, 0)) (pv := fun r => .slice (some ⟨r.1, 0, none⟩) u.length r.2.1) en36 (fun w hw => l_any (su.sn szBy hw.sn rfl) hu hlu) rfl) (fun _ h => by cases h) (by decide) ?_
          intro b9 c9 q9 r9 hb9
          dsimp only
          refine HL.val (Val.calls en59 (fun w hw => sdot_any (PreW.sl r8.1 (hw.at (i := 1) rfl)) hpx hlx (PreW.sl r9.1 (hw.at (i := 0) rfl)) hpu hlm) rfl) (by decide) ?_
          refine HL.val ((Val.eqlA rfl rfl (by kernel_rfl) (eqlW (lt_w (dotK_lt _ _ _)) (lt_w (dotK_lt _ _ _)))).as (congrArg Value.bool (decide_eq_true rfl))) (by decide) ?_
          refine HL.val (Val.assign rfl) (by decide) ?_
          refine HL.nil ?_
          refine HQ.next ?_
          refine HC.ret ?_
          exact HQ.ret1 rfl rfl (pure_end rfl)
      · refine calls_H (args := [.slice adx x.length cx, .slice adu u.length cu, byV 16 z]) noD [] Tryd.func17 rfl (m := 163) rfl rfl (hold_nil _ _) ?_
        refine HC.seq ?_
        refine HC.region ?_
        refine HL.new (New.box rfl) (by decide) ?_
        intro b1 hb1
        refine HL.val (Val.assign rfl) (by decide) ?_
        refine HL.nil ?_
        refine HQ.next ?_
        refine HC.seq ?_
        refine HC.seq ?_
        refine HC.region ?_
        refine HL.val (Val.move rfl) (by decide) ?_
        refine HL.val (Val.lenS rfl rfl Tryd.underlying47) (by decide) ?_
        refine HL.val ((Val.gtr rfl rfl).as (congrArg Value.bool ((lssN 2147483647 x.length).trans (decide_eq_false hzx)))) (by decide) ?_
        refine HL.val (Val.move rfl) (by decide) ?_
        refine HL.valg rfl (Val.move rfl) (by decide) ?_
        refine HL.valg rfl (Val.lenS rfl rfl Tryd.underlying47) (by decide) ?_
        refine HL.valg rfl ((Val.gtr rfl rfl).as (congrArg Value.bool ((lssN 2147483647 u.length).trans (decide_eq_false hzu)))) (by decide) ?_
        refine HL.val (Val.pickF rfl rfl) (by decide) ?_
        refine HL.nil ?_
        refine HQ.next ?_
        refine HC.no rfl ?_
        refine HC.skip ?_
        refine HQ.next ?_
        refine HC.seq ?_
        refine HC.seq ?_
        refine HC.region ?_
        refine HL.val (Val.move rfl) (by decide) ?_
        refine HL.val (Val.move rfl) (by decide) ?_
        refine HL.new (New.bslice (s := 1) rfl Tryd.underlying97 (by kernel_rfl) infoS (by decide) (by decide) (fillS2 adx x.length cx adu u.length cu)) (by decide) ?_
        intro b2 hb2
        refine HL.val ((Val.calls en34 (fun w hw => few2_any (hw.at (i := 0) rfl) (sx.sn szBy hw.sn rfl) hx (su.sn szBy hw.sn rfl) hu) rfl).as (congrArg Value.bool (decide_eq_true hf))) (by decide) ?_
        refine HL.val (Val.not rfl) (by decide) ?_
        refine HL.val (Val.move rfl) (by decide) ?_
        refine HL.valg rfl (Val.load_row rfl (fun w hw => hw.at (i := 1) rfl) Tryd.underlying30 rfl (by kernel_rfl)) (by decide) ?_
        refine HL.newg rfl (New.bslice rfl Tryd.underlying47 (by kernel_rfl) info30 (by decide) (by decide) (fill1 z)) (by decide) ?_
        intro b3 hb3
        refine HL.valg rfl ((Val.calls en25 (fun w hw => has_any (l := [z]) (hw.at (i := 0) rfl) (fun k hk => by match k, hk with | 0, _ => exact (pf_by hz)) (show 1 < 4611686018427387904 from by decide)) rfl).as (v := .bool true) (congrArg Value.bool (by simpa using hz))) (by decide) ?_
        refine HL.valg rfl (Val.not rfl) (by decide) ?_
        refine HL.val (Val.pickF rfl rfl) (by decide) ?_
        refine HL.val (Val.move rfl) (by decide) ?_
        refine HL.valg rfl (Val.move rfl) (by decide) ?_
        refine HL.valg rfl (Val.lenS rfl rfl Tryd.underlying47) (by decide) ?_
        refine HL.valg rfl (Val.move rfl) (by decide) ?_
        refine HL.valg rfl (Val.lenS rfl rfl Tryd.underlying47) (by decide) ?_
        refine HL.valg rfl ((Val.neqI rfl rfl).as (congrArg Value.bool (neqT hlm))) (by decide) ?_
        refine HL.val (Val.pickF rfl rfl) (by decide) ?_
        refine HL.nil ?_
        refine HQ.next ?_
        refine HC.yes rfl ?_
        refine HC.seq ?_
        refine HC.region ?_
        refine HL.val (Val.assign rfl) (by decide) ?_
        refine HL.nil ?_
        refine HQ.next ?_
        refine HC.ret ?_
        refine HQ.thenRet ?_
        exact HQ.ret1 rfl rfl (pure_end rfl)
    · refine calls_H (args := [.slice adx x.length cx, .slice adu u.length cu, byV 16 z]) noD [] Tryd.func17 rfl (m := 163) rfl rfl (hold_nil _ _) ?_
      refine HC.seq ?_
      refine HC.region ?_
      refine HL.new (New.box rfl) (by decide) ?_
      intro b1 hb1
      refine HL.val (Val.assign rfl) (by decide) ?_
      refine HL.nil ?_
      refine HQ.next ?_
      refine HC.seq ?_
      refine HC.seq ?_
      refine HC.region ?_
      refine HL.val (Val.move rfl) (by decide) ?_
      refine HL.val (Val.lenS rfl rfl Tryd.underlying47) (by decide) ?_
      refine HL.val ((Val.gtr rfl rfl).as (congrArg Value.bool ((lssN 2147483647 x.length).trans (decide_eq_false hzx)))) (by decide) ?_
      refine HL.val (Val.move rfl) (by decide) ?_
      refine HL.valg rfl (Val.move rfl) (by decide) ?_
      refine HL.valg rfl (Val.lenS rfl rfl Tryd.underlying47) (by decide) ?_
      refine HL.valg rfl ((Val.gtr rfl rfl).as (congrArg Value.bool ((lssN 2147483647 u.length).trans (decide_eq_false hzu)))) (by decide) ?_
      refine HL.val (Val.pickF rfl rfl) (by decide) ?_
      refine HL.nil ?_
      refine HQ.next ?_
      refine HC.no rfl ?_
      refine HC.skip ?_
      refine HQ.next ?_
      refine HC.seq ?_
      refine HC.seq ?_
      refine HC.region ?_
      refine HL.val (Val.move rfl) (by decide) ?_
      refine HL.val (Val.move rfl) (by decide) ?_
      refine HL.new (New.bslice (s := 1) rfl Tryd.underlying97 (by kernel_rfl) infoS (by decide) (by decide) (fillS2 adx x.length cx adu u.length cu)) (by decide) ?_
      intro b2 hb2
      refine HL.val ((Val.calls en34 (fun w hw => few2_any (hw.at (i := 0) rfl) (sx.sn szBy hw.sn rfl) hx (su.sn szBy hw.sn rfl) hu) rfl).as (congrArg Value.bool (decide_eq_true hf))) (by decide) ?_
      refine HL.val (Val.not rfl) (by decide) ?_
      refine HL.val (Val.move rfl) (by decide) ?_
      refine HL.valg rfl (Val.load_row rfl (fun w hw => hw.at (i := 1) rfl) Tryd.underlying30 rfl (by kernel_rfl)) (by decide) ?_
      refine HL.newg rfl (New.bslice rfl Tryd.underlying47 (by kernel_rfl) info30 (by decide) (by decide) (fill1 z)) (by decide) ?_
      intro b3 hb3
      refine HL.valg rfl ((Val.calls en25 (fun w hw => has_any (l := [z]) (hw.at (i := 0) rfl) (fun k hk => by match k, hk with | 0, _ => exact hBz) (show 1 < 4611686018427387904 from by decide)) rfl).as (v := .bool false) (congrArg Value.bool (by simpa using hz))) (by decide) ?_
      refine HL.valg rfl (Val.not rfl) (by decide) ?_
      refine HL.val (Val.pickF rfl rfl) (by decide) ?_
      refine HL.val (Val.move rfl) (by decide) ?_
      refine HL.skip rfl (by decide) ?_
      refine HL.skip rfl (by decide) ?_
      refine HL.skip rfl (by decide) ?_
      refine HL.skip rfl (by decide) ?_
      refine HL.skip rfl (by decide) ?_
      refine HL.val (Val.pickT rfl rfl) (by decide) ?_
      refine HL.nil ?_
      refine HQ.next ?_
      refine HC.yes rfl ?_
      refine HC.seq ?_
      refine HC.region ?_
      refine HL.val (Val.assign rfl) (by decide) ?_
      refine HL.nil ?_
      refine HQ.next ?_
      refine HC.ret ?_
      refine HQ.thenRet ?_
      exact HQ.ret1 rfl rfl (pure_end rfl)
  · refine calls_H (args := [.slice adx x.length cx, .slice adu u.length cu, byV 16 z]) noD [] Tryd.func17 rfl (m := 163) rfl rfl (hold_nil _ _) ?_
    refine HC.seq ?_
    refine HC.region ?_
    refine HL.new (New.box rfl) (by decide) ?_
    intro b1 hb1
    refine HL.val (Val.assign rfl) (by decide) ?_
    refine HL.nil ?_
    refine HQ.next ?_
    refine HC.seq ?_
    refine HC.seq ?_
    refine HC.region ?_
    refine HL.val (Val.move rfl) (by decide) ?_
    refine HL.val (Val.lenS rfl rfl Tryd.underlying47) (by decide) ?_
    refine HL.val ((Val.gtr rfl rfl).as (congrArg Value.bool ((lssN 2147483647 x.length).trans (decide_eq_false hzx)))) (by decide) ?_
    refine HL.val (Val.move rfl) (by decide) ?_
    refine HL.valg rfl (Val.move rfl) (by decide) ?_
    refine HL.valg rfl (Val.lenS rfl rfl Tryd.underlying47) (by decide) ?_
    refine HL.valg rfl ((Val.gtr rfl rfl).as (congrArg Value.bool ((lssN 2147483647 u.length).trans (decide_eq_false hzu)))) (by decide) ?_
    refine HL.val (Val.pickF rfl rfl) (by decide) ?_
    refine HL.nil ?_
    refine HQ.next ?_
    refine HC.no rfl ?_
    refine HC.skip ?_
    refine HQ.next ?_
    refine HC.seq ?_
    refine HC.seq ?_
    refine HC.region ?_
    refine HL.val (Val.move rfl) (by decide) ?_
    refine HL.val (Val.move rfl) (by decide) ?_
    refine HL.new (New.bslice (s := 1) rfl Tryd.underlying97 (by kernel_rfl) infoS (by decide) (by decide) (fillS2 adx x.length cx adu u.length cu)) (by decide) ?_
    intro b2 hb2
    refine HL.val ((Val.calls en34 (fun w hw => few2_any (hw.at (i := 0) rfl) (sx.sn szBy hw.sn rfl) hx (su.sn szBy hw.sn rfl) hu) rfl).as (congrArg Value.bool (decide_eq_false hf))) (by decide) ?_
    refine HL.val (Val.not rfl) (by decide) ?_
    refine HL.val (Val.move rfl) (by decide) ?_
    refine HL.skip rfl (by decide) ?_
    refine HL.skip rfl (by decide) ?_
    refine HL.skip rfl (by decide) ?_
    refine HL.skip rfl (by decide) ?_
    refine HL.val (Val.pickT rfl rfl) (by decide) ?_
    refine HL.val (Val.move rfl) (by decide) ?_
    refine HL.skip rfl (by decide) ?_
    refine HL.skip rfl (by decide) ?_
    refine HL.skip rfl (by decide) ?_
    refine HL.skip rfl (by decide) ?_
    refine HL.skip rfl (by decide) ?_
    refine HL.val (Val.pickT rfl rfl) (by decide) ?_
    refine HL.nil ?_
    refine HQ.next ?_
    refine HC.yes rfl ?_
    refine HC.seq ?_
    refine HC.region ?_
    refine HL.val (Val.assign rfl) (by decide) ?_
    refine HL.nil ?_
    refine HQ.next ?_
    refine HC.ret ?_
    refine HQ.thenRet ?_
    exact HQ.ret1 rfl rfl (pure_end rfl)
set_option maxRecDepth 100000 in
theorem fnVec128Is_met (os : Os) (args : Array Value) : laidMetH Tryd.prog Rows.fnVec128IsRow.laid ((World.doorLaid Tryd.prog 400 os).forCall (fun _ _ => 0) ⟨#[], args, []⟩).memory :=
  laidMetH_of_parts3 (fuel := 8) (laidMet_of_run' 8 (by kernel_rfl) (by kernel_rfl)) (by kernel_rfl) (by kernel_rfl)
set_option maxRecDepth 100000 in
theorem fnVec128Is_lifted (os : Os) (started : os.Started) (H : Type) (enc : TypeId × Value → H) :
    ReturnsInHanded {} Tryd.checked os 17 .any (fun w args => (Rows.fnVec128IsSpec.pre enc Tryd.prog Tryd.f17 [] false w args ∧ laidMetH Tryd.prog Rows.fnVec128IsRow.laid w) ∧ sizedMet enc Tryd.prog Tryd.f17 (OpenSpec.ofChange Rows.fnVec128IsSpec) false w args)
      (Rows.fnVec128IsSpec.post enc Tryd.prog Tryd.f17 false true false false) := by
  refine returnsInHanded_of_change_and (C := Tryd.checked) (X := fun w _ => laidMetH Tryd.prog Rows.fnVec128IsRow.laid w) (fun _ _ _ hh h => h.of_heap hh) own1 started (by kernel_rfl) Tryd.func17
    (ChangeSpec.witness_shaped (enc := enc) (C := Tryd.checked) (os := os) (X := fun w _ => laidMetH Tryd.prog Rows.fnVec128IsRow.laid w) false (World.doorLaid Tryd.prog 400 os) #[.slice none 0 0, .slice none 0 0, byV 16 0] 8 rfl (World.shaped_of_RefB (by kernel_rfl) (by kernel_rfl)) (by kernel_rfl) (by kernel_rfl) (by kernel_rfl) (fnVec128Is_met os _)) ?_
  intro W base args ds gs before hval0 hW _ _ hL _
  have hval : ∀ (j : Nat) t v, Tryd.f17.params[j]? = some t → args[j]? = some v → Value.okWide Tryd.prog W .any base t v := hval0
  have hW' := hW
  obtain ⟨p, q, hA0, hV, rfl, hfz, hnd⟩ := hW
  have hV0 := hV
  have hA : DataW.TrodAll enc Tryd.prog W 0 (fun _ => true) true Tryd.f17.params.toList args.toList ds p := hA0
  rw [Tryd.params17] at hA hval
  obtain ⟨v0, v1, v2, d0, d1, d2, p0, p1, p2, rfl, rfl, rfl, h0, h1, h2⟩ := trodAll_three hA
  obtain ⟨g0, g1, rfl⟩ : ∃ g0 g1, gs = [g0, g1] := by
    have hgl := trodVars_len hV0
    match gs, hgl with
    | [g0, g1], _ => exact ⟨g0, g1, rfl⟩
  obtain ⟨adx, bx, ox, cx, x, rfl, nx, hx, sx⟩ := open_rows Tryd.underlying47 Tryd.underlying30 Tryd.underlying5 (by kernel_rfl) (by kernel_rfl) (by decide) (hval 0 47 v0 rfl rfl) h0
  obtain ⟨adu, bu, ou, cu, u, rfl, nu, hu, su⟩ := open_rows Tryd.underlying47 Tryd.underlying30 Tryd.underlying5 (by kernel_rfl) (by kernel_rfl) (by decide) (hval 1 47 v1 rfl rfl) h1
  obtain ⟨z, hz, rfl, rfl⟩ := open_by Tryd.underlying30 Tryd.underlying5 (by kernel_rfl) (by kernel_rfl) (hval 2 30 v2 rfl rfl) h2
  clear hA0 hval0
  refine (main_w (gr_at (laid_at (by kernel_rfl) hL 0 rfl)) nx hx sx nu hu su hz).mono fun e W' ⟨he, hb⟩ => ?_
  subst he
  exact ⟨_, rfl, ⟨_, _, _, [], _, _, hW', trodAll_mk1 (shut_bool Tryd.underlying4 true), trodAll_mk3 (Below.trod laidOut1 (by kernel_rfl) (of_decide_eq_true (by kernel_rfl)) h0 hb (trod_lt h0)) (Below.trod laidOut1 (by kernel_rfl) (of_decide_eq_true (by kernel_rfl)) h1 hb (trod_lt h1)) (Below.trod laidOut1 (by kernel_rfl) (of_decide_eq_true (by kernel_rfl)) h2 hb (by simp)), Below.trodVars laidOut1 hb (by kernel_rfl) hV, hb.frame _, fun h => by cases h⟩⟩
theorem fnVec128Is_c1 : (Rows.fnVec128IsRow.inPlace == Tryd.pinned.checked.prog.inPlace 17) = true := by kernel_rfl
theorem fnVec128Is_c2 : (Rows.fnVec128IsRow.unfollowed == Tryd.pinned.checked.prog.unfollowed 17) = true := by kernel_rfl
theorem fnVec128Is_c3 : (Rows.fnVec128IsRow.recurses == Tryd.pinned.checked.prog.recurses 17) = true := by kernel_rfl
theorem fnVec128Is_c4 : (Rows.fnVec128IsRow.named == Tryd.pinned.checked.prog.varsNamed 17) = true := by kernel_rfl
theorem fnVec128Is_c5 : Rows.fnVec128IsRow.wf (OpenSpec.ofChange Rows.fnVec128IsSpec) = true := by kernel_rfl
theorem fnVec128Is_c8 : (Rows.fnVec128IsRow.plainKeys == Tryd.pinned.checked.prog.plainKeys) = true := by kernel_rfl
theorem fnVec128Is_d1 : (Rows.fnVec128IsRow.lifted == Tryd.pinned.checked.prog.liftsFinal) = true := by rw [lifts1]; rfl
theorem fnVec128Is_d2 : (Tryd.pinned.checked.prog.make == some Rows.fnVec128IsRow.make) = true := by rw [make1]; rfl
theorem looks1 : false = Tryd.pinned.checked.prog.looks [] := by kernel_rfl
theorem fnVec128Is_closed : joinedFacts Tryd.pinned.checked.prog 17 Tryd.f17 Rows.fnVec128IsSpec Rows.fnVec128IsRow = true := by
  delta joinedFacts
  repeat' with_reducible apply and_i
  all_goals first | with_reducible exact fnVec128Is_c1 | with_reducible exact fnVec128Is_c2 | with_reducible exact fnVec128Is_c3 | with_reducible exact fnVec128Is_c4 | with_reducible exact fnVec128Is_c5 | with_reducible exact c6 | with_reducible exact c7 | with_reducible exact fnVec128Is_c8 | with_reducible exact c9 | with_reducible exact may1 | with_reducible exact fnVec128Is_d1 | with_reducible exact fnVec128Is_d2 | kernel_rfl
theorem fnVec128Is_named : Tryd.pinned.checked.prog.funcNamed Rows.fnVec128IsRow.func = some 17 := by kernel_rfl
theorem fnVec128Is_inst : Tryd.f17.isInstance Tryd.pinned.checked.prog Rows.fnVec128IsRow.origin Rows.fnVec128IsRow.targs := of_decide_eq_true (by kernel_rfl)
theorem fnVec128Is_wrap : Tryd.f17.isWrapper Tryd.pinned.checked.prog Rows.fnVec128IsRow.wrapper Rows.fnVec128IsRow.mainSum := by unfold Func.isWrapper; first | (rw [if_pos (by decide +kernel)]; kernel_rfl) | (rw [if_neg (by decide +kernel)]; exact ⟨rfl, rfl⟩)
theorem fnVec128Is_holds : Rows.FnVec128IsSaid :=
  OpenClaim.holds_of_wide 17 Tryd.f17 rfl rfl rfl rfl rfl rfl rfl ⟨rfl, rfl, rfl, rfl, rfl⟩ rfl rfl rfl rfl rfl fnVec128Is_named Tryd.func17 fnVec128Is_closed
    fnVec128Is_inst fnVec128Is_wrap
    (fun os started H enc _ => fnVec128Is_lifted os started H enc)
theorem fnVec128Is_w : Rows.fnVec128IsRow.wfByText (OpenSpec.ofChange Rows.fnVec128IsSpec) = true := by kernel_rfl
theorem fnVec128Is_main1 : Tryd.pinned.checked.prog.mainIs = some (Rows.fnVec128IsCard.stood.harness.1, Rows.fnVec128IsCard.stood.harness.2.toList) := main1.trans (by kernel_rfl)
theorem fnVec128Is_goes : false = Rows.fnVec128IsRow.goesBy Tryd.pinned.checked.prog := by kernel_rfl
theorem fnVec128Is_har : (!Rows.fnVec128IsCard.stood.harness.1 && Rows.fnVec128IsCard.stood.harness.2.isEmpty && !false) = false := by kernel_rfl
theorem fnVec128Is_hl : ∀ f fn, Tryd.pinned.checked.prog.funcNamed Rows.fnVec128IsRow.func = some f → Tryd.pinned.checked.prog.funcs[f]? = some fn → false = Tryd.pinned.checked.prog.looks [] ∧ ∀ (j : Nat) t, fn.params[j]? = some t → Tryd.pinned.checked.prog.wantsStandIn t = false := fun f fn hf hfn => by
  obtain rfl : f = 17 := (Option.some.inj (fnVec128Is_named.symm.trans hf)).symm
  obtain rfl : fn = Tryd.f17 := (Option.some.inj (Tryd.func17.symm.trans hfn)).symm
  exact ⟨looks1, fun j t ht => by
    rw [Tryd.params17] at ht
    have hm : t ∈ [47, 47, 30] := by simpa using Array.mem_of_getElem? ht
    have hall : ([47, 47, 30].all fun u => !Tryd.pinned.checked.prog.wantsStandIn u) = true := by kernel_rfl
    exact (show Tryd.pinned.checked.prog.wantsStandIn t = false by simpa using List.all_eq_true.1 hall t hm)⟩
theorem fnVec128IsCard_holds : Rows.FnVec128IsCardSaid :=
  Claim7.holds_tied_plain_at .later [] Rows.fnVec128IsCard.laidKinds true Rows.fnVec128IsCard.stood.harness false
    fnVec128Is_holds (fun _ h => by cases h) fnVec128Is_w (fun _ h => by cases h) fnVec128Is_row_tie rfl ⟨rfl, rfl⟩ fnVec128Is_main1 fnVec128Is_har fnVec128Is_hl fnVec128Is_goes
#print axioms fnVec128IsCard_holds
end Go.Proofs.YtgdfdkpkhjbibaaDoor
