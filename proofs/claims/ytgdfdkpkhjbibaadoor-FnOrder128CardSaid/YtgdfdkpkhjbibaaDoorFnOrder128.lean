/-
  FnOrder128: whatever the input, the law answers true (written by laws2.py).
  Conditions: the package variables that the row lists read as listed (the card ties them to the program's text).
-/
import Derived.Test.YtgdfdkpkhjbibaaDoorOd
import Derived.Test.YtgdfdkpkhjbibaaDoorTie
import Derived.Test.YtgdfdkpkhjbibaaDoorCards
import Derived.SevenTiedAt
namespace Go.Proofs.YtgdfdkpkhjbibaaDoor
open Go.ChangeShapes Go.WideShapes Go.ChangeAt Go.WideElems Go.RowKit
theorem le_cells : ∀ i, i < 16 → (byA 16 pf)[i]? = some (.int .u8 (leN.getD i 0)) := fun i hi => by
  rcases (show i = 0 ∨ i = 1 ∨ i = 2 ∨ i = 3 ∨ i = 4 ∨ i = 5 ∨ i = 6 ∨ i = 7 ∨ i = 8 ∨ i = 9 ∨ i = 10 ∨ i = 11 ∨ i = 12 ∨ i = 13 ∨ i = 14 ∨ i = 15 by omega) with rfl | rfl | rfl | rfl | rfl | rfl | rfl | rfl | rfl | rfl | rfl | rfl | rfl | rfl | rfl | rfl <;> rfl
theorem be_cells : ∀ i, i < 16 → (#[.int .u8 255, .int .u8 255, .int .u8 255, .int .u8 255, .int .u8 255, .int .u8 255, .int .u8 255, .int .u8 228, .int .u8 0, .int .u8 0, .int .u8 0, .int .u8 0, .int .u8 0, .int .u8 0, .int .u8 0, .int .u8 1] : Array Value)[i]? = some (.int .u8 (beN.getD i 0)) := fun i hi => by
  rcases (show i = 0 ∨ i = 1 ∨ i = 2 ∨ i = 3 ∨ i = 4 ∨ i = 5 ∨ i = 6 ∨ i = 7 ∨ i = 8 ∨ i = 9 ∨ i = 10 ∨ i = 11 ∨ i = 12 ∨ i = 13 ∨ i = 14 ∨ i = 15 by omega) with rfl | rfl | rfl | rfl | rfl | rfl | rfl | rfl | rfl | rfl | rfl | rfl | rfl | rfl | rfl | rfl <;> rfl
theorem rv_cells {k : Nat} (hk : k ≤ 16) (hn : ¬ k < 16) : ∀ i, i < 16 → (brev pf k)[i]? = some (.int .u8 (beN.getD i 0)) := fun i hi => by
  obtain rfl : k = 16 := by omega
  rcases (show i = 0 ∨ i = 1 ∨ i = 2 ∨ i = 3 ∨ i = 4 ∨ i = 5 ∨ i = 6 ∨ i = 7 ∨ i = 8 ∨ i = 9 ∨ i = 10 ∨ i = 11 ∨ i = 12 ∨ i = 13 ∨ i = 14 ∨ i = 15 by omega) with rfl | rfl | rfl | rfl | rfl | rfl | rfl | rfl | rfl | rfl | rfl | rfl | rfl | rfl | rfl | rfl <;> rfl
theorem revN {k : Nat} (h : k < 16) : IntKind.i64.wrap (15 - (k : Int)) = ((15 - k : Nat) : Int) := by
  rw [IntKind.wrap_i64]; omega
set_option maxRecDepth 100000 in
theorem main_w {x : Nat} {w : World} (hg : GR w) (hBx : x < 256 ^ 16) :
    Calls Tryd.prog 12 #[byV 16 x] w fun e w' => e = .returned (.bool true) ∧ Below w.heap.size w w' := by
  by_cases hx : x < pf
  · refine calls_H (args := [byV 16 x]) noD [] Tryd.func12 rfl (m := 58) rfl rfl (hold_nil _ _) ?_
    refine HC.seq ?_
    refine HC.region ?_
    refine HL.new (New.box rfl) (by decide) ?_
    intro b1 hb1
    refine HL.val (Val.assign rfl) (by decide) ?_
    refine HL.nil ?_
    refine HQ.next ?_
    refine HC.seq ?_
    refine HC.region ?_
    refine HL.val (Val.call en21 (fl_p) rfl) (by decide) ?_
    refine HL.val (Val.field1 rfl fieldA0) (by decide) ?_
    refine HL.val (Val.call en46 (lb_p pf_w) rfl) (by decide) ?_
    refine HL.val (Val.build rfl built_by0) (by decide) ?_
    refine HL.new (New.alloc al30) (by decide) ?_
    intro b2 hb2
    refine HL.new (New.alloc al30) (by decide) ?_
    intro b3 hb3
    refine HL.put 1 rfl (Put.row rfl rfl (by kernel_rfl) (szB _ _ _) (oneB _ _)) (.inl hb2) ?_
    simp only [List.set_cons_zero, List.set_cons_succ]
    refine HL.put 0 rfl (Put.row rfl rfl (by kernel_rfl) (szB _ _ _) (oneB _ _)) (.inl hb3) ?_
    simp only [List.set_cons_zero]
    refine HL.nil ?_
    refine HQ.next ?_
    refine HC.seq ?_
    refine HC.seq ?_
    refine HC.region ?_
    refine HL.val (Val.move rfl) (by decide) ?_
    refine HL.nil ?_
    refine HQ.next ?_
    refine HC.block ?_
    refine HC.loop (ι := {p : Nat // p ≤ 16}) (fun p => 16 - p.1) (fun p => [(1, .pointer (some ⟨b1, 0, none⟩)), (3, .pointer (some ⟨b2, 0, none⟩)), (4, .pointer (some ⟨b3, 0, none⟩)), (15, .int .i64 (p.1 : Int))]) (fun p => [(b3, .cells (brev pf p.1) 30 (0, 0)), (b2, .cells (byA 16 pf) 30 (0, 0)), (b1, .cells (byA 16 x) 30 (0, 0))]) ⟨0, Nat.zero_le _⟩ (fun ac wc ha hw => ⟨ha.subS ⟨rfl, rfl, rfl, rfl, trivial⟩, by have h := hw.pick [0, 1, 2] (by simp); dsimp only; rw [brev_zero]; exact h⟩) ?_
    rintro ⟨k, hk⟩
    dsimp only
    refine HC.seq ?_
    refine HC.region ?_
    by_cases hk8 : k < 16
    · refine HL.val ((Val.lss rfl rfl).as (congrArg Value.bool ((lssN k 16).trans (decide_eq_true hk8)))) (by decide) ?_
      refine HL.nil ?_
      refine HQ.next ?_
      refine HC.seq ?_
      refine HC.yes rfl ?_
      refine HC.skip ?_
      refine HQ.next ?_
      refine HC.seq ?_
      refine HC.block ?_
      refine HC.seq ?_
      refine HC.region ?_
      refine HL.val (Val.move rfl) (by decide) ?_
      refine HL.val (Val.assign rfl) (by decide) ?_
      refine HL.nil ?_
      refine HQ.next ?_
      refine HC.region ?_
      refine HL.val (Val.move rfl) (by decide) ?_
      refine HL.val (Val.move rfl) (by decide) ?_
      refine HL.val ((Val.subI rfl rfl).as (congrArg (Value.int .i64) (revN hk8))) (by decide) ?_
      refine HL.val (Val.ixAddrQ (15 - k) (i := 15 - k) (m := 16) (s := 1) (e := 5) rfl rfl Tryd.underlying30 (by kernel_rfl) (by omega) (by omega)) (by decide) ?_
      refine HL.val (Val.load_cell rfl (fun w hw => hw.at (i := 1) rfl) (byA_get (show 15 - k < 16 by omega)) Tryd.underlying5 rfl) (by decide) ?_
      refine HL.val (Val.ixAddrQ (k) (i := k) (m := 16) (s := 1) (e := 5) rfl rfl Tryd.underlying30 (by kernel_rfl) (by omega) (by omega)) (by decide) ?_
      refine HL.put 0 rfl (Put.cell rfl rfl (by kernel_rfl) (by rw [brev_size]; omega) rfl) (.inl hb3) ?_
      simp only [List.set_cons_zero]
      refine HL.nil ?_
      refine HQ.blockNormal ?_
      refine HQ.next ?_
      refine HC.region ?_
      refine HL.val ((Val.addI rfl rfl).as (congrArg (Value.int .i64) (wrap1 k (by omega)))) (by decide) ?_
      refine HL.val (Val.move rfl) (by decide) ?_
      refine HL.nil ?_
      exact ⟨fun ac wc ha hw => ⟨⟨k + 1, hk8⟩, by dsimp only; omega, ha.subS ⟨rfl, rfl, rfl, rfl, trivial⟩, by have h := hw.pick [0, 1, 2] (by simp); simp only [List.filterMap_cons, List.filterMap_nil, List.getElem?_cons_zero, List.getElem?_cons_succ] at h; rw [brev_step] at h; exact h⟩⟩
    · refine HL.val ((Val.lss rfl rfl).as (congrArg Value.bool ((lssN k 16).trans (decide_eq_false hk8)))) (by decide) ?_
      refine HL.nil ?_
      refine HQ.next ?_
      refine HC.seq ?_
      refine HC.no rfl ?_
      refine HC.exit ?_
      refine HQ.thenExit ?_
      refine HQ.thenExit ?_
      refine HQ.blockExit ?_
      refine HQ.next ?_
      refine HC.seq ?_
      refine HC.region ?_
      refine HL.fam (FamV.call (R := fun r => True) (ob := fun r => .cells #[.int .u8 255, .int .u8 255, .int .u8 255, .int .u8 255, .int .u8 255, .int .u8 255, .int .u8 255, .int .u8 228, .int .u8 0, .int .u8 0, .int .u8 0, .int .u8 0, .int .u8 0, .int .u8 0, .int .u8 0, .int .u8 1] 30 (0, 0)) (pv := fun r => .slice (some ⟨r.1, 0, none⟩) 16 16) en47 (fun w hw => iorder_any) rfl) (fun _ h => by cases h) (by decide) ?_
      intro b4 c4 q4 r4 hb4
      dsimp only
      refine HL.val (Val.strOf beN rfl Tryd.underlying62 Tryd.underlying5 Tryd.underlying9 (by decide) (fun w hw => row_cells (hw.at (i := 0) rfl) be_cells)) (by decide) ?_
      refine HL.val (Val.assign rfl) (by decide) ?_
      refine HL.nil ?_
      refine HQ.next ?_
      refine HC.seq ?_
      refine HC.region ?_
      refine HL.val (Val.load_row rfl (fun w hw => hw.at (i := 2) rfl) Tryd.underlying30 rfl (by kernel_rfl)) (by decide) ?_
      refine HL.val (Val.calls en44 (fun w hw => iSqrF (by decide) (Nat.lt_irrefl pf)) rfl) (by decide) ?_
      refine HL.val (Val.move rfl) (by decide) ?_
      refine HL.val (Val.extract rfl rfl) (by decide) ?_
      refine HL.val (Val.extract rfl rfl) (by decide) ?_
      refine HL.new (New.alloc al30) (by decide) ?_
      intro b5 hb5
      refine HL.put 0 rfl (Put.row rfl rfl (by kernel_rfl) (szB _ _ _) (oneB _ _)) (.inl hb5) ?_
      simp only [List.set_cons_zero]
      refine HL.val (Val.assign rfl) (by decide) ?_
      refine HL.nil ?_
      refine HQ.next ?_
      refine HC.seq ?_
      refine HC.region ?_
      refine HL.val (Val.load_row rfl (fun w hw => hw.at (i := 4) rfl) Tryd.underlying30 rfl (by kernel_rfl)) (by decide) ?_
      refine HL.val (Val.calls en44 (fun w hw => iSqrT (hg.sn hw.sn rfl) hx) rfl) (by decide) ?_
      refine HL.val (Val.move rfl) (by decide) ?_
      refine HL.val (Val.extract rfl rfl) (by decide) ?_
      refine HL.val (Val.extract rfl rfl) (by decide) ?_
      refine HL.new (New.alloc al30) (by decide) ?_
      intro b6 hb6
      refine HL.put 0 rfl (Put.row rfl rfl (by kernel_rfl) (szB _ _ _) (oneB _ _)) (.inl hb6) ?_
      simp only [List.set_cons_zero]
      refine HL.val (Val.assign rfl) (by decide) ?_
      refine HL.nil ?_
      refine HQ.next ?_
      refine HC.seq ?_
      refine HC.region ?_
      refine HL.val (Val.move rfl) (by decide) ?_
      refine HL.val (Val.sliceAll (s := 1) rfl Tryd.underlying30 (by kernel_rfl)) (by decide) ?_
      refine HL.val (Val.strOf leN rfl Tryd.underlying62 Tryd.underlying5 Tryd.underlying9 (by decide) (fun w hw => row_cells (hw.at (i := 4) rfl) le_cells)) (by decide) ?_
      refine HL.val ((Val.eqlStr rfl rfl).as (congrArg Value.bool (be_le))) (by decide) ?_
      refine HL.val (Val.move rfl) (by decide) ?_
      refine HL.valg rfl (Val.move rfl) (by decide) ?_
      refine HL.valg rfl (Val.sliceAll (s := 1) rfl Tryd.underlying30 (by kernel_rfl)) (by decide) ?_
      refine HL.valg rfl (Val.strOf beN rfl Tryd.underlying62 Tryd.underlying5 Tryd.underlying9 (by decide) (fun w hw => row_cells (hw.at (i := 3) rfl) (rv_cells hk hk8))) (by decide) ?_
      refine HL.valg rfl ((Val.eqlStr rfl rfl).as (congrArg Value.bool (beq_self_eq_true _))) (by decide) ?_
      refine HL.val (Val.pickF rfl rfl) (by decide) ?_
      refine HL.val (Val.move rfl) (by decide) ?_
      refine HL.valg rfl (Val.move rfl) (by decide) ?_
      refine HL.valg rfl (Val.not rfl) (by decide) ?_
      refine HL.val (Val.pickT rfl rfl) (by decide) ?_
      refine HL.val (Val.move rfl) (by decide) ?_
      refine HL.valg rfl (Val.move rfl) (by decide) ?_
      refine HL.valg rfl (Val.load_row rfl (fun w hw => hw.at (i := 5) rfl) Tryd.underlying30 rfl (by kernel_rfl)) (by decide) ?_
      refine HL.newg rfl (New.bslice rfl Tryd.underlying47 (by kernel_rfl) info30 (by decide) (by decide) (fill1 x)) (by decide) ?_
      intro b7 hb7
      refine HL.valg rfl ((Val.calls en25 (fun w hw => has_any (l := [x]) (hw.at (i := 0) rfl) (fun k hk => by match k, hk with | 0, _ => exact (pf_by hx)) (show 1 < 4611686018427387904 from by decide)) rfl).as (v := .bool true) (congrArg Value.bool (by simpa using hx))) (by decide) ?_
      refine HL.valg rfl (Val.eqlBool rfl rfl Tryd.underlying4) (by decide) ?_
      refine HL.val (Val.pickT rfl rfl) (by decide) ?_
      refine HL.val (Val.assign rfl) (by decide) ?_
      refine HL.nil ?_
      refine HQ.next ?_
      refine HC.ret ?_
      exact HQ.ret1 rfl rfl (pure_end rfl)
  · refine calls_H (args := [byV 16 x]) noD [] Tryd.func12 rfl (m := 58) rfl rfl (hold_nil _ _) ?_
    refine HC.seq ?_
    refine HC.region ?_
    refine HL.new (New.box rfl) (by decide) ?_
    intro b1 hb1
    refine HL.val (Val.assign rfl) (by decide) ?_
    refine HL.nil ?_
    refine HQ.next ?_
    refine HC.seq ?_
    refine HC.region ?_
    refine HL.val (Val.call en21 (fl_p) rfl) (by decide) ?_
    refine HL.val (Val.field1 rfl fieldA0) (by decide) ?_
    refine HL.val (Val.call en46 (lb_p pf_w) rfl) (by decide) ?_
    refine HL.val (Val.build rfl built_by0) (by decide) ?_
    refine HL.new (New.alloc al30) (by decide) ?_
    intro b2 hb2
    refine HL.new (New.alloc al30) (by decide) ?_
    intro b3 hb3
    refine HL.put 1 rfl (Put.row rfl rfl (by kernel_rfl) (szB _ _ _) (oneB _ _)) (.inl hb2) ?_
    simp only [List.set_cons_zero, List.set_cons_succ]
    refine HL.put 0 rfl (Put.row rfl rfl (by kernel_rfl) (szB _ _ _) (oneB _ _)) (.inl hb3) ?_
    simp only [List.set_cons_zero]
    refine HL.nil ?_
    refine HQ.next ?_
    refine HC.seq ?_
    refine HC.seq ?_
    refine HC.region ?_
    refine HL.val (Val.move rfl) (by decide) ?_
    refine HL.nil ?_
    refine HQ.next ?_
    refine HC.block ?_
    refine HC.loop (ι := {p : Nat // p ≤ 16}) (fun p => 16 - p.1) (fun p => [(1, .pointer (some ⟨b1, 0, none⟩)), (3, .pointer (some ⟨b2, 0, none⟩)), (4, .pointer (some ⟨b3, 0, none⟩)), (15, .int .i64 (p.1 : Int))]) (fun p => [(b3, .cells (brev pf p.1) 30 (0, 0)), (b2, .cells (byA 16 pf) 30 (0, 0)), (b1, .cells (byA 16 x) 30 (0, 0))]) ⟨0, Nat.zero_le _⟩ (fun ac wc ha hw => ⟨ha.subS ⟨rfl, rfl, rfl, rfl, trivial⟩, by have h := hw.pick [0, 1, 2] (by simp); dsimp only; rw [brev_zero]; exact h⟩) ?_
    rintro ⟨k, hk⟩
    dsimp only
    refine HC.seq ?_
    refine HC.region ?_
    by_cases hk8 : k < 16
    · refine HL.val ((Val.lss rfl rfl).as (congrArg Value.bool ((lssN k 16).trans (decide_eq_true hk8)))) (by decide) ?_
      refine HL.nil ?_
      refine HQ.next ?_
      refine HC.seq ?_
      refine HC.yes rfl ?_
      refine HC.skip ?_
      refine HQ.next ?_
      refine HC.seq ?_
      refine HC.block ?_
      refine HC.seq ?_
      refine HC.region ?_
      refine HL.val (Val.move rfl) (by decide) ?_
      refine HL.val (Val.assign rfl) (by decide) ?_
      refine HL.nil ?_
      refine HQ.next ?_
      refine HC.region ?_
      refine HL.val (Val.move rfl) (by decide) ?_
      refine HL.val (Val.move rfl) (by decide) ?_
      refine HL.val ((Val.subI rfl rfl).as (congrArg (Value.int .i64) (revN hk8))) (by decide) ?_
      refine HL.val (Val.ixAddrQ (15 - k) (i := 15 - k) (m := 16) (s := 1) (e := 5) rfl rfl Tryd.underlying30 (by kernel_rfl) (by omega) (by omega)) (by decide) ?_
      refine HL.val (Val.load_cell rfl (fun w hw => hw.at (i := 1) rfl) (byA_get (show 15 - k < 16 by omega)) Tryd.underlying5 rfl) (by decide) ?_
      refine HL.val (Val.ixAddrQ (k) (i := k) (m := 16) (s := 1) (e := 5) rfl rfl Tryd.underlying30 (by kernel_rfl) (by omega) (by omega)) (by decide) ?_
      refine HL.put 0 rfl (Put.cell rfl rfl (by kernel_rfl) (by rw [brev_size]; omega) rfl) (.inl hb3) ?_
      simp only [List.set_cons_zero]
      refine HL.nil ?_
      refine HQ.blockNormal ?_
      refine HQ.next ?_
      refine HC.region ?_
      refine HL.val ((Val.addI rfl rfl).as (congrArg (Value.int .i64) (wrap1 k (by omega)))) (by decide) ?_
      refine HL.val (Val.move rfl) (by decide) ?_
      refine HL.nil ?_
      exact ⟨fun ac wc ha hw => ⟨⟨k + 1, hk8⟩, by dsimp only; omega, ha.subS ⟨rfl, rfl, rfl, rfl, trivial⟩, by have h := hw.pick [0, 1, 2] (by simp); simp only [List.filterMap_cons, List.filterMap_nil, List.getElem?_cons_zero, List.getElem?_cons_succ] at h; rw [brev_step] at h; exact h⟩⟩
    · refine HL.val ((Val.lss rfl rfl).as (congrArg Value.bool ((lssN k 16).trans (decide_eq_false hk8)))) (by decide) ?_
      refine HL.nil ?_
      refine HQ.next ?_
      refine HC.seq ?_
      refine HC.no rfl ?_
      refine HC.exit ?_
      refine HQ.thenExit ?_
      refine HQ.thenExit ?_
      refine HQ.blockExit ?_
      refine HQ.next ?_
      refine HC.seq ?_
      refine HC.region ?_
      refine HL.fam (FamV.call (R := fun r => True) (ob := fun r => .cells #[.int .u8 255, .int .u8 255, .int .u8 255, .int .u8 255, .int .u8 255, .int .u8 255, .int .u8 255, .int .u8 228, .int .u8 0, .int .u8 0, .int .u8 0, .int .u8 0, .int .u8 0, .int .u8 0, .int .u8 0, .int .u8 1] 30 (0, 0)) (pv := fun r => .slice (some ⟨r.1, 0, none⟩) 16 16) en47 (fun w hw => iorder_any) rfl) (fun _ h => by cases h) (by decide) ?_
      intro b4 c4 q4 r4 hb4
      dsimp only
      refine HL.val (Val.strOf beN rfl Tryd.underlying62 Tryd.underlying5 Tryd.underlying9 (by decide) (fun w hw => row_cells (hw.at (i := 0) rfl) be_cells)) (by decide) ?_
      refine HL.val (Val.assign rfl) (by decide) ?_
      refine HL.nil ?_
      refine HQ.next ?_
      refine HC.seq ?_
      refine HC.region ?_
      refine HL.val (Val.load_row rfl (fun w hw => hw.at (i := 2) rfl) Tryd.underlying30 rfl (by kernel_rfl)) (by decide) ?_
      refine HL.val (Val.calls en44 (fun w hw => iSqrF (by decide) (Nat.lt_irrefl pf)) rfl) (by decide) ?_
      refine HL.val (Val.move rfl) (by decide) ?_
      refine HL.val (Val.extract rfl rfl) (by decide) ?_
      refine HL.val (Val.extract rfl rfl) (by decide) ?_
      refine HL.new (New.alloc al30) (by decide) ?_
      intro b5 hb5
      refine HL.put 0 rfl (Put.row rfl rfl (by kernel_rfl) (szB _ _ _) (oneB _ _)) (.inl hb5) ?_
      simp only [List.set_cons_zero]
      refine HL.val (Val.assign rfl) (by decide) ?_
      refine HL.nil ?_
      refine HQ.next ?_
      refine HC.seq ?_
      refine HC.region ?_
      refine HL.val (Val.load_row rfl (fun w hw => hw.at (i := 4) rfl) Tryd.underlying30 rfl (by kernel_rfl)) (by decide) ?_
      refine HL.val (Val.calls en44 (fun w hw => iSqrF hBx hx) rfl) (by decide) ?_
      refine HL.val (Val.move rfl) (by decide) ?_
      refine HL.val (Val.extract rfl rfl) (by decide) ?_
      refine HL.val (Val.extract rfl rfl) (by decide) ?_
      refine HL.new (New.alloc al30) (by decide) ?_
      intro b6 hb6
      refine HL.put 0 rfl (Put.row rfl rfl (by kernel_rfl) (szB _ _ _) (oneB _ _)) (.inl hb6) ?_
      simp only [List.set_cons_zero]
      refine HL.val (Val.assign rfl) (by decide) ?_
      refine HL.nil ?_
      refine HQ.next ?_
      refine HC.seq ?_
      refine HC.region ?_
      refine HL.val (Val.move rfl) (by decide) ?_
      refine HL.val (Val.sliceAll (s := 1) rfl Tryd.underlying30 (by kernel_rfl)) (by decide) ?_
      refine HL.val (Val.strOf leN rfl Tryd.underlying62 Tryd.underlying5 Tryd.underlying9 (by decide) (fun w hw => row_cells (hw.at (i := 4) rfl) le_cells)) (by decide) ?_
      refine HL.val ((Val.eqlStr rfl rfl).as (congrArg Value.bool (be_le))) (by decide) ?_
      refine HL.val (Val.move rfl) (by decide) ?_
      refine HL.valg rfl (Val.move rfl) (by decide) ?_
      refine HL.valg rfl (Val.sliceAll (s := 1) rfl Tryd.underlying30 (by kernel_rfl)) (by decide) ?_
      refine HL.valg rfl (Val.strOf beN rfl Tryd.underlying62 Tryd.underlying5 Tryd.underlying9 (by decide) (fun w hw => row_cells (hw.at (i := 3) rfl) (rv_cells hk hk8))) (by decide) ?_
      refine HL.valg rfl ((Val.eqlStr rfl rfl).as (congrArg Value.bool (beq_self_eq_true _))) (by decide) ?_
      refine HL.val (Val.pickF rfl rfl) (by decide) ?_
      refine HL.val (Val.move rfl) (by decide) ?_
      refine HL.valg rfl (Val.move rfl) (by decide) ?_
      refine HL.valg rfl (Val.not rfl) (by decide) ?_
      refine HL.val (Val.pickT rfl rfl) (by decide) ?_
      refine HL.val (Val.move rfl) (by decide) ?_
      refine HL.valg rfl (Val.move rfl) (by decide) ?_
      refine HL.valg rfl (Val.load_row rfl (fun w hw => hw.at (i := 5) rfl) Tryd.underlying30 rfl (by kernel_rfl)) (by decide) ?_
      refine HL.newg rfl (New.bslice rfl Tryd.underlying47 (by kernel_rfl) info30 (by decide) (by decide) (fill1 x)) (by decide) ?_
      intro b7 hb7
      refine HL.valg rfl ((Val.calls en25 (fun w hw => has_any (l := [x]) (hw.at (i := 0) rfl) (fun k hk => by match k, hk with | 0, _ => exact hBx) (show 1 < 4611686018427387904 from by decide)) rfl).as (v := .bool false) (congrArg Value.bool (by simpa using hx))) (by decide) ?_
      refine HL.valg rfl (Val.eqlBool rfl rfl Tryd.underlying4) (by decide) ?_
      refine HL.val (Val.pickT rfl rfl) (by decide) ?_
      refine HL.val (Val.assign rfl) (by decide) ?_
      refine HL.nil ?_
      refine HQ.next ?_
      refine HC.ret ?_
      exact HQ.ret1 rfl rfl (pure_end rfl)
set_option maxRecDepth 100000 in
theorem fnOrder128_met (os : Os) (args : Array Value) : laidMetH Tryd.prog Rows.fnOrder128Row.laid ((World.doorLaid Tryd.prog 400 os).forCall (fun _ _ => 0) ⟨#[], args, []⟩).memory :=
  laidMetH_of_parts3 (fuel := 8) (laidMet_of_run' 8 (by kernel_rfl) (by kernel_rfl)) (by kernel_rfl) (by kernel_rfl)
set_option maxRecDepth 100000 in
theorem fnOrder128_lifted (os : Os) (started : os.Started) (H : Type) (enc : TypeId × Value → H) :
    ReturnsInHanded {} Tryd.checked os 12 .any (fun w args => (Rows.fnOrder128Spec.pre enc Tryd.prog Tryd.f12 [] false w args ∧ laidMetH Tryd.prog Rows.fnOrder128Row.laid w) ∧ sizedMet enc Tryd.prog Tryd.f12 (OpenSpec.ofChange Rows.fnOrder128Spec) false w args)
      (Rows.fnOrder128Spec.post enc Tryd.prog Tryd.f12 false true false false) := by
  refine returnsInHanded_of_change_and (C := Tryd.checked) (X := fun w _ => laidMetH Tryd.prog Rows.fnOrder128Row.laid w) (fun _ _ _ hh h => h.of_heap hh) own1 started (by kernel_rfl) Tryd.func12
    (ChangeSpec.witness_shaped (enc := enc) (C := Tryd.checked) (os := os) (X := fun w _ => laidMetH Tryd.prog Rows.fnOrder128Row.laid w) false (World.doorLaid Tryd.prog 400 os) #[byV 16 0] 8 rfl (World.shaped_of_RefB (by kernel_rfl) (by kernel_rfl)) (by kernel_rfl) (by kernel_rfl) (by kernel_rfl) (fnOrder128_met os _)) ?_
  intro W base args ds gs before hval0 hW _ _ hL _
  have hval : ∀ (j : Nat) t v, Tryd.f12.params[j]? = some t → args[j]? = some v → Value.okWide Tryd.prog W .any base t v := hval0
  have hW' := hW
  obtain ⟨p, q, hA0, hV, rfl, hfz, hnd⟩ := hW
  have hV0 := hV
  have hA : DataW.TrodAll enc Tryd.prog W 0 (fun _ => true) true Tryd.f12.params.toList args.toList ds p := hA0
  rw [Tryd.params12] at hA hval
  obtain ⟨v0, d0, rfl, rfl, h0⟩ := trodAll_one hA
  obtain ⟨g0, rfl⟩ : ∃ g0, gs = [g0] := by
    have hgl := trodVars_len hV0
    match gs, hgl with
    | [g0], _ => exact ⟨g0, rfl⟩
  obtain ⟨x, hx, rfl, rfl⟩ := open_by Tryd.underlying30 Tryd.underlying5 (by kernel_rfl) (by kernel_rfl) (hval 0 30 v0 rfl rfl) h0
  clear hA0 hval0
  refine (main_w (gr_at (laid_at (by kernel_rfl) hL 0 rfl)) hx).mono fun e W' ⟨he, hb⟩ => ?_
  subst he
  exact ⟨_, rfl, ⟨_, _, _, [], _, _, hW', trodAll_mk1 (shut_bool Tryd.underlying4 true), trodAll_mk1 (Below.trod laidOut1 (by kernel_rfl) (of_decide_eq_true (by kernel_rfl)) h0 hb (by simp)), Below.trodVars laidOut1 hb (by kernel_rfl) hV, hb.frame _, fun h => by cases h⟩⟩
theorem fnOrder128_c1 : (Rows.fnOrder128Row.inPlace == Tryd.pinned.checked.prog.inPlace 12) = true := by kernel_rfl
theorem fnOrder128_c2 : (Rows.fnOrder128Row.unfollowed == Tryd.pinned.checked.prog.unfollowed 12) = true := by kernel_rfl
theorem fnOrder128_c3 : (Rows.fnOrder128Row.recurses == Tryd.pinned.checked.prog.recurses 12) = true := by kernel_rfl
theorem fnOrder128_c4 : (Rows.fnOrder128Row.named == Tryd.pinned.checked.prog.varsNamed 12) = true := by kernel_rfl
theorem fnOrder128_c5 : Rows.fnOrder128Row.wf (OpenSpec.ofChange Rows.fnOrder128Spec) = true := by kernel_rfl
theorem fnOrder128_c8 : (Rows.fnOrder128Row.plainKeys == Tryd.pinned.checked.prog.plainKeys) = true := by kernel_rfl
theorem fnOrder128_d1 : (Rows.fnOrder128Row.lifted == Tryd.pinned.checked.prog.liftsFinal) = true := by rw [lifts1]; rfl
theorem fnOrder128_d2 : (Tryd.pinned.checked.prog.make == some Rows.fnOrder128Row.make) = true := by rw [make1]; rfl
theorem looks1 : false = Tryd.pinned.checked.prog.looks [] := by kernel_rfl
theorem fnOrder128_closed : joinedFacts Tryd.pinned.checked.prog 12 Tryd.f12 Rows.fnOrder128Spec Rows.fnOrder128Row = true := by
  delta joinedFacts
  repeat' with_reducible apply and_i
  all_goals first | with_reducible exact fnOrder128_c1 | with_reducible exact fnOrder128_c2 | with_reducible exact fnOrder128_c3 | with_reducible exact fnOrder128_c4 | with_reducible exact fnOrder128_c5 | with_reducible exact c6 | with_reducible exact c7 | with_reducible exact fnOrder128_c8 | with_reducible exact c9 | with_reducible exact may1 | with_reducible exact fnOrder128_d1 | with_reducible exact fnOrder128_d2 | kernel_rfl
theorem fnOrder128_named : Tryd.pinned.checked.prog.funcNamed Rows.fnOrder128Row.func = some 12 := by kernel_rfl
theorem fnOrder128_inst : Tryd.f12.isInstance Tryd.pinned.checked.prog Rows.fnOrder128Row.origin Rows.fnOrder128Row.targs := of_decide_eq_true (by kernel_rfl)
theorem fnOrder128_wrap : Tryd.f12.isWrapper Tryd.pinned.checked.prog Rows.fnOrder128Row.wrapper Rows.fnOrder128Row.mainSum := by unfold Func.isWrapper; first | (rw [if_pos (by decide +kernel)]; kernel_rfl) | (rw [if_neg (by decide +kernel)]; exact ⟨rfl, rfl⟩)
theorem fnOrder128_holds : Rows.FnOrder128Said :=
  OpenClaim.holds_of_wide 12 Tryd.f12 rfl rfl rfl rfl rfl rfl rfl ⟨rfl, rfl, rfl, rfl, rfl⟩ rfl rfl rfl rfl rfl fnOrder128_named Tryd.func12 fnOrder128_closed
    fnOrder128_inst fnOrder128_wrap
    (fun os started H enc _ => fnOrder128_lifted os started H enc)
theorem fnOrder128_w : Rows.fnOrder128Row.wfByText (OpenSpec.ofChange Rows.fnOrder128Spec) = true := by kernel_rfl
theorem fnOrder128_main1 : Tryd.pinned.checked.prog.mainIs = some (Rows.fnOrder128Card.stood.harness.1, Rows.fnOrder128Card.stood.harness.2.toList) := main1.trans (by kernel_rfl)
theorem fnOrder128_goes : false = Rows.fnOrder128Row.goesBy Tryd.pinned.checked.prog := by kernel_rfl
theorem fnOrder128_har : (!Rows.fnOrder128Card.stood.harness.1 && Rows.fnOrder128Card.stood.harness.2.isEmpty && !false) = false := by kernel_rfl
theorem fnOrder128_hl : ∀ f fn, Tryd.pinned.checked.prog.funcNamed Rows.fnOrder128Row.func = some f → Tryd.pinned.checked.prog.funcs[f]? = some fn → false = Tryd.pinned.checked.prog.looks [] ∧ ∀ (j : Nat) t, fn.params[j]? = some t → Tryd.pinned.checked.prog.wantsStandIn t = false := fun f fn hf hfn => by
  obtain rfl : f = 12 := (Option.some.inj (fnOrder128_named.symm.trans hf)).symm
  obtain rfl : fn = Tryd.f12 := (Option.some.inj (Tryd.func12.symm.trans hfn)).symm
  exact ⟨looks1, fun j t ht => by
    rw [Tryd.params12] at ht
    have hm : t ∈ [30] := by simpa using Array.mem_of_getElem? ht
    have hall : ([30].all fun u => !Tryd.pinned.checked.prog.wantsStandIn u) = true := by kernel_rfl
    exact (show Tryd.pinned.checked.prog.wantsStandIn t = false by simpa using List.all_eq_true.1 hall t hm)⟩
theorem fnOrder128Card_holds : Rows.FnOrder128CardSaid :=
  Claim7.holds_tied_plain_at .later [] Rows.fnOrder128Card.laidKinds true Rows.fnOrder128Card.stood.harness false
    fnOrder128_holds (fun _ h => by cases h) fnOrder128_w (fun _ h => by cases h) fnOrder128_row_tie rfl ⟨rfl, rfl⟩ fnOrder128_main1 fnOrder128_har fnOrder128_hl fnOrder128_goes
#print axioms fnOrder128Card_holds
end Go.Proofs.YtgdfdkpkhjbibaaDoor
