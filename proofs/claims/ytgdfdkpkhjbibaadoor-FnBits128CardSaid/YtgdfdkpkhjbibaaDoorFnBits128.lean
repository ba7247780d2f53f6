/-
  FnBits128: whatever the input, the law answers true (written by laws2.py).
  Conditions: the package variables that the row lists read as listed (the card ties them to the program's text).
-/
import Derived.Test.YtgdfdkpkhjbibaaDoorBt
import Derived.Test.YtgdfdkpkhjbibaaDoorTie
import Derived.Test.YtgdfdkpkhjbibaaDoorCards
import Derived.SevenTiedAt
namespace Go.Proofs.YtgdfdkpkhjbibaaDoor
open Go.ChangeShapes Go.WideShapes Go.ChangeAt Go.WideElems Go.RowKit
theorem infoS : (Tryd.prog.info? 47).bind (·.zero) = some (.slice none 0 0) := by kernel_rfl
theorem fillS1 (a : Option Addr) (l c : Nat) : Instr.fill (fun i => some (i * 1, 1)) ((Array.range (1 * 1)).map ((Value.slice none 0 0).cells[· % (Value.slice none 0 0).cells.size]!)) [(0, .slice a l c)] = some #[.slice a l c] := by kernel_rfl
theorem fillS2 (a : Option Addr) (l c : Nat) (a2 : Option Addr) (l2 c2 : Nat) : Instr.fill (fun i => some (i * 1, 1)) ((Array.range (2 * 1)).map ((Value.slice none 0 0).cells[· % (Value.slice none 0 0).cells.size]!)) [(0, .slice a l c), (1, .slice a2 l2 c2)] = some #[.slice a l c, .slice a2 l2 c2] := by kernel_rfl
theorem ern_sn {D : Nat → Bool} {w0 w : World} (h : ERN w0) (hs : Sn D w0 w) (hd : D 2 = false := by rfl) : ERN w := by
  obtain ⟨u, x, h⟩ := h
  exact ⟨u, x, hs.cell h hd⟩
theorem neF {a b : Nat} (h : a = b) : (!decide (a = b)) = false := by simp [h]
theorem row_map {f : Nat → Nat} {m k : Nat} (h : k < m) : ∀ j, j < (byA 16 (f k)).size → (flat (byA 16) ((List.range m).map f))[k * 16 + j]? = (byA 16 (f k))[j]? := fun j hj => by
  have h2 := flat_get szBy (l := (List.range m).map f) (i := k) (by simpa using h) j (by rw [szBy] at hj ⊢; exact hj)
  rwa [mapR_get f h] at h2
theorem bit_lt (n i : Nat) : n / 2 ^ i % 2 < pf := Nat.lt_trans (Nat.mod_lt _ (by decide)) two_lt
theorem bit_u (n i : Nat) : n / 2 ^ i % 2 < 18446744073709551616 := Nat.lt_trans (Nat.mod_lt _ (by decide)) (by decide)
theorem ijoinB {n k : Nat} {ad : Option Addr} {b o c : Nat} {w : World} (hg : GR w) (hs : SlA (byA 16) 16 w ad b o (bitsL n k)) (hk : k ≤ 64) : Calls Tryd.prog 43 #[.slice ad k c] w fun e w' => e = .returned (.tuple #[byV 16 (evL (bitsL n k) 2), .bool true]) ∧ Below w.heap.size w w' := by
  have h := ijoin_good (c := c) hg hs (bitsL_lt n k) (by rw [bitsL_len]; omega)
  rwa [bitsL_len] at h
theorem one_bit : Lib.bitLen 1 ≤ 1 := Lib.bitLen_le 1 1 (by decide) (by decide)
set_option maxRecDepth 100000 in
theorem main_w {n : Nat} {K : Int} {w : World} (hg : GR w) (ht : RT w) (hn : ERN w) (ln : n < 18446744073709551616) :
    Calls Tryd.prog 14 #[.int .u64 (n : Int), .int .i64 K] w fun e w' => e = .returned (.bool true) ∧ Below w.heap.size w w' := by
  by_cases hneg : K < 0
  · refine calls_H (args := [.int .u64 (n : Int), .int .i64 K]) noD [] Tryd.func14 rfl (m := 90) rfl rfl (hold_nil _ _) ?_
    refine HC.seq ?_
    refine HC.region ?_
    refine HL.val (Val.assign rfl) (by decide) ?_
    refine HL.nil ?_
    refine HQ.next ?_
    refine HC.seq ?_
    refine HC.seq ?_
    refine HC.region ?_
    refine HL.val (Val.move rfl) (by decide) ?_
    refine HL.val ((Val.lss rfl rfl).as (congrArg Value.bool (decide_eq_true hneg))) (by decide) ?_
    refine HL.val (Val.move rfl) (by decide) ?_
    refine HL.skip rfl (by decide) ?_
    refine HL.skip rfl (by decide) ?_
    refine HL.val (Val.pickT rfl rfl) (by decide) ?_
    refine HL.val (Val.move rfl) (by decide) ?_
    refine HL.skip rfl (by decide) ?_
    refine HL.skip rfl (by decide) ?_
    refine HL.skip rfl (by decide) ?_
    refine HL.skip rfl (by decide) ?_
    refine HL.skip rfl (by decide) ?_
    refine HL.skip rfl (by decide) ?_
    refine HL.skip rfl (by decide) ?_
    refine HL.skip rfl (by decide) ?_
    refine HL.skip rfl (by decide) ?_
    refine HL.val (Val.pickT rfl rfl) (by decide) ?_
    refine HL.nil ?_
    refine HQ.next ?_
    refine HC.yes rfl ?_
    refine HC.seq ?_
    refine HC.region ?_
    refine HL.val (Val.assign rfl) (by decide) ?_
    refine HL.nil ?_
    refine HQ.next ?_
    refine HC.ret ?_
    refine HQ.thenRet ?_
    exact HQ.ret1 rfl rfl (pure_end rfl)
  by_cases hbig : (64 : Int) < K
  · refine calls_H (args := [.int .u64 (n : Int), .int .i64 K]) noD [] Tryd.func14 rfl (m := 90) rfl rfl (hold_nil _ _) ?_
    refine HC.seq ?_
    refine HC.region ?_
    refine HL.val (Val.assign rfl) (by decide) ?_
    refine HL.nil ?_
    refine HQ.next ?_
    refine HC.seq ?_
    refine HC.seq ?_
    refine HC.region ?_
    refine HL.val (Val.move rfl) (by decide) ?_
    refine HL.val ((Val.lss rfl rfl).as (congrArg Value.bool (decide_eq_false hneg))) (by decide) ?_
    refine HL.val (Val.move rfl) (by decide) ?_
    refine HL.valg rfl (Val.move rfl) (by decide) ?_
    refine HL.valg rfl ((Val.gtr rfl rfl).as (congrArg Value.bool (decide_eq_true hbig))) (by decide) ?_
    refine HL.val (Val.pickF rfl rfl) (by decide) ?_
    refine HL.val (Val.move rfl) (by decide) ?_
    refine HL.skip rfl (by decide) ?_
    refine HL.skip rfl (by decide) ?_
    refine HL.skip rfl (by decide) ?_
    refine HL.skip rfl (by decide) ?_
    refine HL.skip rfl (by decide) ?_
    refine HL.skip rfl (by decide) ?_
    refine HL.skip rfl (by decide) ?_
    refine HL.skip rfl (by decide) ?_
    refine HL.skip rfl (by decide) ?_
    refine HL.val (Val.pickT rfl rfl) (by decide) ?_
    refine HL.nil ?_
    refine HQ.next ?_
    refine HC.yes rfl ?_
    refine HC.seq ?_
    refine HC.region ?_
    refine HL.val (Val.assign rfl) (by decide) ?_
    refine HL.nil ?_
    refine HQ.next ?_
    refine HC.ret ?_
    refine HQ.thenRet ?_
    exact HQ.ret1 rfl rfl (pure_end rfl)
  obtain ⟨k, rfl⟩ : ∃ k : Nat, K = (k : Int) := ⟨K.toNat, by omega⟩
  have hk : k ≤ 64 := by omega
  by_cases hlen : Lib.bitLen n ≤ k
  · have hlt : n < 2 ^ k := by
      by_cases h : n < 2 ^ k
      · exact h
      · exact absurd ((bitLen_gt ln hk).2 (by omega)) (by omega)
    by_cases h64 : k = 64
    · by_cases hx : n < pf
      · have heq : evL (bitsL n k) 2 = n := by rw [evL_bits, Nat.mod_eq_of_lt hlt, Nat.mod_eq_of_lt hx]
        refine calls_H (args := [.int .u64 (n : Int), .int .i64 (k : Int)]) noD [] Tryd.func14 rfl (m := 90) rfl rfl (hold_nil _ _) ?_
        refine HC.seq ?_
        refine HC.region ?_
        refine HL.val (Val.assign rfl) (by decide) ?_
        refine HL.nil ?_
        refine HQ.next ?_
        refine HC.seq ?_
        refine HC.seq ?_
        refine HC.region ?_
        refine HL.val (Val.move rfl) (by decide) ?_
        refine HL.val ((Val.lss rfl rfl).as (congrArg Value.bool (decide_eq_false hneg))) (by decide) ?_
        refine HL.val (Val.move rfl) (by decide) ?_
        refine HL.valg rfl (Val.move rfl) (by decide) ?_
        refine HL.valg rfl ((Val.gtr rfl rfl).as (congrArg Value.bool (decide_eq_false hbig))) (by decide) ?_
        refine HL.val (Val.pickF rfl rfl) (by decide) ?_
        refine HL.val (Val.move rfl) (by decide) ?_
        refine HL.valg rfl (Val.move rfl) (by decide) ?_
        refine HL.valg rfl (((Val.eqlI rfl rfl)).as (congrArg Value.bool ((eqlN k 64).trans (decide_eq_true h64)))) (by decide) ?_
        refine HL.valg rfl (Val.move rfl) (by decide) ?_
        refine HL.valg rfl (Val.call en21 (fl_p) rfl) (by decide) ?_
        refine HL.valg rfl (Val.move rfl) (by decide) ?_
        refine HL.valg rfl (Val.build rfl (built_wx n ln)) (by decide) ?_
        refine HL.valg rfl ((Val.call en30 (has_p n) rfl).as (congrArg Value.bool (decide_eq_true hx))) (by decide) ?_
        refine HL.valg rfl (Val.not rfl) (by decide) ?_
        refine HL.valg rfl (Val.pickT rfl rfl) (by decide) ?_
        refine HL.val (Val.pickF rfl rfl) (by decide) ?_
        refine HL.nil ?_
        refine HQ.next ?_
        refine HC.no rfl ?_
        refine HC.skip ?_
        refine HQ.next ?_
        refine HC.seq ?_
        refine HC.region ?_
        refine HL.val (Val.move rfl) (by decide) ?_
        refine HL.val (Val.move rfl) (by decide) ?_
        refine HL.fam (FamV.call (R := fun r => True) (ob := fun r => .cells (flat (byA 16) (bitsL n k)) 30 (0, 0)) (pv := fun r => .tuple #[.slice (some ⟨r.1, 0, none⟩) k k, .bool true]) en49 (fun w hw => isplit_good (ht.sn hw.sn rfl) ln hk hlen) rfl) (fun _ h => by cases h) (by decide) ?_
        intro b1 c1 q1 r1 hb1
        dsimp only
        refine HL.val (Val.move rfl) (by decide) ?_
        refine HL.val (Val.extract rfl rfl) (by decide) ?_
        refine HL.val (Val.extract rfl rfl) (by decide) ?_
        refine HL.val (Val.assign rfl) (by decide) ?_
        refine HL.val (Val.assign rfl) (by decide) ?_
        refine HL.nil ?_
        refine HQ.next ?_
        refine HC.seq ?_
        refine HC.region ?_
        refine HL.fam (FamV.call (R := fun r => True) (ob := fun r => .cells (flat (byA 16) (bitsL 1 1)) 30 (0, 0)) (pv := fun r => .tuple #[.slice (some ⟨r.1, 0, none⟩) (1 : Nat) 1, .bool true]) en49 (fun w hw => isplit_good (n := 1) (k := 1) (ht.sn hw.sn rfl) (by decide) (by decide) one_bit) rfl) (fun _ h => by cases h) (by decide) ?_
        intro b2 c2 q2 r2 hb2
        dsimp only
        refine HL.val (Val.move rfl) (by decide) ?_
        refine HL.val (Val.extract rfl rfl) (by decide) ?_
        refine HL.val (Val.extract rfl rfl) (by decide) ?_
        refine HL.val (Val.assign rfl) (by decide) ?_
        refine HL.val (Val.assign rfl) (by decide) ?_
        refine HL.nil ?_
        refine HQ.next ?_
        refine HC.seq ?_
        refine HC.seq ?_
        refine HC.region ?_
        refine HL.val (Val.move rfl) (by decide) ?_
        refine HL.val ((Val.lss rfl rfl).as (congrArg Value.bool ((lssN k 64).trans (decide_eq_false (by omega))))) (by decide) ?_
        refine HL.val (Val.move rfl) (by decide) ?_
        refine HL.skip rfl (by decide) ?_
        refine HL.skip rfl (by decide) ?_
        refine HL.skip rfl (by decide) ?_
        refine HL.skip rfl (by decide) ?_
        refine HL.val (Val.pickF rfl rfl) (by decide) ?_
        refine HL.nil ?_
        refine HQ.next ?_
        refine HC.no rfl ?_
        refine HC.skip ?_
        refine HQ.next ?_
        refine HC.seq ?_
        refine HC.seq ?_
        refine HC.region ?_
        refine HL.val (Val.move rfl) (by decide) ?_
        refine HL.val (Val.not rfl) (by decide) ?_
        refine HL.val (Val.move rfl) (by decide) ?_
        refine HL.valg rfl (Val.move rfl) (by decide) ?_
        refine HL.valg rfl (Val.lenS rfl rfl Tryd.underlying47) (by decide) ?_
        refine HL.valg rfl (Val.move rfl) (by decide) ?_
        refine HL.valg rfl ((Val.neqI rfl rfl).as (congrArg Value.bool (neqL rfl))) (by decide) ?_
        refine HL.val (Val.pickF rfl rfl) (by decide) ?_
        refine HL.nil ?_
        refine HQ.next ?_
        refine HC.no rfl ?_
        refine HC.skip ?_
        refine HQ.next ?_
        refine HC.seq ?_
        refine HC.seq ?_
        refine HC.region ?_
        refine HL.val (Val.move rfl) (by decide) ?_
        refine HL.val (Val.lenS rfl rfl Tryd.underlying47) (by decide) ?_
        refine HL.val (Val.move rfl) (by decide) ?_
        refine HL.nil ?_
        refine HQ.next ?_
        refine HC.block ?_
        refine HC.loop (ι := {p : Nat // p ≤ k}) (fun p => k - p.1) (fun p => [(0, .int .u64 (n : Int)), (5, .slice (some ⟨b1, 0, none⟩) k k), (62, .int .i64 (p.1 : Int)), (61, .int .i64 (k : Int))]) (fun p => [(b1, .cells (flat (byA 16) (bitsL n k)) 30 (0, 0))]) ⟨0, Nat.zero_le _⟩ (fun ac wc ha hw => ⟨ha.subS ⟨rfl, rfl, rfl, rfl, trivial⟩, hw.pick [1] (by simp)⟩) ?_
        rintro ⟨i, hi⟩
        dsimp only
        refine HC.seq ?_
        refine HC.region ?_
        by_cases hik : i < k
        · refine HL.val ((Val.lss rfl rfl).as (congrArg Value.bool ((lssN i k).trans (decide_eq_true hik)))) (by decide) ?_
          refine HL.nil ?_
          refine HQ.next ?_
          refine HC.seq ?_
          refine HC.yes rfl ?_
          refine HC.skip ?_
          refine HQ.next ?_
          refine HC.seq ?_
          refine HC.block ?_
          refine HC.seq ?_
          refine HC.region ?_
          refine HL.val (Val.move rfl) (by decide) ?_
          refine HL.val (Val.assign rfl) (by decide) ?_
          refine HL.nil ?_
          refine HQ.next ?_
          refine HC.seq ?_
          refine HC.draw0 10 (by kernel_rfl) (by kernel_rfl) ?_
          simp only [List.take, List.drop]
          refine HV.val (Val.move rfl) (by decide) ?_
          refine HV.val (Val.move rfl) (by decide) ?_
          refine HV.val (Val.ixSlice (s := 16) (i := i) (i * 16) rfl rfl Tryd.underlying47 (by kernel_rfl) hik (by omega)) (by decide) ?_
          refine HV.val (Val.load_mid rfl (fun w hw => hw.at (i := 0) rfl) (byA 16 (n / 2 ^ i % 2)) (row_map (f := fun i => n / 2 ^ i % 2) hik) Tryd.underlying30 rfl (by kernel_rfl)) (by decide) ?_
          refine HV.val (Val.call en22 (n_p (pf_by (bit_lt n i))) rfl) (by decide) ?_
          refine HV.val (Val.move rfl) (by decide) ?_
          refine HV.val (Val.move rfl) (by decide) ?_
          refine HV.val ((Val.shrI rfl rfl (Int.natCast_nonneg _) (show ((i : Nat) : Int) ≤ 64 by omega)).as (congrArg (Value.int .u64) (shrN n i))) (by decide) ?_
          refine HV.val ((Val.andI rfl rfl).as (congrArg (Value.int .u64) (andB i ln))) (by decide) ?_
          refine HV.val (Val.build rfl (built_wx ((n / 2 ^ i % 2)) (bit_u n i))) (by decide) ?_
          refine HV.tail0 ?_
          refine HL.val ((Val.neqA rfl rfl (by kernel_rfl) (neqW (lt_w (bit_lt n i)) (x_w (bit_u n i)))).as (congrArg Value.bool (neF rfl))) (by decide) ?_
          refine HL.nil ?_
          refine HQ.next ?_
          refine HC.no rfl ?_
          refine HC.skip ?_
          refine HQ.blockNormal ?_
          refine HQ.next ?_
          refine HC.region ?_
          refine HL.val ((Val.addI rfl rfl).as (congrArg (Value.int .i64) (wrap1 i (by omega)))) (by decide) ?_
          refine HL.val (Val.move rfl) (by decide) ?_
          refine HL.nil ?_
          exact ⟨fun ac wc ha hw => ⟨⟨i + 1, hik⟩, by dsimp only; omega, ha.subS ⟨rfl, rfl, rfl, rfl, trivial⟩, hw.pick [0] (by simp)⟩⟩
        · refine HL.val ((Val.lss rfl rfl).as (congrArg Value.bool ((lssN i k).trans (decide_eq_false hik)))) (by decide) ?_
          refine HL.nil ?_
          refine HQ.next ?_
          refine HC.seq ?_
          refine HC.no rfl ?_
          refine HC.exit ?_
          refine HQ.thenExit ?_
          refine HQ.thenExit ?_
          refine HQ.blockExit ?_
          refine HQ.next ?_
          refine HC.seq ?_
          refine HC.region ?_
          refine HL.val (Val.move rfl) (by decide) ?_
          refine HL.val (Val.calls en43 (fun w hw => ijoinB (hg.sn hw.sn rfl) (SlA.of_row szBy (hw.at (i := 0) rfl)) hk) rfl) (by decide) ?_
          refine HL.val (Val.move rfl) (by decide) ?_
          refine HL.val (Val.extract rfl rfl) (by decide) ?_
          refine HL.val (Val.extract rfl rfl) (by decide) ?_
          refine HL.new (New.alloc al30) (by decide) ?_
          intro b3 hb3
          refine HL.put 0 rfl (Put.row rfl rfl (by kernel_rfl) (szB _ _ _) (oneB _ _)) (.inl hb3) ?_
          simp only [List.set_cons_zero]
          refine HL.val (Val.assign rfl) (by decide) ?_
          refine HL.nil ?_
          refine HQ.next ?_
          refine HC.seq ?_
          refine HC.region ?_
          refine HL.val (Val.move rfl) (by decide) ?_
          refine HL.val (Val.move rfl) (by decide) ?_
          refine HL.valg rfl (Val.load_row rfl (fun w hw => hw.at (i := 0) rfl) Tryd.underlying30 rfl (by kernel_rfl)) (by decide) ?_
          refine HL.valg rfl (Val.call en22 (n_p (pf_by (evL_lt _ _))) rfl) (by decide) ?_
          refine HL.valg rfl (Val.move rfl) (by decide) ?_
          refine HL.valg rfl (Val.build rfl (built_wx n ln)) (by decide) ?_
          refine HL.valg rfl ((Val.eqlA rfl rfl (by kernel_rfl) (eqlW (lt_w (evL_lt _ _)) (x_w ln))).as (congrArg Value.bool (decide_eq_true heq))) (by decide) ?_
          refine HL.val (Val.pickT rfl rfl) (by decide) ?_
          refine HL.val (Val.assign rfl) (by decide) ?_
          refine HL.nil ?_
          refine HQ.next ?_
          refine HC.ret ?_
          exact HQ.ret1 rfl rfl (pure_end rfl)
      · refine calls_H (args := [.int .u64 (n : Int), .int .i64 (k : Int)]) noD [] Tryd.func14 rfl (m := 90) rfl rfl (hold_nil _ _) ?_
        refine HC.seq ?_
        refine HC.region ?_
        refine HL.val (Val.assign rfl) (by decide) ?_
        refine HL.nil ?_
        refine HQ.next ?_
        refine HC.seq ?_
        refine HC.seq ?_
        refine HC.region ?_
        refine HL.val (Val.move rfl) (by decide) ?_
        refine HL.val ((Val.lss rfl rfl).as (congrArg Value.bool (decide_eq_false hneg))) (by decide) ?_
        refine HL.val (Val.move rfl) (by decide) ?_
        refine HL.valg rfl (Val.move rfl) (by decide) ?_
        refine HL.valg rfl ((Val.gtr rfl rfl).as (congrArg Value.bool (decide_eq_false hbig))) (by decide) ?_
        refine HL.val (Val.pickF rfl rfl) (by decide) ?_
        refine HL.val (Val.move rfl) (by decide) ?_
        refine HL.valg rfl (Val.move rfl) (by decide) ?_
        refine HL.valg rfl (((Val.eqlI rfl rfl)).as (congrArg Value.bool ((eqlN k 64).trans (decide_eq_true h64)))) (by decide) ?_
        refine HL.valg rfl (Val.move rfl) (by decide) ?_
        refine HL.valg rfl (Val.call en21 (fl_p) rfl) (by decide) ?_
        refine HL.valg rfl (Val.move rfl) (by decide) ?_
        refine HL.valg rfl (Val.build rfl (built_wx n ln)) (by decide) ?_
        refine HL.valg rfl ((Val.call en30 (has_p n) rfl).as (congrArg Value.bool (decide_eq_false hx))) (by decide) ?_
        refine HL.valg rfl (Val.not rfl) (by decide) ?_
        refine HL.valg rfl (Val.pickT rfl rfl) (by decide) ?_
        refine HL.val (Val.pickF rfl rfl) (by decide) ?_
        refine HL.nil ?_
        refine HQ.next ?_
        refine HC.yes rfl ?_
        refine HC.seq ?_
        refine HC.region ?_
        refine HL.val (Val.assign rfl) (by decide) ?_
        refine HL.nil ?_
        refine HQ.next ?_
        refine HC.ret ?_
        refine HQ.thenRet ?_
        exact HQ.ret1 rfl rfl (pure_end rfl)
    · have hx : n < pf := Nat.lt_of_lt_of_le hlt (Nat.le_trans (Nat.pow_le_pow_right (by decide) (show k ≤ 63 by omega)) (by decide))
      have hpos : ¬ 0 < n / 2 ^ k := by rw [Nat.div_eq_of_lt hlt]; omega
      have heq : evL (bitsL n k) 2 = n := by rw [evL_bits, Nat.mod_eq_of_lt hlt, Nat.mod_eq_of_lt hx]
      refine calls_H (args := [.int .u64 (n : Int), .int .i64 (k : Int)]) noD [] Tryd.func14 rfl (m := 90) rfl rfl (hold_nil _ _) ?_
      refine HC.seq ?_
      refine HC.region ?_
      refine HL.val (Val.assign rfl) (by decide) ?_
      refine HL.nil ?_
      refine HQ.next ?_
      refine HC.seq ?_
      refine HC.seq ?_
      refine HC.region ?_
      refine HL.val (Val.move rfl) (by decide) ?_
      refine HL.val ((Val.lss rfl rfl).as (congrArg Value.bool (decide_eq_false hneg))) (by decide) ?_
      refine HL.val (Val.move rfl) (by decide) ?_
      refine HL.valg rfl (Val.move rfl) (by decide) ?_
      refine HL.valg rfl ((Val.gtr rfl rfl).as (congrArg Value.bool (decide_eq_false hbig))) (by decide) ?_
      refine HL.val (Val.pickF rfl rfl) (by decide) ?_
      refine HL.val (Val.move rfl) (by decide) ?_
      refine HL.valg rfl (Val.move rfl) (by decide) ?_
      refine HL.valg rfl (((Val.eqlI rfl rfl)).as (congrArg Value.bool ((eqlN k 64).trans (decide_eq_false h64)))) (by decide) ?_
      refine HL.valg rfl (Val.move rfl) (by decide) ?_
      refine HL.skip rfl (by decide) ?_
      refine HL.skip rfl (by decide) ?_
      refine HL.skip rfl (by decide) ?_
      refine HL.skip rfl (by decide) ?_
      refine HL.skip rfl (by decide) ?_
      refine HL.valg rfl (Val.pickF rfl rfl) (by decide) ?_
      refine HL.val (Val.pickF rfl rfl) (by decide) ?_
      refine HL.nil ?_
      refine HQ.next ?_
      refine HC.no rfl ?_
      refine HC.skip ?_
      refine HQ.next ?_
      refine HC.seq ?_
      refine HC.region ?_
      refine HL.val (Val.move rfl) (by decide) ?_
      refine HL.val (Val.move rfl) (by decide) ?_
      refine HL.fam (FamV.call (R := fun r => True) (ob := fun r => .cells (flat (byA 16) (bitsL n k)) 30 (0, 0)) (pv := fun r => .tuple #[.slice (some ⟨r.1, 0, none⟩) k k, .bool true]) en49 (fun w hw => isplit_good (ht.sn hw.sn rfl) ln hk hlen) rfl) (fun _ h => by cases h) (by decide) ?_
      intro b1 c1 q1 r1 hb1
      dsimp only
      refine HL.val (Val.move rfl) (by decide) ?_
      refine HL.val (Val.extract rfl rfl) (by decide) ?_
      refine HL.val (Val.extract rfl rfl) (by decide) ?_
      refine HL.val (Val.assign rfl) (by decide) ?_
      refine HL.val (Val.assign rfl) (by decide) ?_
      refine HL.nil ?_
      refine HQ.next ?_
      refine HC.seq ?_
      refine HC.region ?_
      refine HL.fam (FamV.call (R := fun r => True) (ob := fun r => .cells (flat (byA 16) (bitsL 1 1)) 30 (0, 0)) (pv := fun r => .tuple #[.slice (some ⟨r.1, 0, none⟩) (1 : Nat) 1, .bool true]) en49 (fun w hw => isplit_good (n := 1) (k := 1) (ht.sn hw.sn rfl) (by decide) (by decide) one_bit) rfl) (fun _ h => by cases h) (by decide) ?_
      intro b2 c2 q2 r2 hb2
      dsimp only
      refine HL.val (Val.move rfl) (by decide) ?_
      refine HL.val (Val.extract rfl rfl) (by decide) ?_
      refine HL.val (Val.extract rfl rfl) (by decide) ?_
      refine HL.val (Val.assign rfl) (by decide) ?_
      refine HL.val (Val.assign rfl) (by decide) ?_
      refine HL.nil ?_
      refine HQ.next ?_
      refine HC.seq ?_
      refine HC.seq ?_
      refine HC.region ?_
      refine HL.val (Val.move rfl) (by decide) ?_
      refine HL.val ((Val.lss rfl rfl).as (congrArg Value.bool ((lssN k 64).trans (decide_eq_true (by omega))))) (by decide) ?_
      refine HL.val (Val.move rfl) (by decide) ?_
      refine HL.valg rfl (Val.move rfl) (by decide) ?_
      refine HL.valg rfl (Val.move rfl) (by decide) ?_
      refine HL.valg rfl ((Val.shrI rfl rfl (Int.natCast_nonneg _) (show ((k : Nat) : Int) ≤ 64 by omega)).as (congrArg (Value.int .u64) (shrN n k))) (by decide) ?_
      refine HL.valg rfl ((Val.gtr rfl rfl).as (congrArg Value.bool ((lssN 0 (n / 2 ^ k)).trans (decide_eq_false hpos)))) (by decide) ?_
      refine HL.val (Val.pickT rfl rfl) (by decide) ?_
      refine HL.nil ?_
      refine HQ.next ?_
      refine HC.no rfl ?_
      refine HC.skip ?_
      refine HQ.next ?_
      refine HC.seq ?_
      refine HC.seq ?_
      refine HC.region ?_
      refine HL.val (Val.move rfl) (by decide) ?_
      refine HL.val (Val.not rfl) (by decide) ?_
      refine HL.val (Val.move rfl) (by decide) ?_
      refine HL.valg rfl (Val.move rfl) (by decide) ?_
      refine HL.valg rfl (Val.lenS rfl rfl Tryd.underlying47) (by decide) ?_
      refine HL.valg rfl (Val.move rfl) (by decide) ?_
      refine HL.valg rfl ((Val.neqI rfl rfl).as (congrArg Value.bool (neqL rfl))) (by decide) ?_
      refine HL.val (Val.pickF rfl rfl) (by decide) ?_
      refine HL.nil ?_
      refine HQ.next ?_
      refine HC.no rfl ?_
      refine HC.skip ?_
      refine HQ.next ?_
      refine HC.seq ?_
      refine HC.seq ?_
      refine HC.region ?_
      refine HL.val (Val.move rfl) (by decide) ?_
      refine HL.val (Val.lenS rfl rfl Tryd.underlying47) (by decide) ?_
      refine HL.val (Val.move rfl) (by decide) ?_
      refine HL.nil ?_
      refine HQ.next ?_
      refine HC.block ?_
      refine HC.loop (ι := {p : Nat // p ≤ k}) (fun p => k - p.1) (fun p => [(0, .int .u64 (n : Int)), (5, .slice (some ⟨b1, 0, none⟩) k k), (62, .int .i64 (p.1 : Int)), (61, .int .i64 (k : Int))]) (fun p => [(b1, .cells (flat (byA 16) (bitsL n k)) 30 (0, 0))]) ⟨0, Nat.zero_le _⟩ (fun ac wc ha hw => ⟨ha.subS ⟨rfl, rfl, rfl, rfl, trivial⟩, hw.pick [1] (by simp)⟩) ?_
      rintro ⟨i, hi⟩
      dsimp only
      refine HC.seq ?_
      refine HC.region ?_
      by_cases hik : i < k
      · refine HL.val ((Val.lss rfl rfl).as (congrArg Value.bool ((lssN i k).trans (decide_eq_true hik)))) (by decide) ?_
        refine HL.nil ?_
        refine HQ.next ?_
        refine HC.seq ?_
        refine HC.yes rfl ?_
        refine HC.skip ?_
        refine HQ.next ?_
        refine HC.seq ?_
        refine HC.block ?_
        refine HC.seq ?_
        refine HC.region ?_
        refine HL.val (Val.move rfl) (by decide) ?_
        refine HL.val (Val.assign rfl) (by decide) ?_
        refine HL.nil ?_
        refine HQ.next ?_
        refine HC.seq ?_
        refine HC.draw0 10 (by kernel_rfl) (by kernel_rfl) ?_
        simp only [List.take, List.drop]
        refine HV.val (Val.move rfl) (by decide) ?_
        refine HV.val (Val.move rfl) (by decide) ?_
        refine HV.val (Val.ixSlice (s := 16) (i := i) (i * 16) rfl rfl Tryd.underlying47 (by kernel_rfl) hik (by omega)) (by decide) ?_
        refine HV.val (Val.load_mid rfl (fun w hw => hw.at (i := 0) rfl) (byA 16 (n / 2 ^ i % 2)) (row_map (f := fun i => n / 2 ^ i % 2) hik) Tryd.underlying30 rfl (by kernel_rfl)) (by decide) ?_
        refine HV.val (Val.call en22 (n_p (pf_by (bit_lt n i))) rfl) (by decide) ?_
        refine HV.val (Val.move rfl) (by decide) ?_
        refine HV.val (Val.move rfl) (by decide) ?_
        refine HV.val ((Val.shrI rfl rfl (Int.natCast_nonneg _) (show ((i : Nat) : Int) ≤ 64 by omega)).as (congrArg (Value.int .u64) (shrN n i))) (by decide) ?_
        refine HV.val ((Val.andI rfl rfl).as (congrArg (Value.int .u64) (andB i ln))) (by decide) ?_
        refine HV.val (Val.build rfl (built_wx ((n / 2 ^ i % 2)) (bit_u n i))) (by decide) ?_
        refine HV.tail0 ?_
        refine HL.val ((Val.neqA rfl rfl (by kernel_rfl) (neqW (lt_w (bit_lt n i)) (x_w (bit_u n i)))).as (congrArg Value.bool (neF rfl))) (by decide) ?_
        refine HL.nil ?_
        refine HQ.next ?_
        refine HC.no rfl ?_
        refine HC.skip ?_
        refine HQ.blockNormal ?_
        refine HQ.next ?_
        refine HC.region ?_
        refine HL.val ((Val.addI rfl rfl).as (congrArg (Value.int .i64) (wrap1 i (by omega)))) (by decide) ?_
        refine HL.val (Val.move rfl) (by decide) ?_
        refine HL.nil ?_
        exact ⟨fun ac wc ha hw => ⟨⟨i + 1, hik⟩, by dsimp only; omega, ha.subS ⟨rfl, rfl, rfl, rfl, trivial⟩, hw.pick [0] (by simp)⟩⟩
      · refine HL.val ((Val.lss rfl rfl).as (congrArg Value.bool ((lssN i k).trans (decide_eq_false hik)))) (by decide) ?_
        refine HL.nil ?_
        refine HQ.next ?_
        refine HC.seq ?_
        refine HC.no rfl ?_
        refine HC.exit ?_
        refine HQ.thenExit ?_
        refine HQ.thenExit ?_
        refine HQ.blockExit ?_
        refine HQ.next ?_
        refine HC.seq ?_
        refine HC.region ?_
        refine HL.val (Val.move rfl) (by decide) ?_
        refine HL.val (Val.calls en43 (fun w hw => ijoinB (hg.sn hw.sn rfl) (SlA.of_row szBy (hw.at (i := 0) rfl)) hk) rfl) (by decide) ?_
        refine HL.val (Val.move rfl) (by decide) ?_
        refine HL.val (Val.extract rfl rfl) (by decide) ?_
        refine HL.val (Val.extract rfl rfl) (by decide) ?_
        refine HL.new (New.alloc al30) (by decide) ?_
        intro b3 hb3
        refine HL.put 0 rfl (Put.row rfl rfl (by kernel_rfl) (szB _ _ _) (oneB _ _)) (.inl hb3) ?_
        simp only [List.set_cons_zero]
        refine HL.val (Val.assign rfl) (by decide) ?_
        refine HL.nil ?_
        refine HQ.next ?_
        refine HC.seq ?_
        refine HC.region ?_
        refine HL.val (Val.move rfl) (by decide) ?_
        refine HL.val (Val.move rfl) (by decide) ?_
        refine HL.valg rfl (Val.load_row rfl (fun w hw => hw.at (i := 0) rfl) Tryd.underlying30 rfl (by kernel_rfl)) (by decide) ?_
        refine HL.valg rfl (Val.call en22 (n_p (pf_by (evL_lt _ _))) rfl) (by decide) ?_
        refine HL.valg rfl (Val.move rfl) (by decide) ?_
        refine HL.valg rfl (Val.build rfl (built_wx n ln)) (by decide) ?_
        refine HL.valg rfl ((Val.eqlA rfl rfl (by kernel_rfl) (eqlW (lt_w (evL_lt _ _)) (x_w ln))).as (congrArg Value.bool (decide_eq_true heq))) (by decide) ?_
        refine HL.val (Val.pickT rfl rfl) (by decide) ?_
        refine HL.val (Val.assign rfl) (by decide) ?_
        refine HL.nil ?_
        refine HQ.next ?_
        refine HC.ret ?_
        exact HQ.ret1 rfl rfl (pure_end rfl)
  · have hge : 2 ^ k ≤ n := (bitLen_gt ln hk).1 (by omega)
    have hpos : 0 < n / 2 ^ k := Nat.div_pos hge (Nat.two_pow_pos k)
    have h64 : ¬ k = 64 := fun h => by subst h; exact absurd hge (by omega)
    refine calls_H (args := [.int .u64 (n : Int), .int .i64 (k : Int)]) noD [] Tryd.func14 rfl (m := 90) rfl rfl (hold_nil _ _) ?_
    refine HC.seq ?_
    refine HC.region ?_
    refine HL.val (Val.assign rfl) (by decide) ?_
    refine HL.nil ?_
    refine HQ.next ?_
    refine HC.seq ?_
    refine HC.seq ?_
    refine HC.region ?_
    refine HL.val (Val.move rfl) (by decide) ?_
    refine HL.val ((Val.lss rfl rfl).as (congrArg Value.bool (decide_eq_false hneg))) (by decide) ?_
    refine HL.val (Val.move rfl) (by decide) ?_
    refine HL.valg rfl (Val.move rfl) (by decide) ?_
    refine HL.valg rfl ((Val.gtr rfl rfl).as (congrArg Value.bool (decide_eq_false hbig))) (by decide) ?_
    refine HL.val (Val.pickF rfl rfl) (by decide) ?_
    refine HL.val (Val.move rfl) (by decide) ?_
    refine HL.valg rfl (Val.move rfl) (by decide) ?_
    refine HL.valg rfl (((Val.eqlI rfl rfl)).as (congrArg Value.bool ((eqlN k 64).trans (decide_eq_false h64)))) (by decide) ?_
    refine HL.valg rfl (Val.move rfl) (by decide) ?_
    refine HL.skip rfl (by decide) ?_
    refine HL.skip rfl (by decide) ?_
    refine HL.skip rfl (by decide) ?_
    refine HL.skip rfl (by decide) ?_
    refine HL.skip rfl (by decide) ?_
    refine HL.valg rfl (Val.pickF rfl rfl) (by decide) ?_
    refine HL.val (Val.pickF rfl rfl) (by decide) ?_
    refine HL.nil ?_
    refine HQ.next ?_
    refine HC.no rfl ?_
    refine HC.skip ?_
    refine HQ.next ?_
    refine HC.seq ?_
    refine HC.region ?_
    refine HL.val (Val.move rfl) (by decide) ?_
    refine HL.val (Val.move rfl) (by decide) ?_
    refine HL.val (Val.calls en49 (fun w hw => isplit_bad (ern_sn hn hw.sn) ln hk (by omega)) rfl) (by decide) ?_
    refine HL.val (Val.move rfl) (by decide) ?_
    refine HL.val (Val.extract rfl rfl) (by decide) ?_
    refine HL.val (Val.extract rfl rfl) (by decide) ?_
    refine HL.val (Val.assign rfl) (by decide) ?_
    refine HL.val (Val.assign rfl) (by decide) ?_
    refine HL.nil ?_
    refine HQ.next ?_
    refine HC.seq ?_
    refine HC.region ?_
    refine HL.fam (FamV.call (R := fun r => True) (ob := fun r => .cells (flat (byA 16) (bitsL 1 1)) 30 (0, 0)) (pv := fun r => .tuple #[.slice (some ⟨r.1, 0, none⟩) (1 : Nat) 1, .bool true]) en49 (fun w hw => isplit_good (n := 1) (k := 1) (ht.sn hw.sn rfl) (by decide) (by decide) one_bit) rfl) (fun _ h => by cases h) (by decide) ?_
    intro b1 c1 q1 r1 hb1
    dsimp only
    refine HL.val (Val.move rfl) (by decide) ?_
    refine HL.val (Val.extract rfl rfl) (by decide) ?_
    refine HL.val (Val.extract rfl rfl) (by decide) ?_
    refine HL.val (Val.assign rfl) (by decide) ?_
    refine HL.val (Val.assign rfl) (by decide) ?_
    refine HL.nil ?_
    refine HQ.next ?_
    refine HC.seq ?_
    refine HC.seq ?_
    refine HC.region ?_
    refine HL.val (Val.move rfl) (by decide) ?_
    refine HL.val ((Val.lss rfl rfl).as (congrArg Value.bool ((lssN k 64).trans (decide_eq_true (by omega))))) (by decide) ?_
    refine HL.val (Val.move rfl) (by decide) ?_
    refine HL.valg rfl (Val.move rfl) (by decide) ?_
    refine HL.valg rfl (Val.move rfl) (by decide) ?_
    refine HL.valg rfl ((Val.shrI rfl rfl (Int.natCast_nonneg _) (show ((k : Nat) : Int) ≤ 64 by omega)).as (congrArg (Value.int .u64) (shrN n k))) (by decide) ?_
    refine HL.valg rfl ((Val.gtr rfl rfl).as (congrArg Value.bool ((lssN 0 (n / 2 ^ k)).trans (decide_eq_true hpos)))) (by decide) ?_
    refine HL.val (Val.pickT rfl rfl) (by decide) ?_
    refine HL.nil ?_
    refine HQ.next ?_
    refine HC.yes rfl ?_
    refine HC.seq ?_
    refine HC.region ?_
    refine HL.val (Val.move rfl) (by decide) ?_
    refine HL.val (Val.not rfl) (by decide) ?_
    refine HL.val (Val.move rfl) (by decide) ?_
    refine HL.valg rfl (Val.move rfl) (by decide) ?_
    refine HL.val (Val.pickT rfl rfl) (by decide) ?_
    refine HL.val (Val.assign rfl) (by decide) ?_
    refine HL.nil ?_
    refine HQ.next ?_
    refine HC.ret ?_
    refine HQ.thenRet ?_
    exact HQ.ret1 rfl rfl (pure_end rfl)
set_option maxRecDepth 100000 in
theorem fnBits128_met (os : Os) (args : Array Value) : laidMetH Tryd.prog Rows.fnBits128Row.laid ((World.doorLaid Tryd.prog 400 os).forCall (fun _ _ => 0) ⟨#[], args, []⟩).memory :=
  laidMetH_of_parts3 (fuel := 8) (laidMet_of_run' 8 (by kernel_rfl) (by kernel_rfl)) (by kernel_rfl) (by kernel_rfl)
set_option maxRecDepth 100000 in
theorem fnBits128_lifted (os : Os) (started : os.Started) (H : Type) (enc : TypeId × Value → H) :
    ReturnsInHanded {} Tryd.checked os 14 .any (fun w args => (Rows.fnBits128Spec.pre enc Tryd.prog Tryd.f14 [] false w args ∧ laidMetH Tryd.prog Rows.fnBits128Row.laid w) ∧ sizedMet enc Tryd.prog Tryd.f14 (OpenSpec.ofChange Rows.fnBits128Spec) false w args)
      (Rows.fnBits128Spec.post enc Tryd.prog Tryd.f14 false true false false) := by
  refine returnsInHanded_of_change_and (C := Tryd.checked) (X := fun w _ => laidMetH Tryd.prog Rows.fnBits128Row.laid w) (fun _ _ _ hh h => h.of_heap hh) own1 started (by kernel_rfl) Tryd.func14
    (ChangeSpec.witness_shaped (enc := enc) (C := Tryd.checked) (os := os) (X := fun w _ => laidMetH Tryd.prog Rows.fnBits128Row.laid w) false (World.doorLaid Tryd.prog 400 os) #[.int .u64 0, .int .i64 0] 8 rfl (World.shaped_of_RefB (by kernel_rfl) (by kernel_rfl)) (by kernel_rfl) (by kernel_rfl) (by kernel_rfl) (fnBits128_met os _)) ?_
  intro W base args ds gs before hval0 hW _ _ hL _
  have hval : ∀ (j : Nat) t v, Tryd.f14.params[j]? = some t → args[j]? = some v → Value.okWide Tryd.prog W .any base t v := hval0
  have hW' := hW
  obtain ⟨p, q, hA0, hV, rfl, hfz, hnd⟩ := hW
  have hV0 := hV
  have hA : DataW.TrodAll enc Tryd.prog W 0 (fun _ => true) true Tryd.f14.params.toList args.toList ds p := hA0
  rw [Tryd.params14] at hA hval
  obtain ⟨v0, v1, d0, d1, p0, p1, rfl, rfl, rfl, h0, h1⟩ := trodAll_two hA
  obtain ⟨g0, g1, g2, rfl⟩ : ∃ g0 g1 g2, gs = [g0, g1, g2] := by
    have hgl := trodVars_len hV0
    match gs, hgl with
    | [g0, g1, g2], _ => exact ⟨g0, g1, g2, rfl⟩
  obtain ⟨ni, rfl, rfl, rfl, wn⟩ := open_int Tryd.underlying23 (hval 0 23 v0 rfl rfl) h0
  obtain ⟨n, rfl, ln⟩ := nat_of_u64 wn
  obtain ⟨ki, rfl, rfl, rfl, wk⟩ := open_int Tryd.underlying3 (hval 1 3 v1 rfl rfl) h1
  clear hA0 hval0
  refine (main_w (gr_at (laid_at (by kernel_rfl) hL 0 rfl)) (rt_at (laid_at (by kernel_rfl) hL 1 rfl)) (erN_at (laid_at (by kernel_rfl) hL 2 rfl)) ln).mono fun e W' ⟨he, hb⟩ => ?_
  subst he
  exact ⟨_, rfl, ⟨_, _, _, [], _, _, hW', trodAll_mk1 (shut_bool Tryd.underlying4 true), trodAll_mk2 (shut_int Tryd.underlying23 wn) (shut_int Tryd.underlying3 wk), Below.trodVars laidOut1 hb (by kernel_rfl) hV, hb.frame _, fun h => by cases h⟩⟩
theorem fnBits128_c1 : (Rows.fnBits128Row.inPlace == Tryd.pinned.checked.prog.inPlace 14) = true := by kernel_rfl
theorem fnBits128_c2 : (Rows.fnBits128Row.unfollowed == Tryd.pinned.checked.prog.unfollowed 14) = true := by kernel_rfl
theorem fnBits128_c3 : (Rows.fnBits128Row.recurses == Tryd.pinned.checked.prog.recurses 14) = true := by kernel_rfl
theorem fnBits128_c4 : (Rows.fnBits128Row.named == Tryd.pinned.checked.prog.varsNamed 14) = true := by kernel_rfl
theorem fnBits128_c5 : Rows.fnBits128Row.wf (OpenSpec.ofChange Rows.fnBits128Spec) = true := by kernel_rfl
theorem fnBits128_c8 : (Rows.fnBits128Row.plainKeys == Tryd.pinned.checked.prog.plainKeys) = true := by kernel_rfl
theorem fnBits128_d1 : (Rows.fnBits128Row.lifted == Tryd.pinned.checked.prog.liftsFinal) = true := by rw [lifts1]; rfl
theorem fnBits128_d2 : (Tryd.pinned.checked.prog.make == some Rows.fnBits128Row.make) = true := by rw [make1]; rfl
theorem looks1 : false = Tryd.pinned.checked.prog.looks [] := by kernel_rfl
theorem fnBits128_closed : joinedFacts Tryd.pinned.checked.prog 14 Tryd.f14 Rows.fnBits128Spec Rows.fnBits128Row = true := by
  delta joinedFacts
  repeat' with_reducible apply and_i
  all_goals first | with_reducible exact fnBits128_c1 | with_reducible exact fnBits128_c2 | with_reducible exact fnBits128_c3 | with_reducible exact fnBits128_c4 | with_reducible exact fnBits128_c5 | with_reducible exact c6 | with_reducible exact c7 | with_reducible exact fnBits128_c8 | with_reducible exact c9 | with_reducible exact may1 | with_reducible exact fnBits128_d1 | with_reducible exact fnBits128_d2 | kernel_rfl
theorem fnBits128_named : Tryd.pinned.checked.prog.funcNamed Rows.fnBits128Row.func = some 14 := by kernel_rfl
theorem fnBits128_inst : Tryd.f14.isInstance Tryd.pinned.checked.prog Rows.fnBits128Row.origin Rows.fnBits128Row.targs := of_decide_eq_true (by kernel_rfl)
theorem fnBits128_wrap : Tryd.f14.isWrapper Tryd.pinned.checked.prog Rows.fnBits128Row.wrapper Rows.fnBits128Row.mainSum := by unfold Func.isWrapper; first | (rw [if_pos (by decide +kernel)]; kernel_rfl) | (rw [if_neg (by decide +kernel)]; exact ⟨rfl, rfl⟩)
theorem fnBits128_holds : Rows.FnBits128Said :=
  OpenClaim.holds_of_wide 14 Tryd.f14 rfl rfl rfl rfl rfl rfl rfl ⟨rfl, rfl, rfl, rfl, rfl⟩ rfl rfl rfl rfl rfl fnBits128_named Tryd.func14 fnBits128_closed
    fnBits128_inst fnBits128_wrap
    (fun os started H enc _ => fnBits128_lifted os started H enc)
theorem fnBits128_w : Rows.fnBits128Row.wfByText (OpenSpec.ofChange Rows.fnBits128Spec) = true := by kernel_rfl
theorem fnBits128_main1 : Tryd.pinned.checked.prog.mainIs = some (Rows.fnBits128Card.stood.harness.1, Rows.fnBits128Card.stood.harness.2.toList) := main1.trans (by kernel_rfl)
theorem fnBits128_goes : false = Rows.fnBits128Row.goesBy Tryd.pinned.checked.prog := by kernel_rfl
theorem fnBits128_har : (!Rows.fnBits128Card.stood.harness.1 && Rows.fnBits128Card.stood.harness.2.isEmpty && !false) = false := by kernel_rfl
theorem fnBits128_hl : ∀ f fn, Tryd.pinned.checked.prog.funcNamed Rows.fnBits128Row.func = some f → Tryd.pinned.checked.prog.funcs[f]? = some fn → false = Tryd.pinned.checked.prog.looks [] ∧ ∀ (j : Nat) t, fn.params[j]? = some t → Tryd.pinned.checked.prog.wantsStandIn t = false := fun f fn hf hfn => by
  obtain rfl : f = 14 := (Option.some.inj (fnBits128_named.symm.trans hf)).symm
  obtain rfl : fn = Tryd.f14 := (Option.some.inj (Tryd.func14.symm.trans hfn)).symm
  exact ⟨looks1, fun j t ht => by
    rw [Tryd.params14] at ht
    have hm : t ∈ [23, 3] := by simpa using Array.mem_of_getElem? ht
    have hall : ([23, 3].all fun u => !Tryd.pinned.checked.prog.wantsStandIn u) = true := by kernel_rfl
    exact (show Tryd.pinned.checked.prog.wantsStandIn t = false by simpa using List.all_eq_true.1 hall t hm)⟩
theorem fnBits128Card_holds : Rows.FnBits128CardSaid :=
  Claim7.holds_tied_plain_at .later [] Rows.fnBits128Card.laidKinds true Rows.fnBits128Card.stood.harness false
    fnBits128_holds (fun _ h => by cases h) fnBits128_w (fun _ h => by cases h) fnBits128_row_tie rfl ⟨rfl, rfl⟩ fnBits128_main1 fnBits128_har fnBits128_hl fnBits128_goes
#print axioms fnBits128Card_holds
end Go.Proofs.YtgdfdkpkhjbibaaDoor
