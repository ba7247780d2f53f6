/-
  The reference's numbers of 128 bits and its field (written by gensp.py).
-/
import Derived.Test.YtgdfdkpkhjbibaaDoorFp2
namespace Go.Proofs.YtgdfdkpkhjbibaaDoor
open Go.RowKit
/-- A number of 128 bits, as the reference has it. -/
def wA (n : Nat) : Array Value := #[.int .u64 (n % 18446744073709551616 : Nat), .int .u64 (n / 18446744073709551616 : Nat)]
theorem wA_one (n : Nat) : (wA n).all (·.oneCell') = true := by simp [wA, Value.oneCell']
theorem szW (a b : Nat) : (wA a).size = (wA b).size := rfl
/-- The field, as the reference has it. -/
def fA : Array Value := #[.int .u64 1, .int .u64 18446744073709551588, .int .i64 128, .int .i64 66]
theorem fA_P : ∀ j, j < (wA pf).size → fA[0 + j]? = (wA pf)[j]? := fun
  | 0, _ => rfl
  | 1, _ => rfl
theorem pf_w : pf < 2 ^ 128 := by decide +kernel
theorem hiW {n : Nat} (h : n < 2 ^ 128) : n / 18446744073709551616 < 18446744073709551616 := by
  have e : (2 : Nat) ^ 128 = 18446744073709551616 * 18446744073709551616 := by decide
  exact Nat.div_lt_of_lt_mul (by rw [← e]; exact h)
theorem lt_w {n : Nat} (h : n < pf) : n < 2 ^ 128 := Nat.lt_trans h pf_w
/-- Difference and sum of words. -/
theorem sbW_ex : ∃ f : Nat → Nat → Nat, ∀ a b, f a b = (a + 18446744073709551616 - b) % 18446744073709551616 := ⟨_, fun _ _ => rfl⟩
noncomputable def sbW : Nat → Nat → Nat := Classical.choose sbW_ex
theorem sbW_eq (a b : Nat) : sbW a b = (a + 18446744073709551616 - b) % 18446744073709551616 := Classical.choose_spec sbW_ex a b
theorem sbW_lt (a b : Nat) : sbW a b < 18446744073709551616 := by rw [sbW_eq]; exact Nat.mod_lt _ (by decide)
theorem adW_ex : ∃ f : Nat → Nat → Nat, ∀ a b, f a b = (a + b) % 18446744073709551616 := ⟨_, fun _ _ => rfl⟩
noncomputable def adW : Nat → Nat → Nat := Classical.choose adW_ex
theorem adW_eq (a b : Nat) : adW a b = (a + b) % 18446744073709551616 := Classical.choose_spec adW_ex a b
theorem adW_lt (a b : Nat) : adW a b < 18446744073709551616 := by rw [adW_eq]; exact Nat.mod_lt _ (by decide)
theorem wsubN {Y : Int} (x y : Nat) (hY : Y = y) (hx : x < 18446744073709551616) (hy : y < 18446744073709551616) : IntKind.u64.wrap ((x : Int) - Y) = (sbW x y : Int) := by
  subst hY; rw [IntKind.wrap_u64, sbW_eq]; omega
theorem waddN {Y : Int} (x y : Nat) (hY : Y = y) : IntKind.u64.wrap ((x : Int) + Y) = (adW x y : Int) := by
  subst hY; rw [IntKind.wrap_u64, adW_eq]; omega
theorem eqlN (x y : Nat) : ((x : Int) == (y : Int)) = decide (x = y) := by
  rw [Bool.eq_iff_iff, beq_iff_eq, decide_eq_true_eq]; omega
theorem cells_two (x y : Int) : #[Value.int .u64 x, .int .u64 y].all (·.oneCell') = true := by simp [Value.oneCell']
theorem cells_w {x y n : Nat} (h0 : x = n % 18446744073709551616) (h1 : y = n / 18446744073709551616) : #[Value.int .u64 (x : Int), .int .u64 (y : Int)] = wA n := by subst h0 h1; rfl
/-- A difference modulo 2^128. -/
theorem lss_ex : ∃ f : Nat → Nat → Nat, ∀ a b, f a b = (a + 340282366920938463463374607431768211456 - b) % 340282366920938463463374607431768211456 := ⟨_, fun _ _ => rfl⟩
noncomputable def lssW : Nat → Nat → Nat := Classical.choose lss_ex
theorem lssW_eq (a b : Nat) : lssW a b = (a + 340282366920938463463374607431768211456 - b) % 340282366920938463463374607431768211456 := Classical.choose_spec lss_ex a b
theorem lssW_lt (a b : Nat) : lssW a b < 2 ^ 128 := by rw [lssW_eq]; exact Nat.mod_lt _ (by decide)
theorem lssW_of {a b : Nat} (h : b ≤ a) (ha : a < 2 ^ 128) : lssW a b = a - b := by
  rw [lssW_eq]
  have e : (2 : Nat) ^ 128 = 340282366920938463463374607431768211456 := by decide
  rw [e] at ha
  omega
set_option maxRecDepth 100000 in
theorem al25 (w : World) : (Instr.alloc 25 true (.tuple #[])).run Tryd.prog w = .ok (.pointer (some ⟨w.heap.size, 0, none⟩)) (w.alloc (.cells (wA 0) 25 (0, 0))) := rfl
theorem built_w0 : Tryd.prog.built 25 [] = some (wA 0) := by kernel_rfl
theorem built_wP : Tryd.prog.built 25 [(0, .int .u64 1), (1, .int .u64 18446744073709551588)] = some (wA pf) := by kernel_rfl
theorem built_w (x y : Nat) : Tryd.prog.built 25 [(0, .int .u64 (x : Int)), (1, .int .u64 (y : Int))] = some #[.int .u64 (x : Int), .int .u64 (y : Int)] := by kernel_rfl
theorem built_fA : Tryd.prog.built 27 [(0, .agg (wA pf)), (1, .int .i64 128), (2, .int .i64 66)] = some fA := by kernel_rfl
def fZ : Array Value := #[.int .u64 0, .int .u64 0, .int .i64 0, .int .i64 0]
set_option maxRecDepth 100000 in
theorem al27 (w : World) : (Instr.alloc 27 true (.tuple #[])).run Tryd.prog w = .ok (.pointer (some ⟨w.heap.size, 0, none⟩)) (w.alloc (.cells fZ 27 (0, 0))) := rfl

set_option maxRecDepth 100000 in
theorem below_p (a b : Nat) : Pure Tryd.prog 77 #[.agg (wA a), .agg (wA b)] (.bool (decide (a < b))) := by
  intro w
  by_cases h1 : a / 18446744073709551616 < b / 18446744073709551616
  · refine calls_H (args := [.agg (wA a), .agg (wA b)]) noD [] Tryd.func77 rfl (m := 24) rfl rfl (hold_nil _ _) ?_
    refine HC.seq ?_
    refine HC.region ?_
    refine HL.new (New.box rfl) (by decide) ?_
    intro b1 hb1
    refine HL.new (New.box rfl) (by decide) ?_
    intro b2 hb2
    refine HL.val (Val.assign rfl) (by decide) ?_
    refine HL.nil ?_
    refine HQ.next ?_
    refine HC.seq ?_
    refine HC.region ?_
    refine HL.val (Val.ixAddrQ (1) (i := 1) (m := 2) (s := 1) (e := 23) rfl rfl Tryd.underlying25 (by kernel_rfl) (by decide) (by omega)) (by decide) ?_
    refine HL.val (Val.load_cell rfl (fun w hw => hw.at (i := 1) rfl) rfl Tryd.underlying23 rfl) (by decide) ?_
    refine HL.val (Val.ixAddrQ (1) (i := 1) (m := 2) (s := 1) (e := 23) rfl rfl Tryd.underlying25 (by kernel_rfl) (by decide) (by omega)) (by decide) ?_
    refine HL.val (Val.load_cell rfl (fun w hw => hw.at (i := 0) rfl) rfl Tryd.underlying23 rfl) (by decide) ?_
    refine HL.val (((Val.lss rfl rfl).as (congrArg Value.bool (lssN ((a / 18446744073709551616)) ((b / 18446744073709551616))))).as (congrArg Value.bool (decide_eq_true h1))) (by decide) ?_
    refine HL.val (Val.move rfl) (by decide) ?_
    refine HL.skip rfl (by decide) ?_
    refine HL.skip rfl (by decide) ?_
    refine HL.skip rfl (by decide) ?_
    refine HL.skip rfl (by decide) ?_
    refine HL.skip rfl (by decide) ?_
    refine HL.skip rfl (by decide) ?_
    refine HL.skip rfl (by decide) ?_
    refine HL.skip rfl (by decide) ?_
    refine HL.skip rfl (by decide) ?_
    refine HL.skip rfl (by decide) ?_
    refine HL.skip rfl (by decide) ?_
    refine HL.skip rfl (by decide) ?_
    refine HL.val (Val.pickT rfl rfl) (by decide) ?_
    refine HL.val (Val.assign rfl) (by decide) ?_
    refine HL.nil ?_
    refine HQ.next ?_
    refine HC.ret ?_
    exact HQ.ret1 rfl rfl (pure_end (congrArg Value.bool (decide_eq_true (show a < b by omega)).symm))
  by_cases h2 : a / 18446744073709551616 = b / 18446744073709551616
  · refine calls_H (args := [.agg (wA a), .agg (wA b)]) noD [] Tryd.func77 rfl (m := 24) rfl rfl (hold_nil _ _) ?_
    refine HC.seq ?_
    refine HC.region ?_
    refine HL.new (New.box rfl) (by decide) ?_
    intro b1 hb1
    refine HL.new (New.box rfl) (by decide) ?_
    intro b2 hb2
    refine HL.val (Val.assign rfl) (by decide) ?_
    refine HL.nil ?_
    refine HQ.next ?_
    refine HC.seq ?_
    refine HC.region ?_
    refine HL.val (Val.ixAddrQ (1) (i := 1) (m := 2) (s := 1) (e := 23) rfl rfl Tryd.underlying25 (by kernel_rfl) (by decide) (by omega)) (by decide) ?_
    refine HL.val (Val.load_cell rfl (fun w hw => hw.at (i := 1) rfl) rfl Tryd.underlying23 rfl) (by decide) ?_
    refine HL.val (Val.ixAddrQ (1) (i := 1) (m := 2) (s := 1) (e := 23) rfl rfl Tryd.underlying25 (by kernel_rfl) (by decide) (by omega)) (by decide) ?_
    refine HL.val (Val.load_cell rfl (fun w hw => hw.at (i := 0) rfl) rfl Tryd.underlying23 rfl) (by decide) ?_
    refine HL.val (((Val.lss rfl rfl).as (congrArg Value.bool (lssN ((a / 18446744073709551616)) ((b / 18446744073709551616))))).as (congrArg Value.bool (decide_eq_false h1))) (by decide) ?_
    refine HL.val (Val.move rfl) (by decide) ?_
    refine HL.valg rfl (Val.ixAddrQ (1) (i := 1) (m := 2) (s := 1) (e := 23) rfl rfl Tryd.underlying25 (by kernel_rfl) (by decide) (by omega)) (by decide) ?_
    refine HL.valg rfl (Val.load_cell rfl (fun w hw => hw.at (i := 1) rfl) rfl Tryd.underlying23 rfl) (by decide) ?_
    refine HL.valg rfl (Val.ixAddrQ (1) (i := 1) (m := 2) (s := 1) (e := 23) rfl rfl Tryd.underlying25 (by kernel_rfl) (by decide) (by omega)) (by decide) ?_
    refine HL.valg rfl (Val.load_cell rfl (fun w hw => hw.at (i := 0) rfl) rfl Tryd.underlying23 rfl) (by decide) ?_
    refine HL.valg rfl (((Val.eqlI rfl rfl).as (congrArg Value.bool (eqlN ((a / 18446744073709551616)) ((b / 18446744073709551616))))).as (congrArg Value.bool (decide_eq_true h2))) (by decide) ?_
    refine HL.valg rfl (Val.move rfl) (by decide) ?_
    refine HL.valg rfl (Val.ixAddrQ (0) (i := 0) (m := 2) (s := 1) (e := 23) rfl rfl Tryd.underlying25 (by kernel_rfl) (by decide) (by omega)) (by decide) ?_
    refine HL.valg rfl (Val.load_cell rfl (fun w hw => hw.at (i := 1) rfl) rfl Tryd.underlying23 rfl) (by decide) ?_
    refine HL.valg rfl (Val.ixAddrQ (0) (i := 0) (m := 2) (s := 1) (e := 23) rfl rfl Tryd.underlying25 (by kernel_rfl) (by decide) (by omega)) (by decide) ?_
    refine HL.valg rfl (Val.load_cell rfl (fun w hw => hw.at (i := 0) rfl) rfl Tryd.underlying23 rfl) (by decide) ?_
    refine HL.valg rfl ((Val.lss rfl rfl).as (congrArg Value.bool (lssN ((a % 18446744073709551616)) ((b % 18446744073709551616))))) (by decide) ?_
    refine HL.valg rfl (Val.pickT rfl rfl) (by decide) ?_
    refine HL.val (Val.pickF rfl rfl) (by decide) ?_
    refine HL.val (Val.assign rfl) (by decide) ?_
    refine HL.nil ?_
    refine HQ.next ?_
    refine HC.ret ?_
    exact HQ.ret1 rfl rfl (pure_end (congrArg Value.bool (show decide (a % 18446744073709551616 < b % 18446744073709551616) = decide (a < b) from by rw [Bool.eq_iff_iff]; simp only [decide_eq_true_eq]; omega)))
  · refine calls_H (args := [.agg (wA a), .agg (wA b)]) noD [] Tryd.func77 rfl (m := 24) rfl rfl (hold_nil _ _) ?_
    refine HC.seq ?_
    refine HC.region ?_
    refine HL.new (New.box rfl) (by decide) ?_
    intro b1 hb1
    refine HL.new (New.box rfl) (by decide) ?_
    intro b2 hb2
    refine HL.val (Val.assign rfl) (by decide) ?_
    refine HL.nil ?_
    refine HQ.next ?_
    refine HC.seq ?_
    refine HC.region ?_
    refine HL.val (Val.ixAddrQ (1) (i := 1) (m := 2) (s := 1) (e := 23) rfl rfl Tryd.underlying25 (by kernel_rfl) (by decide) (by omega)) (by decide) ?_
    refine HL.val (Val.load_cell rfl (fun w hw => hw.at (i := 1) rfl) rfl Tryd.underlying23 rfl) (by decide) ?_
    refine HL.val (Val.ixAddrQ (1) (i := 1) (m := 2) (s := 1) (e := 23) rfl rfl Tryd.underlying25 (by kernel_rfl) (by decide) (by omega)) (by decide) ?_
    refine HL.val (Val.load_cell rfl (fun w hw => hw.at (i := 0) rfl) rfl Tryd.underlying23 rfl) (by decide) ?_
    refine HL.val (((Val.lss rfl rfl).as (congrArg Value.bool (lssN ((a / 18446744073709551616)) ((b / 18446744073709551616))))).as (congrArg Value.bool (decide_eq_false h1))) (by decide) ?_
    refine HL.val (Val.move rfl) (by decide) ?_
    refine HL.valg rfl (Val.ixAddrQ (1) (i := 1) (m := 2) (s := 1) (e := 23) rfl rfl Tryd.underlying25 (by kernel_rfl) (by decide) (by omega)) (by decide) ?_
    refine HL.valg rfl (Val.load_cell rfl (fun w hw => hw.at (i := 1) rfl) rfl Tryd.underlying23 rfl) (by decide) ?_
    refine HL.valg rfl (Val.ixAddrQ (1) (i := 1) (m := 2) (s := 1) (e := 23) rfl rfl Tryd.underlying25 (by kernel_rfl) (by decide) (by omega)) (by decide) ?_
    refine HL.valg rfl (Val.load_cell rfl (fun w hw => hw.at (i := 0) rfl) rfl Tryd.underlying23 rfl) (by decide) ?_
    refine HL.valg rfl (((Val.eqlI rfl rfl).as (congrArg Value.bool (eqlN ((a / 18446744073709551616)) ((b / 18446744073709551616))))).as (congrArg Value.bool (decide_eq_false h2))) (by decide) ?_
    refine HL.valg rfl (Val.move rfl) (by decide) ?_
    refine HL.skip rfl (by decide) ?_
    refine HL.skip rfl (by decide) ?_
    refine HL.skip rfl (by decide) ?_
    refine HL.skip rfl (by decide) ?_
    refine HL.skip rfl (by decide) ?_
    refine HL.valg rfl (Val.pickF rfl rfl) (by decide) ?_
    refine HL.val (Val.pickF rfl rfl) (by decide) ?_
    refine HL.val (Val.assign rfl) (by decide) ?_
    refine HL.nil ?_
    refine HQ.next ?_
    refine HC.ret ?_
    exact HQ.ret1 rfl rfl (pure_end (congrArg Value.bool (decide_eq_false (show ¬ a < b by omega)).symm))

set_option maxRecDepth 100000 in
theorem less_c (u0 u1 v0 v1 : Nat) (hu0 : u0 < 18446744073709551616) (hu1 : u1 < 18446744073709551616) (hv0 : v0 < 18446744073709551616) (hv1 : v1 < 18446744073709551616) : Pure Tryd.prog 70 #[.agg #[.int .u64 ((u0 : Nat) : Int), .int .u64 ((u1 : Nat) : Int)], .agg #[.int .u64 ((v0 : Nat) : Int), .int .u64 ((v1 : Nat) : Int)]] (.agg (wA (lssW (u0 + 18446744073709551616 * u1) (v0 + 18446744073709551616 * v1)))) := by
  intro w
  by_cases h1 : u0 < v0
  · refine calls_H (args := [.agg #[.int .u64 ((u0 : Nat) : Int), .int .u64 ((u1 : Nat) : Int)], .agg #[.int .u64 ((v0 : Nat) : Int), .int .u64 ((v1 : Nat) : Int)]]) noD [] Tryd.func70 rfl (m := 27) rfl rfl (hold_nil _ _) ?_
    refine HC.seq ?_
    refine HC.region ?_
    refine HL.new (New.box rfl) (by decide) ?_
    intro b1 hb1
    refine HL.new (New.box rfl) (by decide) ?_
    intro b2 hb2
    refine HL.new (New.alloc al25) (by decide) ?_
    intro b3 hb3
    refine HL.nil ?_
    refine HQ.next ?_
    refine HC.seq ?_
    refine HC.region ?_
    refine HL.val (Val.ixAddrQ (0) (i := 0) (m := 2) (s := 1) (e := 23) rfl rfl Tryd.underlying25 (by kernel_rfl) (by decide) (by omega)) (by decide) ?_
    refine HL.val (Val.load_cell rfl (fun w hw => hw.at (i := 2) rfl) rfl Tryd.underlying23 rfl) (by decide) ?_
    refine HL.val (Val.ixAddrQ (0) (i := 0) (m := 2) (s := 1) (e := 23) rfl rfl Tryd.underlying25 (by kernel_rfl) (by decide) (by omega)) (by decide) ?_
    refine HL.val (Val.load_cell rfl (fun w hw => hw.at (i := 1) rfl) rfl Tryd.underlying23 rfl) (by decide) ?_
    refine HL.val ((Val.subI rfl rfl).as (congrArg (Value.int .u64) (wsubN u0 v0 rfl hu0 hv0))) (by decide) ?_
    refine HL.val (Val.ixAddrQ (1) (i := 1) (m := 2) (s := 1) (e := 23) rfl rfl Tryd.underlying25 (by kernel_rfl) (by decide) (by omega)) (by decide) ?_
    refine HL.val (Val.load_cell rfl (fun w hw => hw.at (i := 2) rfl) rfl Tryd.underlying23 rfl) (by decide) ?_
    refine HL.val (Val.ixAddrQ (1) (i := 1) (m := 2) (s := 1) (e := 23) rfl rfl Tryd.underlying25 (by kernel_rfl) (by decide) (by omega)) (by decide) ?_
    refine HL.val (Val.load_cell rfl (fun w hw => hw.at (i := 1) rfl) rfl Tryd.underlying23 rfl) (by decide) ?_
    refine HL.val ((Val.subI rfl rfl).as (congrArg (Value.int .u64) (wsubN u1 v1 rfl hu1 hv1))) (by decide) ?_
    refine HL.val (Val.build rfl (built_w ((sbW u0 v0)) ((sbW u1 v1)))) (by decide) ?_
    refine HL.new (New.alloc al25) (by decide) ?_
    intro b4 hb4
    refine HL.put 0 rfl (Put.row rfl rfl (by kernel_rfl) rfl (cells_two _ _)) (.inl hb4) ?_
    simp only [List.set_cons_zero]
    refine HL.nil ?_
    refine HQ.next ?_
    refine HC.seq ?_
    refine HC.seq ?_
    refine HC.region ?_
    refine HL.val (Val.ixAddrQ (0) (i := 0) (m := 2) (s := 1) (e := 23) rfl rfl Tryd.underlying25 (by kernel_rfl) (by decide) (by omega)) (by decide) ?_
    refine HL.val (Val.load_cell rfl (fun w hw => hw.at (i := 3) rfl) rfl Tryd.underlying23 rfl) (by decide) ?_
    refine HL.val (Val.ixAddrQ (0) (i := 0) (m := 2) (s := 1) (e := 23) rfl rfl Tryd.underlying25 (by kernel_rfl) (by decide) (by omega)) (by decide) ?_
    refine HL.val (Val.load_cell rfl (fun w hw => hw.at (i := 2) rfl) rfl Tryd.underlying23 rfl) (by decide) ?_
    refine HL.val (((Val.lss rfl rfl).as (congrArg Value.bool (lssN u0 v0))).as (congrArg Value.bool (decide_eq_true h1))) (by decide) ?_
    refine HL.nil ?_
    refine HQ.next ?_
    refine HC.yes rfl ?_
    refine HC.region ?_
    refine HL.val (Val.ixAddrQ (1) (i := 1) (m := 2) (s := 1) (e := 23) rfl rfl Tryd.underlying25 (by kernel_rfl) (by decide) (by omega)) (by decide) ?_
    refine HL.val (Val.load_cell rfl (fun w hw => hw.at (i := 0) rfl) rfl Tryd.underlying23 rfl) (by decide) ?_
    refine HL.val ((Val.subI rfl rfl).as (congrArg (Value.int .u64) (wsubN ((sbW u1 v1)) 1 (by omega) (sbW_lt _ _) (by decide)))) (by decide) ?_
    refine HL.val (Val.ixAddrQ (1) (i := 1) (m := 2) (s := 1) (e := 23) rfl rfl Tryd.underlying25 (by kernel_rfl) (by decide) (by omega)) (by decide) ?_
    refine HL.put 0 rfl (Put.two1 rfl rfl (by kernel_rfl) rfl) (.inl hb4) ?_
    simp only [List.set_cons_zero]
    refine HL.nil ?_
    refine HQ.next ?_
    refine HC.seq ?_
    refine HC.region ?_
    refine HL.val (Val.load_row rfl (fun w hw => hw.at (i := 0) rfl) Tryd.underlying25 rfl (by kernel_rfl)) (by decide) ?_
    refine HL.put 1 rfl (Put.row rfl rfl (by kernel_rfl) rfl (cells_two _ _)) (.inl hb3) ?_
    simp only [List.set_cons_zero, List.set_cons_succ]
    refine HL.nil ?_
    refine HQ.next ?_
    refine HC.ret ?_
    exact HQ.retc 1 rfl rfl rfl Tryd.underlying25 rfl (by kernel_rfl) (pure_end (congrArg Value.agg (cells_w (by rw [lssW_eq]; simp only [sbW_eq]; omega) (by rw [lssW_eq]; simp only [sbW_eq]; omega))))
  · refine calls_H (args := [.agg #[.int .u64 ((u0 : Nat) : Int), .int .u64 ((u1 : Nat) : Int)], .agg #[.int .u64 ((v0 : Nat) : Int), .int .u64 ((v1 : Nat) : Int)]]) noD [] Tryd.func70 rfl (m := 27) rfl rfl (hold_nil _ _) ?_
    refine HC.seq ?_
    refine HC.region ?_
    refine HL.new (New.box rfl) (by decide) ?_
    intro b1 hb1
    refine HL.new (New.box rfl) (by decide) ?_
    intro b2 hb2
    refine HL.new (New.alloc al25) (by decide) ?_
    intro b3 hb3
    refine HL.nil ?_
    refine HQ.next ?_
    refine HC.seq ?_
    refine HC.region ?_
    refine HL.val (Val.ixAddrQ (0) (i := 0) (m := 2) (s := 1) (e := 23) rfl rfl Tryd.underlying25 (by kernel_rfl) (by decide) (by omega)) (by decide) ?_
    refine HL.val (Val.load_cell rfl (fun w hw => hw.at (i := 2) rfl) rfl Tryd.underlying23 rfl) (by decide) ?_
    refine HL.val (Val.ixAddrQ (0) (i := 0) (m := 2) (s := 1) (e := 23) rfl rfl Tryd.underlying25 (by kernel_rfl) (by decide) (by omega)) (by decide) ?_
    refine HL.val (Val.load_cell rfl (fun w hw => hw.at (i := 1) rfl) rfl Tryd.underlying23 rfl) (by decide) ?_
    refine HL.val ((Val.subI rfl rfl).as (congrArg (Value.int .u64) (wsubN u0 v0 rfl hu0 hv0))) (by decide) ?_
    refine HL.val (Val.ixAddrQ (1) (i := 1) (m := 2) (s := 1) (e := 23) rfl rfl Tryd.underlying25 (by kernel_rfl) (by decide) (by omega)) (by decide) ?_
    refine HL.val (Val.load_cell rfl (fun w hw => hw.at (i := 2) rfl) rfl Tryd.underlying23 rfl) (by decide) ?_
    refine HL.val (Val.ixAddrQ (1) (i := 1) (m := 2) (s := 1) (e := 23) rfl rfl Tryd.underlying25 (by kernel_rfl) (by decide) (by omega)) (by decide) ?_
    refine HL.val (Val.load_cell rfl (fun w hw => hw.at (i := 1) rfl) rfl Tryd.underlying23 rfl) (by decide) ?_
    refine HL.val ((Val.subI rfl rfl).as (congrArg (Value.int .u64) (wsubN u1 v1 rfl hu1 hv1))) (by decide) ?_
    refine HL.val (Val.build rfl (built_w ((sbW u0 v0)) ((sbW u1 v1)))) (by decide) ?_
    refine HL.new (New.alloc al25) (by decide) ?_
    intro b4 hb4
    refine HL.put 0 rfl (Put.row rfl rfl (by kernel_rfl) rfl (cells_two _ _)) (.inl hb4) ?_
    simp only [List.set_cons_zero]
    refine HL.nil ?_
    refine HQ.next ?_
    refine HC.seq ?_
    refine HC.seq ?_
    refine HC.region ?_
    refine HL.val (Val.ixAddrQ (0) (i := 0) (m := 2) (s := 1) (e := 23) rfl rfl Tryd.underlying25 (by kernel_rfl) (by decide) (by omega)) (by decide) ?_
    refine HL.val (Val.load_cell rfl (fun w hw => hw.at (i := 3) rfl) rfl Tryd.underlying23 rfl) (by decide) ?_
    refine HL.val (Val.ixAddrQ (0) (i := 0) (m := 2) (s := 1) (e := 23) rfl rfl Tryd.underlying25 (by kernel_rfl) (by decide) (by omega)) (by decide) ?_
    refine HL.val (Val.load_cell rfl (fun w hw => hw.at (i := 2) rfl) rfl Tryd.underlying23 rfl) (by decide) ?_
    refine HL.val (((Val.lss rfl rfl).as (congrArg Value.bool (lssN u0 v0))).as (congrArg Value.bool (decide_eq_false h1))) (by decide) ?_
    refine HL.nil ?_
    refine HQ.next ?_
    refine HC.no rfl ?_
    refine HC.skip ?_
    refine HQ.next ?_
    refine HC.seq ?_
    refine HC.region ?_
    refine HL.val (Val.load_row rfl (fun w hw => hw.at (i := 0) rfl) Tryd.underlying25 rfl (by kernel_rfl)) (by decide) ?_
    refine HL.put 1 rfl (Put.row rfl rfl (by kernel_rfl) rfl (cells_two _ _)) (.inl hb3) ?_
    simp only [List.set_cons_zero, List.set_cons_succ]
    refine HL.nil ?_
    refine HQ.next ?_
    refine HC.ret ?_
    exact HQ.retc 1 rfl rfl rfl Tryd.underlying25 rfl (by kernel_rfl) (pure_end (congrArg Value.agg (cells_w (by rw [lssW_eq]; simp only [sbW_eq]; omega) (by rw [lssW_eq]; simp only [sbW_eq]; omega))))
theorem less_p (a b : Nat) (ha : a < 2 ^ 128) (hb : b < 2 ^ 128) : Pure Tryd.prog 70 #[.agg (wA a), .agg (wA b)] (.agg (wA (lssW a b))) := by
  have h := less_c (a % 18446744073709551616) (a / 18446744073709551616) (b % 18446744073709551616) (b / 18446744073709551616) (Nat.mod_lt _ (by decide)) (hiW ha) (Nat.mod_lt _ (by decide)) (hiW hb)
  rwa [Nat.mod_add_div, Nat.mod_add_div] at h
end Go.Proofs.YtgdfdkpkhjbibaaDoor
