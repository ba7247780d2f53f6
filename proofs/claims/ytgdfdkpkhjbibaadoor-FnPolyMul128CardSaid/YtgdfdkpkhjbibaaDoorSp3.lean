/-
  The reference's sum, difference, product, power (written by gensp3.py).
-/
import Derived.Test.YtgdfdkpkhjbibaaDoorSp2
import Derived.Test.YtgdfdkpkhjbibaaDoorPol
namespace Go.Proofs.YtgdfdkpkhjbibaaDoor
open Go.RowKit
/-- A number behind a list's end, counted down. -/
def idxI : Nat → Int
  | 0 => -1
  | q + 1 => (q : Int)
theorem idx_wrap {q : Nat} (h : q < 4611686018427387904) : IntKind.i64.wrap ((q : Int) - 1) = idxI q := by
  rw [IntKind.wrap_i64]
  cases q with
  | zero => rfl
  | succ q => show (((q + 1 : Nat) : Int) - 1 + 9223372036854775808) % 18446744073709551616 - 9223372036854775808 = (q : Int); omega
theorem geq0 (q : Nat) : decide ((0 : Int) ≤ (q : Int)) = true := decide_eq_true (Int.natCast_nonneg q)
theorem by_w {n : Nat} (h : n < 256 ^ 16) : n < 2 ^ 128 := Nat.lt_of_lt_of_le h (by decide)
theorem neq_of_eql {P : Program} {t : TypeId} {x y : Value} {c : Bool} (hx : ∃ xs, x = .agg xs) (hy : ∃ ys, y = .agg ys) (h : ∀ w, (binOp .eql t x y).run P w = .ok (.bool c) w) : ∀ w, (binOp .neq t x y).run P w = .ok (.bool (!c)) w := fun w => by
  obtain ⟨xs, rfl⟩ := hx
  obtain ⟨ys, rfl⟩ := hy
  have h := h w
  simp only [binOp, Sem.run_bind] at h ⊢
  cases hq : (Op.equal t (.agg xs) (.agg ys)).run P w with
  | ok b w' =>
    rw [hq] at h
    simp only [Result.andThen_ok, Sem.run_pure] at h ⊢
    cases h; rfl
  | halt e w' => rw [hq] at h; cases h
theorem eqlW {a b : Nat} (_ha : a < 2 ^ 128) (_hb : b < 2 ^ 128) : ∀ w, (binOp .eql 25 (.agg (wA a)) (.agg (wA b))).run Tryd.prog w = .ok (.bool (decide (a = b))) w := fun w => by
  rw [run_eql_ints 25 23 .u64 2 _ _ (fun i => match i with | 0 => ((a % 18446744073709551616 : Nat) : Int) | _ => ((a / 18446744073709551616 : Nat) : Int)) (fun i => match i with | 0 => ((b % 18446744073709551616 : Nat) : Int) | _ => ((b / 18446744073709551616 : Nat) : Int)) Tryd.underlying25 Tryd.underlying23 (by kernel_rfl)
    (fun i hi => match i, hi with | 0, _ => rfl | 1, _ => rfl) (fun i hi => match i, hi with | 0, _ => rfl | 1, _ => rfl) w]
  congr 2
  rw [Bool.eq_iff_iff]
  simp only [decide_eq_true_eq]
  refine ⟨fun h => ?_, fun h => by subst h; intro i _; rfl⟩
  have h0 : ((a % 18446744073709551616 : Nat) : Int) = ((b % 18446744073709551616 : Nat) : Int) := h 0 (by decide)
  have h1 : ((a / 18446744073709551616 : Nat) : Int) = ((b / 18446744073709551616 : Nat) : Int) := h 1 (by decide)
  omega
theorem neqW {a b : Nat} (ha : a < 2 ^ 128) (hb : b < 2 ^ 128) : ∀ w, (binOp .neq 25 (.agg (wA a)) (.agg (wA b))).run Tryd.prog w = .ok (.bool (!decide (a = b))) w := neq_of_eql ⟨_, rfl⟩ ⟨_, rfl⟩ (eqlW ha hb)
theorem lt_b {n : Nat} (h : n < pf) : n < 2 ^ 128 := Nat.lt_trans h (by decide)
theorem lss_pf {b : Nat} (hb : b < pf) : lssW pf b = pf - b := lssW_of (Nat.le_of_lt hb) pf_w

set_option maxRecDepth 100000 in
theorem sadd_p (a b : Nat) (ha : a < pf) (hb : b < pf) : Pure Tryd.prog 41 #[.agg fA, .agg (wA a), .agg (wA b)] (.agg (wA ((a + b) % pf))) := by
  intro w
  have ha0 := ha
  have hb0 := hb
  refine calls_H (args := [.agg fA, .agg (wA a), .agg (wA b)]) noD [] Tryd.func41 rfl (m := 41) rfl rfl (hold_nil _ _) ?_
  refine HC.seq ?_
  refine HC.region ?_
  refine HL.new (New.box rfl) (by decide) ?_
  intro b1 hb1
  refine HL.new (New.box rfl) (by decide) ?_
  intro b2 hb2
  refine HL.new (New.box rfl) (by decide) ?_
  intro b3 hb3
  refine HL.new (New.alloc al25) (by decide) ?_
  intro b4 hb4
  refine HL.nil ?_
  refine HQ.next ?_
  refine HC.seq ?_
  refine HC.seq ?_
  refine HC.region ?_
  refine HL.val (Val.run1 (fun u => Instr.fieldAt 27 u 0) (fun _ => rfl) rfl (v := .pointer (some ⟨b1, 0, none⟩)) (fun _ _ => rfl)) (by decide) ?_
  refine HL.val (Val.load_mid rfl (fun w hw => hw.at (i := 3) rfl) (wA pf) fA_P Tryd.underlying25 rfl (by kernel_rfl)) (by decide) ?_
  refine HL.val (Val.load_row rfl (fun w hw => hw.at (i := 1) rfl) Tryd.underlying25 rfl (by kernel_rfl)) (by decide) ?_
  refine HL.val (Val.call en70 (less_p pf b pf_w (lt_w hb)) rfl) (by decide) ?_
  refine HL.new (New.alloc al25) (by decide) ?_
  intro b5 hb5
  refine HL.put 0 rfl (Put.row rfl rfl (by kernel_rfl) rfl (wA_one _)) (.inl hb5) ?_
  simp only [List.set_cons_zero]
  refine HL.nil ?_
  refine HQ.next ?_
  refine HC.seq ?_
  refine HC.region ?_
  refine HL.val (Val.load_row rfl (fun w hw => hw.at (i := 3) rfl) Tryd.underlying25 rfl (by kernel_rfl)) (by decide) ?_
  refine HL.val (Val.load_row rfl (fun w hw => hw.at (i := 0) rfl) Tryd.underlying25 rfl (by kernel_rfl)) (by decide) ?_
  by_cases h1 : a < lssW pf b
  · refine HL.val ((Val.call en77 (below_p a ((lssW pf b))) rfl).as (congrArg Value.bool (decide_eq_true h1))) (by decide) ?_
    refine HL.val (Val.not rfl) (by decide) ?_
    refine HL.nil ?_
    refine HQ.next ?_
    refine HC.no rfl ?_
    refine HC.skip ?_
    refine HQ.next ?_
    refine HC.seq ?_
    refine HC.region ?_
    refine HL.val (Val.ixAddrQ (0) (i := 0) (m := 2) (s := 1) (e := 23) rfl rfl Tryd.underlying25 (by kernel_rfl) (by decide) (by omega)) (by decide) ?_
    refine HL.val (Val.load_cell rfl (fun w hw => hw.at (i := 3) rfl) rfl Tryd.underlying23 rfl) (by decide) ?_
    refine HL.val (Val.ixAddrQ (0) (i := 0) (m := 2) (s := 1) (e := 23) rfl rfl Tryd.underlying25 (by kernel_rfl) (by decide) (by omega)) (by decide) ?_
    refine HL.val (Val.load_cell rfl (fun w hw => hw.at (i := 2) rfl) rfl Tryd.underlying23 rfl) (by decide) ?_
    refine HL.val ((Val.addI rfl rfl).as (congrArg (Value.int .u64) (waddN ((a % 18446744073709551616)) ((b % 18446744073709551616)) rfl))) (by decide) ?_
    refine HL.val (Val.ixAddrQ (1) (i := 1) (m := 2) (s := 1) (e := 23) rfl rfl Tryd.underlying25 (by kernel_rfl) (by decide) (by omega)) (by decide) ?_
    refine HL.val (Val.load_cell rfl (fun w hw => hw.at (i := 3) rfl) rfl Tryd.underlying23 rfl) (by decide) ?_
    refine HL.val (Val.ixAddrQ (1) (i := 1) (m := 2) (s := 1) (e := 23) rfl rfl Tryd.underlying25 (by kernel_rfl) (by decide) (by omega)) (by decide) ?_
    refine HL.val (Val.load_cell rfl (fun w hw => hw.at (i := 2) rfl) rfl Tryd.underlying23 rfl) (by decide) ?_
    refine HL.val ((Val.addI rfl rfl).as (congrArg (Value.int .u64) (waddN ((a / 18446744073709551616)) ((b / 18446744073709551616)) rfl))) (by decide) ?_
    refine HL.val (Val.build rfl (built_w ((adW ((a % 18446744073709551616)) ((b % 18446744073709551616)))) ((adW ((a / 18446744073709551616)) ((b / 18446744073709551616)))))) (by decide) ?_
    refine HL.new (New.alloc al25) (by decide) ?_
    intro b6 hb6
    refine HL.put 0 rfl (Put.row rfl rfl (by kernel_rfl) rfl (cells_two _ _)) (.inl hb6) ?_
    simp only [List.set_cons_zero]
    refine HL.nil ?_
    refine HQ.next ?_
    refine HC.seq ?_
    refine HC.seq ?_
    refine HC.region ?_
    refine HL.val (Val.ixAddrQ (0) (i := 0) (m := 2) (s := 1) (e := 23) rfl rfl Tryd.underlying25 (by kernel_rfl) (by decide) (by omega)) (by decide) ?_
    refine HL.val (Val.load_cell rfl (fun w hw => hw.at (i := 0) rfl) rfl Tryd.underlying23 rfl) (by decide) ?_
    refine HL.val (Val.ixAddrQ (0) (i := 0) (m := 2) (s := 1) (e := 23) rfl rfl Tryd.underlying25 (by kernel_rfl) (by decide) (by omega)) (by decide) ?_
    refine HL.val (Val.load_cell rfl (fun w hw => hw.at (i := 4) rfl) rfl Tryd.underlying23 rfl) (by decide) ?_
    by_cases h2 : adW (a % 18446744073709551616) (b % 18446744073709551616) < a % 18446744073709551616
    · refine HL.val (((Val.lss rfl rfl).as (congrArg Value.bool (lssN ((adW ((a % 18446744073709551616)) ((b % 18446744073709551616)))) ((a % 18446744073709551616))))).as (congrArg Value.bool (decide_eq_true h2))) (by decide) ?_
      refine HL.nil ?_
      refine HQ.next ?_
      refine HC.yes rfl ?_
      refine HC.region ?_
      refine HL.val (Val.ixAddrQ (1) (i := 1) (m := 2) (s := 1) (e := 23) rfl rfl Tryd.underlying25 (by kernel_rfl) (by decide) (by omega)) (by decide) ?_
      refine HL.val (Val.load_cell rfl (fun w hw => hw.at (i := 0) rfl) rfl Tryd.underlying23 rfl) (by decide) ?_
      refine HL.val ((Val.addI rfl rfl).as (congrArg (Value.int .u64) (waddN ((adW ((a / 18446744073709551616)) ((b / 18446744073709551616)))) 1 (by omega)))) (by decide) ?_
      refine HL.val (Val.ixAddrQ (1) (i := 1) (m := 2) (s := 1) (e := 23) rfl rfl Tryd.underlying25 (by kernel_rfl) (by decide) (by omega)) (by decide) ?_
      refine HL.put 0 rfl (Put.two1 rfl rfl (by kernel_rfl) rfl) (.inl hb6) ?_
      simp only [List.set_cons_zero]
      refine HL.nil ?_
      refine HQ.next ?_
      refine HC.seq ?_
      refine HC.region ?_
      refine HL.val (Val.load_row rfl (fun w hw => hw.at (i := 0) rfl) Tryd.underlying25 rfl (by kernel_rfl)) (by decide) ?_
      refine HL.put 2 rfl (Put.row rfl rfl (by kernel_rfl) rfl (cells_two _ _)) (.inl hb4) ?_
      simp only [List.set_cons_zero, List.set_cons_succ]
      refine HL.nil ?_
      refine HQ.next ?_
      refine HC.ret ?_
      have hl := lss_pf hb
      rw [hl] at h1
      unfold pf at h1 hl ha hb
      have e : (a + b) % pf = a + b := Nat.mod_eq_of_lt (by unfold pf; omega)
      rw [adW_eq] at h2
      exact HQ.retc 2 rfl rfl rfl Tryd.underlying25 rfl (by kernel_rfl) (pure_end (congrArg Value.agg (cells_w (by rw [e]; simp only [adW_eq]; omega) (by rw [e]; simp only [adW_eq]; omega))))
    · refine HL.val (((Val.lss rfl rfl).as (congrArg Value.bool (lssN ((adW ((a % 18446744073709551616)) ((b % 18446744073709551616)))) ((a % 18446744073709551616))))).as (congrArg Value.bool (decide_eq_false h2))) (by decide) ?_
      refine HL.nil ?_
      refine HQ.next ?_
      refine HC.no rfl ?_
      refine HC.skip ?_
      refine HQ.next ?_
      refine HC.seq ?_
      refine HC.region ?_
      refine HL.val (Val.load_row rfl (fun w hw => hw.at (i := 0) rfl) Tryd.underlying25 rfl (by kernel_rfl)) (by decide) ?_
      refine HL.put 2 rfl (Put.row rfl rfl (by kernel_rfl) rfl (cells_two _ _)) (.inl hb4) ?_
      simp only [List.set_cons_zero, List.set_cons_succ]
      refine HL.nil ?_
      refine HQ.next ?_
      refine HC.ret ?_
      have hl := lss_pf hb
      rw [hl] at h1
      unfold pf at h1 hl ha hb
      have e : (a + b) % pf = a + b := Nat.mod_eq_of_lt (by unfold pf; omega)
      rw [adW_eq] at h2
      exact HQ.retc 2 rfl rfl rfl Tryd.underlying25 rfl (by kernel_rfl) (pure_end (congrArg Value.agg (cells_w (by rw [e]; simp only [adW_eq]; omega) (by rw [e]; simp only [adW_eq]; omega))))
  · refine HL.val ((Val.call en77 (below_p a ((lssW pf b))) rfl).as (congrArg Value.bool (decide_eq_false h1))) (by decide) ?_
    refine HL.val (Val.not rfl) (by decide) ?_
    refine HL.nil ?_
    refine HQ.next ?_
    refine HC.yes rfl ?_
    refine HC.seq ?_
    refine HC.region ?_
    refine HL.val (Val.load_row rfl (fun w hw => hw.at (i := 3) rfl) Tryd.underlying25 rfl (by kernel_rfl)) (by decide) ?_
    refine HL.val (Val.load_row rfl (fun w hw => hw.at (i := 0) rfl) Tryd.underlying25 rfl (by kernel_rfl)) (by decide) ?_
    refine HL.val (Val.call en70 (less_p a ((lssW pf b)) (lt_w ha) (lssW_lt _ _)) rfl) (by decide) ?_
    refine HL.put 1 rfl (Put.row rfl rfl (by kernel_rfl) rfl (wA_one _)) (.inl hb4) ?_
    simp only [List.set_cons_zero, List.set_cons_succ]
    refine HL.nil ?_
    refine HQ.next ?_
    refine HC.ret ?_
    refine HQ.thenRet ?_
    have hl := lss_pf hb
    rw [hl] at h1
    unfold pf at h1 hl ha hb
    have e : lssW a (lssW pf b) = (a + b) % pf := by
      rw [lss_pf hb0, lssW_of (by unfold pf; omega) (lt_w ha0), Nat.mod_eq_sub_mod (by unfold pf; omega), Nat.mod_eq_of_lt (by unfold pf; omega)]; unfold pf; omega
    exact HQ.retc 1 rfl rfl rfl Tryd.underlying25 rfl (by kernel_rfl) (pure_end (congrArg Value.agg (congrArg wA e)))

set_option maxRecDepth 100000 in
theorem ssub_p (a b : Nat) (ha : a < pf) (hb : b < pf) : Pure Tryd.prog 42 #[.agg fA, .agg (wA a), .agg (wA b)] (.agg (wA (subF a b))) := by
  intro w
  by_cases h0 : b = 0
  · refine calls_H (args := [.agg fA, .agg (wA a), .agg (wA b)]) noD [] Tryd.func42 rfl (m := 18) rfl rfl (hold_nil _ _) ?_
    refine HC.seq ?_
    refine HC.region ?_
    refine HL.new (New.box rfl) (by decide) ?_
    intro b1 hb1
    refine HL.new (New.box rfl) (by decide) ?_
    intro b2 hb2
    refine HL.new (New.box rfl) (by decide) ?_
    intro b3 hb3
    refine HL.new (New.alloc al25) (by decide) ?_
    intro b4 hb4
    refine HL.nil ?_
    refine HQ.next ?_
    refine HC.seq ?_
    refine HC.seq ?_
    refine HC.region ?_
    refine HL.val (Val.load_row rfl (fun w hw => hw.at (i := 1) rfl) Tryd.underlying25 rfl (by kernel_rfl)) (by decide) ?_
    refine HL.val (Val.build rfl built_w0) (by decide) ?_
    refine HL.val ((Val.eqlA rfl rfl (by kernel_rfl) (eqlW (lt_w hb) (by decide))).as (congrArg Value.bool (decide_eq_true h0))) (by decide) ?_
    refine HL.nil ?_
    refine HQ.next ?_
    refine HC.yes rfl ?_
    refine HC.seq ?_
    refine HC.region ?_
    refine HL.val (Val.load_row rfl (fun w hw => hw.at (i := 2) rfl) Tryd.underlying25 rfl (by kernel_rfl)) (by decide) ?_
    refine HL.put 0 rfl (Put.row rfl rfl (by kernel_rfl) rfl (wA_one _)) (.inl hb4) ?_
    simp only [List.set_cons_zero]
    refine HL.nil ?_
    refine HQ.next ?_
    refine HC.ret ?_
    refine HQ.thenRet ?_
    exact HQ.retc 0 rfl rfl rfl Tryd.underlying25 rfl (by kernel_rfl) (pure_end (congrArg Value.agg (congrArg wA (by rw [subF_eq, h0, Nat.sub_zero, Nat.add_mod_right, Nat.mod_eq_of_lt ha]))))
  · have hl2 : lssW pf b < pf := by rw [lss_pf hb]; omega
    refine calls_H (args := [.agg fA, .agg (wA a), .agg (wA b)]) noD [] Tryd.func42 rfl (m := 18) rfl rfl (hold_nil _ _) ?_
    refine HC.seq ?_
    refine HC.region ?_
    refine HL.new (New.box rfl) (by decide) ?_
    intro b1 hb1
    refine HL.new (New.box rfl) (by decide) ?_
    intro b2 hb2
    refine HL.new (New.box rfl) (by decide) ?_
    intro b3 hb3
    refine HL.new (New.alloc al25) (by decide) ?_
    intro b4 hb4
    refine HL.nil ?_
    refine HQ.next ?_
    refine HC.seq ?_
    refine HC.seq ?_
    refine HC.region ?_
    refine HL.val (Val.load_row rfl (fun w hw => hw.at (i := 1) rfl) Tryd.underlying25 rfl (by kernel_rfl)) (by decide) ?_
    refine HL.val (Val.build rfl built_w0) (by decide) ?_
    refine HL.val ((Val.eqlA rfl rfl (by kernel_rfl) (eqlW (lt_w hb) (by decide))).as (congrArg Value.bool (decide_eq_false h0))) (by decide) ?_
    refine HL.nil ?_
    refine HQ.next ?_
    refine HC.no rfl ?_
    refine HC.skip ?_
    refine HQ.next ?_
    refine HC.seq ?_
    refine HC.draw0 7 (by kernel_rfl) (by kernel_rfl) ?_
    simp only [List.take, List.drop]
    refine HV.val (Val.load_row rfl (fun w hw => hw.at (i := 3) rfl) Tryd.underlying27 rfl (by kernel_rfl)) (by decide) ?_
    refine HV.val (Val.load_row rfl (fun w hw => hw.at (i := 2) rfl) Tryd.underlying25 rfl (by kernel_rfl)) (by decide) ?_
    refine HV.val (Val.run1 (fun u => Instr.fieldAt 27 u 0) (fun _ => rfl) rfl (v := .pointer (some ⟨b1, 0, none⟩)) (fun _ _ => rfl)) (by decide) ?_
    refine HV.val (Val.load_mid rfl (fun w hw => hw.at (i := 3) rfl) (wA pf) fA_P Tryd.underlying25 rfl (by kernel_rfl)) (by decide) ?_
    refine HV.val (Val.load_row rfl (fun w hw => hw.at (i := 1) rfl) Tryd.underlying25 rfl (by kernel_rfl)) (by decide) ?_
    refine HV.val (Val.call en70 (less_p pf b pf_w (lt_w hb)) rfl) (by decide) ?_
    refine HV.val (Val.call en41 (sadd_p a ((lssW pf b)) ha hl2) rfl) (by decide) ?_
    refine HV.tail0 ?_
    refine HL.put 0 rfl (Put.row rfl rfl (by kernel_rfl) rfl (wA_one _)) (.inl hb4) ?_
    simp only [List.set_cons_zero]
    refine HL.nil ?_
    refine HQ.next ?_
    refine HC.ret ?_
    exact HQ.retc 0 rfl rfl rfl Tryd.underlying25 rfl (by kernel_rfl) (pure_end (congrArg Value.agg (congrArg wA (by rw [subF_eq, lss_pf hb]))))

theorem limb0 {b q : Nat} (hq : q < 64) : b % 18446744073709551616 / 2 ^ q % 2 = b / 2 ^ q % 2 := by
  have e : (18446744073709551616 : Nat) = 2 ^ q * 2 ^ (64 - q) := by rw [← Nat.pow_add, show q + (64 - q) = 64 by omega]
  have h1 : 2 ^ (64 - q) = 2 * 2 ^ (63 - q) := by rw [show 64 - q = (63 - q) + 1 by omega, Nat.pow_succ, Nat.mul_comm]
  rw [e, Nat.mod_mul_right_div_self, h1, Nat.mod_mul_right_mod]
theorem limb1 (b q : Nat) : b / 18446744073709551616 / 2 ^ q % 2 = b / 2 ^ (64 + q) % 2 := by
  rw [Nat.div_div_eq_div_mul, Nat.pow_add]
theorem and1 (x : Nat) (hx : x < 18446744073709551616) : bits .and .u64 (x : Int) 1 = ((x % 2 : Nat) : Int) := by
  have h := u64_and_nat x 1 hx (by decide)
  rw [Nat.and_one_is_mod] at h
  exact h
theorem eql1 (x : Nat) : ((x : Int) == 1) = decide (x = 1) := by
  rw [Bool.eq_iff_iff, beq_iff_eq, decide_eq_true_eq]; omega
theorem shrN (x m : Nat) : (x : Int) / 2 ^ ((m : Nat) : Int).toNat = ((x / 2 ^ m : Nat) : Int) := by
  rw [Int.toNat_natCast]; norm_cast

set_option maxRecDepth 100000 in
theorem smul_p (a b : Nat) (ha : a < pf) (hb2 : b < 2 ^ 128) : Pure Tryd.prog 45 #[.agg fA, .agg (wA a), .agg (wA b)] (.agg (wA (a * b % pf))) := by
  intro w
  have hb : b < 2 ^ 128 := Nat.lt_of_lt_of_le hb2 (by decide)
  have hz0 : a * (b / 2 ^ 128) % pf = 0 := by rw [Nat.div_eq_of_lt hb2, Nat.mul_zero, Nat.zero_mod]
  refine calls_H (args := [.agg fA, .agg (wA a), .agg (wA b)]) noD [] Tryd.func45 rfl (m := 35) rfl rfl (hold_nil _ _) ?_
  refine HC.seq ?_
  refine HC.region ?_
  refine HL.new (New.box rfl) (by decide) ?_
  intro b1 hb1
  refine HL.new (New.box rfl) (by decide) ?_
  intro b2 hb2
  refine HL.new (New.box rfl) (by decide) ?_
  intro b3 hb3
  refine HL.new (New.alloc al25) (by decide) ?_
  intro b4 hb4
  refine HL.nil ?_
  refine HQ.next ?_
  refine HC.seq ?_
  refine HC.region ?_
  refine HL.val (Val.build rfl built_w0) (by decide) ?_
  refine HL.new (New.alloc al25) (by decide) ?_
  intro b5 hb5
  refine HL.put 0 rfl (Put.row rfl rfl (by kernel_rfl) rfl (wA_one _)) (.inl hb5) ?_
  simp only [List.set_cons_zero]
  refine HL.nil ?_
  refine HQ.next ?_
  refine HC.seq ?_
  refine HC.seq ?_
  refine HC.region ?_
  refine HL.val (Val.run1 (fun u => Instr.fieldAt 27 u 1) (fun _ => rfl) rfl (v := .pointer (some ⟨b1, 2, none⟩)) (fun _ _ => rfl)) (by decide) ?_
  refine HL.val (Val.load_cell rfl (fun w hw => hw.at (i := 4) rfl) rfl Tryd.underlying3 rfl) (by decide) ?_
  refine HL.val ((Val.subI rfl rfl).as (congrArg (Value.int .i64) (idx_wrap (q := 128) (by decide)))) (by decide) ?_
  refine HL.val (Val.assign rfl) (by decide) ?_
  refine HL.nil ?_
  refine HQ.next ?_
  refine HC.block ?_
  refine HC.loop (ι := {p : Nat // p ≤ 128}) (fun p => p.1) (fun p => [(8, .int .i64 (idxI p.1)), (7, .pointer (some ⟨b5, 0, none⟩)), (3, .pointer (some ⟨b1, 0, none⟩)), (4, .pointer (some ⟨b2, 0, none⟩)), (5, .pointer (some ⟨b3, 0, none⟩)), (6, .pointer (some ⟨b4, 0, none⟩))]) (fun p => [(b5, .cells (wA (a * (b / 2 ^ p.1) % pf)) 25 (0, 0)), (b1, .cells fA 27 (0, 0)), (b2, .cells (wA a) 25 (0, 0)), (b3, .cells (wA b) 25 (0, 0)), (b4, .cells (wA 0) 25 (0, 0))]) ⟨128, Nat.le_refl _⟩ (fun ac wc ha hw => ⟨ha.subS ⟨rfl, rfl, rfl, rfl, rfl, rfl, trivial⟩, by have h := hw.pick [0, 4, 3, 2, 1] (by simp); dsimp only; rw [hz0]; exact h⟩) ?_
  rintro ⟨q, hq⟩
  dsimp only
  rcases (show q = 0 ∨ (∃ r, q = r + 1 ∧ r < 64) ∨ (∃ m, q = 64 + m + 1 ∧ m < 64) from by rcases q with _ | q; exact .inl rfl; exact .inr (by rcases Nat.lt_or_ge q 64 with h | h; exact .inl ⟨q, rfl, h⟩; exact .inr ⟨q - 64, by omega, by omega⟩)) with rfl | ⟨q, rfl, hm⟩ | ⟨m, rfl, hm⟩
  · dsimp only [idxI]
    refine HC.seq ?_
    refine HC.seq ?_
    refine HC.region ?_
    refine HL.val (Val.move rfl) (by decide) ?_
    refine HL.val ((Val.geq rfl rfl).as (v := .bool false) rfl) (by decide) ?_
    refine HL.nil ?_
    refine HQ.next ?_
    refine HC.no rfl ?_
    refine HC.exit ?_
    refine HQ.thenExit ?_
    refine HQ.thenExit ?_
    refine HQ.blockExit ?_
    refine HQ.next ?_
    refine HC.seq ?_
    refine HC.region ?_
    refine HL.val (Val.load_row rfl (fun w hw => hw.at (i := 0) rfl) Tryd.underlying25 rfl (by kernel_rfl)) (by decide) ?_
    refine HL.put 4 rfl (Put.row rfl rfl (by kernel_rfl) rfl (wA_one _)) (.inl hb4) ?_
    simp only [List.set_cons_zero, List.set_cons_succ]
    refine HL.nil ?_
    refine HQ.next ?_
    refine HC.ret ?_
    exact HQ.retc 4 rfl rfl rfl Tryd.underlying25 rfl (by kernel_rfl) (pure_end (congrArg Value.agg (congrArg wA (by rw [Nat.pow_zero, Nat.div_one]))))
  · dsimp only [idxI]
    refine HC.seq ?_
    refine HC.seq ?_
    refine HC.region ?_
    refine HL.val (Val.move rfl) (by decide) ?_
    refine HL.val ((Val.geq rfl rfl).as (congrArg Value.bool (geq0 q))) (by decide) ?_
    refine HL.nil ?_
    refine HQ.next ?_
    refine HC.yes rfl ?_
    refine HC.skip ?_
    refine HQ.next ?_
    refine HC.seq ?_
    refine HC.block ?_
    refine HC.seq ?_
    refine HC.region ?_
    refine HL.val (Val.load_row rfl (fun w hw => hw.at (i := 1) rfl) Tryd.underlying27 rfl (by kernel_rfl)) (by decide) ?_
    refine HL.val (Val.load_row rfl (fun w hw => hw.at (i := 0) rfl) Tryd.underlying25 rfl (by kernel_rfl)) (by decide) ?_
    refine HL.val (Val.load_row rfl (fun w hw => hw.at (i := 0) rfl) Tryd.underlying25 rfl (by kernel_rfl)) (by decide) ?_
    refine HL.val (Val.call en41 (sadd_p ((a * (b / 2 ^ (q + 1)) % pf)) ((a * (b / 2 ^ (q + 1)) % pf)) (Nat.mod_lt _ pf_pos) (Nat.mod_lt _ pf_pos)) rfl) (by decide) ?_
    refine HL.put 0 rfl (Put.row rfl rfl (by kernel_rfl) rfl (wA_one _)) (.inl hb5) ?_
    simp only [List.set_cons_zero]
    refine HL.nil ?_
    refine HQ.next ?_
    refine HC.seq ?_
    refine HC.region ?_
    refine HL.val (Val.move rfl) (by decide) ?_
    refine HL.val ((Val.quoN q 64 rfl rfl rfl (by decide) (by omega)).as (v := .int .i64 ((0 : Nat) : Int)) (congrArg (fun z : Nat => Value.int .i64 (z : Int)) (show q / 64 = 0 by omega))) (by decide) ?_
    refine HL.val (Val.ixAddrQ (0) (i := 0) (m := 2) (s := 1) (e := 23) rfl rfl Tryd.underlying25 (by kernel_rfl) (by decide) (by omega)) (by decide) ?_
    refine HL.val (Val.load_cell rfl (fun w hw => hw.at (i := 3) rfl) rfl Tryd.underlying23 rfl) (by decide) ?_
    refine HL.val (Val.move rfl) (by decide) ?_
    refine HL.val ((Val.remN q 64 rfl rfl rfl (by decide)).as (v := .int .i64 ((q : Nat) : Int)) (congrArg (fun z : Nat => Value.int .i64 (z : Int)) (show q % 64 = q by omega))) (by decide) ?_
    refine HL.val ((Val.shrI rfl rfl (Int.natCast_nonneg _) (show ((q : Nat) : Int) ≤ 64 by omega)).as (congrArg (Value.int .u64) (shrN (b % 18446744073709551616) q))) (by decide) ?_
    refine HL.val ((Val.andI rfl rfl).as (congrArg (Value.int .u64) (and1 ((b % 18446744073709551616) / 2 ^ q) (Nat.lt_of_le_of_lt (Nat.div_le_self _ _) (Nat.mod_lt _ (by decide)))))) (by decide) ?_
    by_cases hbit : b / 2 ^ q % 2 = 1
    · refine HL.val ((((Val.eqlI rfl rfl).as (congrArg Value.bool (eql1 ((b % 18446744073709551616) / 2 ^ q % 2)))).as (congrArg (fun z : Nat => Value.bool (decide (z = 1))) (limb0 hm))).as (congrArg Value.bool (decide_eq_true hbit))) (by decide) ?_
      refine HL.nil ?_
      refine HQ.next ?_
      refine HC.yes rfl ?_
      refine HC.region ?_
      refine HL.val (Val.load_row rfl (fun w hw => hw.at (i := 1) rfl) Tryd.underlying27 rfl (by kernel_rfl)) (by decide) ?_
      refine HL.val (Val.load_row rfl (fun w hw => hw.at (i := 0) rfl) Tryd.underlying25 rfl (by kernel_rfl)) (by decide) ?_
      refine HL.val (Val.load_row rfl (fun w hw => hw.at (i := 2) rfl) Tryd.underlying25 rfl (by kernel_rfl)) (by decide) ?_
      refine HL.val (Val.call en41 (sadd_p (((((a * (b / 2 ^ (q + 1)) % pf)) + ((a * (b / 2 ^ (q + 1)) % pf))) % pf)) a (Nat.mod_lt _ pf_pos) ha) rfl) (by decide) ?_
      refine HL.put 0 rfl (Put.row rfl rfl (by kernel_rfl) rfl (wA_one _)) (.inl hb5) ?_
      simp only [List.set_cons_zero]
      refine HL.nil ?_
      refine HQ.blockNormal ?_
      refine HQ.next ?_
      refine HC.region ?_
      refine HL.val (Val.move rfl) (by decide) ?_
      refine HL.val ((Val.subI rfl rfl).as (congrArg (Value.int .i64) (idx_wrap (q := q) (by omega)))) (by decide) ?_
      refine HL.val (Val.assign rfl) (by decide) ?_
      refine HL.nil ?_
      exact ⟨fun ac wc ha hw => ⟨⟨q, by omega⟩, by dsimp only; omega, ha.subS ⟨rfl, rfl, rfl, rfl, rfl, rfl, trivial⟩, by have h := hw.pick [0, 1, 2, 3, 4] (by simp); simp only [List.filterMap_cons, List.filterMap_nil, List.getElem?_cons_zero, List.getElem?_cons_succ] at h; rw [mul_bit1 hbit] at h; exact h⟩⟩
    · refine HL.val ((((Val.eqlI rfl rfl).as (congrArg Value.bool (eql1 ((b % 18446744073709551616) / 2 ^ q % 2)))).as (congrArg (fun z : Nat => Value.bool (decide (z = 1))) (limb0 hm))).as (congrArg Value.bool (decide_eq_false hbit))) (by decide) ?_
      refine HL.nil ?_
      refine HQ.next ?_
      refine HC.no rfl ?_
      refine HC.skip ?_
      refine HQ.blockNormal ?_
      refine HQ.next ?_
      refine HC.region ?_
      refine HL.val (Val.move rfl) (by decide) ?_
      refine HL.val ((Val.subI rfl rfl).as (congrArg (Value.int .i64) (idx_wrap (q := q) (by omega)))) (by decide) ?_
      refine HL.val (Val.assign rfl) (by decide) ?_
      refine HL.nil ?_
      exact ⟨fun ac wc ha hw => ⟨⟨q, by omega⟩, by dsimp only; omega, ha.subS ⟨rfl, rfl, rfl, rfl, rfl, rfl, trivial⟩, by have h := hw.pick [0, 1, 2, 3, 4] (by simp); simp only [List.filterMap_cons, List.filterMap_nil, List.getElem?_cons_zero, List.getElem?_cons_succ] at h; rw [mul_bit0 hbit] at h; exact h⟩⟩
  · dsimp only [idxI]
    refine HC.seq ?_
    refine HC.seq ?_
    refine HC.region ?_
    refine HL.val (Val.move rfl) (by decide) ?_
    refine HL.val ((Val.geq rfl rfl).as (congrArg Value.bool (geq0 (64 + m)))) (by decide) ?_
    refine HL.nil ?_
    refine HQ.next ?_
    refine HC.yes rfl ?_
    refine HC.skip ?_
    refine HQ.next ?_
    refine HC.seq ?_
    refine HC.block ?_
    refine HC.seq ?_
    refine HC.region ?_
    refine HL.val (Val.load_row rfl (fun w hw => hw.at (i := 1) rfl) Tryd.underlying27 rfl (by kernel_rfl)) (by decide) ?_
    refine HL.val (Val.load_row rfl (fun w hw => hw.at (i := 0) rfl) Tryd.underlying25 rfl (by kernel_rfl)) (by decide) ?_
    refine HL.val (Val.load_row rfl (fun w hw => hw.at (i := 0) rfl) Tryd.underlying25 rfl (by kernel_rfl)) (by decide) ?_
    refine HL.val (Val.call en41 (sadd_p ((a * (b / 2 ^ (64 + m + 1)) % pf)) ((a * (b / 2 ^ (64 + m + 1)) % pf)) (Nat.mod_lt _ pf_pos) (Nat.mod_lt _ pf_pos)) rfl) (by decide) ?_
    refine HL.put 0 rfl (Put.row rfl rfl (by kernel_rfl) rfl (wA_one _)) (.inl hb5) ?_
    simp only [List.set_cons_zero]
    refine HL.nil ?_
    refine HQ.next ?_
    refine HC.seq ?_
    refine HC.region ?_
    refine HL.val (Val.move rfl) (by decide) ?_
    refine HL.val ((Val.quoN (64 + m) 64 rfl rfl rfl (by decide) (by omega)).as (v := .int .i64 ((1 : Nat) : Int)) (congrArg (fun z : Nat => Value.int .i64 (z : Int)) (show (64 + m) / 64 = 1 by omega))) (by decide) ?_
    refine HL.val (Val.ixAddrQ (1) (i := 1) (m := 2) (s := 1) (e := 23) rfl rfl Tryd.underlying25 (by kernel_rfl) (by decide) (by omega)) (by decide) ?_
    refine HL.val (Val.load_cell rfl (fun w hw => hw.at (i := 3) rfl) rfl Tryd.underlying23 rfl) (by decide) ?_
    refine HL.val (Val.move rfl) (by decide) ?_
    refine HL.val ((Val.remN (64 + m) 64 rfl rfl rfl (by decide)).as (v := .int .i64 ((m : Nat) : Int)) (congrArg (fun z : Nat => Value.int .i64 (z : Int)) (show (64 + m) % 64 = m by omega))) (by decide) ?_
    refine HL.val ((Val.shrI rfl rfl (Int.natCast_nonneg _) (show ((m : Nat) : Int) ≤ 64 by omega)).as (congrArg (Value.int .u64) (shrN (b / 18446744073709551616) m))) (by decide) ?_
    refine HL.val ((Val.andI rfl rfl).as (congrArg (Value.int .u64) (and1 ((b / 18446744073709551616) / 2 ^ m) (Nat.lt_of_le_of_lt (Nat.div_le_self _ _) (hiW hb))))) (by decide) ?_
    by_cases hbit : b / 2 ^ (64 + m) % 2 = 1
    · refine HL.val ((((Val.eqlI rfl rfl).as (congrArg Value.bool (eql1 ((b / 18446744073709551616) / 2 ^ m % 2)))).as (congrArg (fun z : Nat => Value.bool (decide (z = 1))) (limb1 b m))).as (congrArg Value.bool (decide_eq_true hbit))) (by decide) ?_
      refine HL.nil ?_
      refine HQ.next ?_
      refine HC.yes rfl ?_
      refine HC.region ?_
      refine HL.val (Val.load_row rfl (fun w hw => hw.at (i := 1) rfl) Tryd.underlying27 rfl (by kernel_rfl)) (by decide) ?_
      refine HL.val (Val.load_row rfl (fun w hw => hw.at (i := 0) rfl) Tryd.underlying25 rfl (by kernel_rfl)) (by decide) ?_
      refine HL.val (Val.load_row rfl (fun w hw => hw.at (i := 2) rfl) Tryd.underlying25 rfl (by kernel_rfl)) (by decide) ?_
      refine HL.val (Val.call en41 (sadd_p (((((a * (b / 2 ^ (64 + m + 1)) % pf)) + ((a * (b / 2 ^ (64 + m + 1)) % pf))) % pf)) a (Nat.mod_lt _ pf_pos) ha) rfl) (by decide) ?_
      refine HL.put 0 rfl (Put.row rfl rfl (by kernel_rfl) rfl (wA_one _)) (.inl hb5) ?_
      simp only [List.set_cons_zero]
      refine HL.nil ?_
      refine HQ.blockNormal ?_
      refine HQ.next ?_
      refine HC.region ?_
      refine HL.val (Val.move rfl) (by decide) ?_
      refine HL.val ((Val.subI rfl rfl).as (congrArg (Value.int .i64) (idx_wrap (q := (64 + m)) (by omega)))) (by decide) ?_
      refine HL.val (Val.assign rfl) (by decide) ?_
      refine HL.nil ?_
      exact ⟨fun ac wc ha hw => ⟨⟨(64 + m), by omega⟩, by dsimp only; omega, ha.subS ⟨rfl, rfl, rfl, rfl, rfl, rfl, trivial⟩, by have h := hw.pick [0, 1, 2, 3, 4] (by simp); simp only [List.filterMap_cons, List.filterMap_nil, List.getElem?_cons_zero, List.getElem?_cons_succ] at h; rw [mul_bit1 hbit] at h; exact h⟩⟩
    · refine HL.val ((((Val.eqlI rfl rfl).as (congrArg Value.bool (eql1 ((b / 18446744073709551616) / 2 ^ m % 2)))).as (congrArg (fun z : Nat => Value.bool (decide (z = 1))) (limb1 b m))).as (congrArg Value.bool (decide_eq_false hbit))) (by decide) ?_
      refine HL.nil ?_
      refine HQ.next ?_
      refine HC.no rfl ?_
      refine HC.skip ?_
      refine HQ.blockNormal ?_
      refine HQ.next ?_
      refine HC.region ?_
      refine HL.val (Val.move rfl) (by decide) ?_
      refine HL.val ((Val.subI rfl rfl).as (congrArg (Value.int .i64) (idx_wrap (q := (64 + m)) (by omega)))) (by decide) ?_
      refine HL.val (Val.assign rfl) (by decide) ?_
      refine HL.nil ?_
      exact ⟨fun ac wc ha hw => ⟨⟨(64 + m), by omega⟩, by dsimp only; omega, ha.subS ⟨rfl, rfl, rfl, rfl, rfl, rfl, trivial⟩, by have h := hw.pick [0, 1, 2, 3, 4] (by simp); simp only [List.filterMap_cons, List.filterMap_nil, List.getElem?_cons_zero, List.getElem?_cons_succ] at h; rw [mul_bit0 hbit] at h; exact h⟩⟩

theorem built_w1 : Tryd.prog.built 25 [(0, .int .u64 1), (1, .int .u64 0)] = some (wA 1) := by kernel_rfl
set_option maxRecDepth 100000 in
theorem spow_p (a b : Nat) (ha : a < pf) (hb2 : b < 2 ^ 128) : Pure Tryd.prog 51 #[.agg fA, .agg (wA a), .agg (wA b)] (.agg (wA (a ^ b % pf))) := by
  intro w
  have hb : b < 2 ^ 128 := Nat.lt_of_lt_of_le hb2 (by decide)
  have hz0 : a ^ (b / 2 ^ 128) % pf = 1 := by rw [Nat.div_eq_of_lt hb2, Nat.pow_zero]; decide +kernel
  refine calls_H (args := [.agg fA, .agg (wA a), .agg (wA b)]) noD [] Tryd.func51 rfl (m := 35) rfl rfl (hold_nil _ _) ?_
  refine HC.seq ?_
  refine HC.region ?_
  refine HL.new (New.box rfl) (by decide) ?_
  intro b1 hb1
  refine HL.new (New.box rfl) (by decide) ?_
  intro b2 hb2
  refine HL.new (New.box rfl) (by decide) ?_
  intro b3 hb3
  refine HL.new (New.alloc al25) (by decide) ?_
  intro b4 hb4
  refine HL.nil ?_
  refine HQ.next ?_
  refine HC.seq ?_
  refine HC.region ?_
  refine HL.val (Val.build rfl built_w1) (by decide) ?_
  refine HL.new (New.alloc al25) (by decide) ?_
  intro b5 hb5
  refine HL.put 0 rfl (Put.row rfl rfl (by kernel_rfl) rfl (wA_one _)) (.inl hb5) ?_
  simp only [List.set_cons_zero]
  refine HL.nil ?_
  refine HQ.next ?_
  refine HC.seq ?_
  refine HC.seq ?_
  refine HC.region ?_
  refine HL.val (Val.run1 (fun u => Instr.fieldAt 27 u 1) (fun _ => rfl) rfl (v := .pointer (some ⟨b1, 2, none⟩)) (fun _ _ => rfl)) (by decide) ?_
  refine HL.val (Val.load_cell rfl (fun w hw => hw.at (i := 4) rfl) rfl Tryd.underlying3 rfl) (by decide) ?_
  refine HL.val ((Val.subI rfl rfl).as (congrArg (Value.int .i64) (idx_wrap (q := 128) (by decide)))) (by decide) ?_
  refine HL.val (Val.assign rfl) (by decide) ?_
  refine HL.nil ?_
  refine HQ.next ?_
  refine HC.block ?_
  refine HC.loop (ι := {p : Nat // p ≤ 128}) (fun p => p.1) (fun p => [(8, .int .i64 (idxI p.1)), (7, .pointer (some ⟨b5, 0, none⟩)), (3, .pointer (some ⟨b1, 0, none⟩)), (4, .pointer (some ⟨b2, 0, none⟩)), (5, .pointer (some ⟨b3, 0, none⟩)), (6, .pointer (some ⟨b4, 0, none⟩))]) (fun p => [(b5, .cells (wA (a ^ (b / 2 ^ p.1) % pf)) 25 (0, 0)), (b1, .cells fA 27 (0, 0)), (b2, .cells (wA a) 25 (0, 0)), (b3, .cells (wA b) 25 (0, 0)), (b4, .cells (wA 0) 25 (0, 0))]) ⟨128, Nat.le_refl _⟩ (fun ac wc ha hw => ⟨ha.subS ⟨rfl, rfl, rfl, rfl, rfl, rfl, trivial⟩, by have h := hw.pick [0, 4, 3, 2, 1] (by simp); dsimp only; rw [hz0]; exact h⟩) ?_
  rintro ⟨q, hq⟩
  dsimp only
  rcases (show q = 0 ∨ (∃ r, q = r + 1 ∧ r < 64) ∨ (∃ m, q = 64 + m + 1 ∧ m < 64) from by rcases q with _ | q; exact .inl rfl; exact .inr (by rcases Nat.lt_or_ge q 64 with h | h; exact .inl ⟨q, rfl, h⟩; exact .inr ⟨q - 64, by omega, by omega⟩)) with rfl | ⟨q, rfl, hm⟩ | ⟨m, rfl, hm⟩
  · dsimp only [idxI]
    refine HC.seq ?_
    refine HC.seq ?_
    refine HC.region ?_
    refine HL.val (Val.move rfl) (by decide) ?_
    refine HL.val ((Val.geq rfl rfl).as (v := .bool false) rfl) (by decide) ?_
    refine HL.nil ?_
    refine HQ.next ?_
    refine HC.no rfl ?_
    refine HC.exit ?_
    refine HQ.thenExit ?_
    refine HQ.thenExit ?_
    refine HQ.blockExit ?_
    refine HQ.next ?_
    refine HC.seq ?_
    refine HC.region ?_
    refine HL.val (Val.load_row rfl (fun w hw => hw.at (i := 0) rfl) Tryd.underlying25 rfl (by kernel_rfl)) (by decide) ?_
    refine HL.put 4 rfl (Put.row rfl rfl (by kernel_rfl) rfl (wA_one _)) (.inl hb4) ?_
    simp only [List.set_cons_zero, List.set_cons_succ]
    refine HL.nil ?_
    refine HQ.next ?_
    refine HC.ret ?_
    exact HQ.retc 4 rfl rfl rfl Tryd.underlying25 rfl (by kernel_rfl) (pure_end (congrArg Value.agg (congrArg wA (by rw [Nat.pow_zero, Nat.div_one]))))
  · dsimp only [idxI]
    refine HC.seq ?_
    refine HC.seq ?_
    refine HC.region ?_
    refine HL.val (Val.move rfl) (by decide) ?_
    refine HL.val ((Val.geq rfl rfl).as (congrArg Value.bool (geq0 q))) (by decide) ?_
    refine HL.nil ?_
    refine HQ.next ?_
    refine HC.yes rfl ?_
    refine HC.skip ?_
    refine HQ.next ?_
    refine HC.seq ?_
    refine HC.block ?_
    refine HC.seq ?_
    refine HC.region ?_
    refine HL.val (Val.load_row rfl (fun w hw => hw.at (i := 1) rfl) Tryd.underlying27 rfl (by kernel_rfl)) (by decide) ?_
    refine HL.val (Val.load_row rfl (fun w hw => hw.at (i := 0) rfl) Tryd.underlying25 rfl (by kernel_rfl)) (by decide) ?_
    refine HL.val (Val.load_row rfl (fun w hw => hw.at (i := 0) rfl) Tryd.underlying25 rfl (by kernel_rfl)) (by decide) ?_
    refine HL.val (Val.call en45 (smul_p ((a ^ (b / 2 ^ (q + 1)) % pf)) ((a ^ (b / 2 ^ (q + 1)) % pf)) (Nat.mod_lt _ pf_pos) (lt_b (Nat.mod_lt _ pf_pos))) rfl) (by decide) ?_
    refine HL.put 0 rfl (Put.row rfl rfl (by kernel_rfl) rfl (wA_one _)) (.inl hb5) ?_
    simp only [List.set_cons_zero]
    refine HL.nil ?_
    refine HQ.next ?_
    refine HC.seq ?_
    refine HC.region ?_
    refine HL.val (Val.move rfl) (by decide) ?_
    refine HL.val ((Val.quoN q 64 rfl rfl rfl (by decide) (by omega)).as (v := .int .i64 ((0 : Nat) : Int)) (congrArg (fun z : Nat => Value.int .i64 (z : Int)) (show q / 64 = 0 by omega))) (by decide) ?_
    refine HL.val (Val.ixAddrQ (0) (i := 0) (m := 2) (s := 1) (e := 23) rfl rfl Tryd.underlying25 (by kernel_rfl) (by decide) (by omega)) (by decide) ?_
    refine HL.val (Val.load_cell rfl (fun w hw => hw.at (i := 3) rfl) rfl Tryd.underlying23 rfl) (by decide) ?_
    refine HL.val (Val.move rfl) (by decide) ?_
    refine HL.val ((Val.remN q 64 rfl rfl rfl (by decide)).as (v := .int .i64 ((q : Nat) : Int)) (congrArg (fun z : Nat => Value.int .i64 (z : Int)) (show q % 64 = q by omega))) (by decide) ?_
    refine HL.val ((Val.shrI rfl rfl (Int.natCast_nonneg _) (show ((q : Nat) : Int) ≤ 64 by omega)).as (congrArg (Value.int .u64) (shrN (b % 18446744073709551616) q))) (by decide) ?_
    refine HL.val ((Val.andI rfl rfl).as (congrArg (Value.int .u64) (and1 ((b % 18446744073709551616) / 2 ^ q) (Nat.lt_of_le_of_lt (Nat.div_le_self _ _) (Nat.mod_lt _ (by decide)))))) (by decide) ?_
    by_cases hbit : b / 2 ^ q % 2 = 1
    · refine HL.val ((((Val.eqlI rfl rfl).as (congrArg Value.bool (eql1 ((b % 18446744073709551616) / 2 ^ q % 2)))).as (congrArg (fun z : Nat => Value.bool (decide (z = 1))) (limb0 hm))).as (congrArg Value.bool (decide_eq_true hbit))) (by decide) ?_
      refine HL.nil ?_
      refine HQ.next ?_
      refine HC.yes rfl ?_
      refine HC.region ?_
      refine HL.val (Val.load_row rfl (fun w hw => hw.at (i := 1) rfl) Tryd.underlying27 rfl (by kernel_rfl)) (by decide) ?_
      refine HL.val (Val.load_row rfl (fun w hw => hw.at (i := 0) rfl) Tryd.underlying25 rfl (by kernel_rfl)) (by decide) ?_
      refine HL.val (Val.load_row rfl (fun w hw => hw.at (i := 2) rfl) Tryd.underlying25 rfl (by kernel_rfl)) (by decide) ?_
      refine HL.val (Val.call en45 (smul_p ((((a ^ (b / 2 ^ (q + 1)) % pf)) * ((a ^ (b / 2 ^ (q + 1)) % pf)) % pf)) a (Nat.mod_lt _ pf_pos) (lt_b ha)) rfl) (by decide) ?_
      refine HL.put 0 rfl (Put.row rfl rfl (by kernel_rfl) rfl (wA_one _)) (.inl hb5) ?_
      simp only [List.set_cons_zero]
      refine HL.nil ?_
      refine HQ.blockNormal ?_
      refine HQ.next ?_
      refine HC.region ?_
      refine HL.val (Val.move rfl) (by decide) ?_
      refine HL.val ((Val.subI rfl rfl).as (congrArg (Value.int .i64) (idx_wrap (q := q) (by omega)))) (by decide) ?_
      refine HL.val (Val.assign rfl) (by decide) ?_
      refine HL.nil ?_
      exact ⟨fun ac wc ha hw => ⟨⟨q, by omega⟩, by dsimp only; omega, ha.subS ⟨rfl, rfl, rfl, rfl, rfl, rfl, trivial⟩, by have h := hw.pick [0, 1, 2, 3, 4] (by simp); simp only [List.filterMap_cons, List.filterMap_nil, List.getElem?_cons_zero, List.getElem?_cons_succ] at h; rw [pow_bit1 hbit] at h; exact h⟩⟩
    · refine HL.val ((((Val.eqlI rfl rfl).as (congrArg Value.bool (eql1 ((b % 18446744073709551616) / 2 ^ q % 2)))).as (congrArg (fun z : Nat => Value.bool (decide (z = 1))) (limb0 hm))).as (congrArg Value.bool (decide_eq_false hbit))) (by decide) ?_
      refine HL.nil ?_
      refine HQ.next ?_
      refine HC.no rfl ?_
      refine HC.skip ?_
      refine HQ.blockNormal ?_
      refine HQ.next ?_
      refine HC.region ?_
      refine HL.val (Val.move rfl) (by decide) ?_
      refine HL.val ((Val.subI rfl rfl).as (congrArg (Value.int .i64) (idx_wrap (q := q) (by omega)))) (by decide) ?_
      refine HL.val (Val.assign rfl) (by decide) ?_
      refine HL.nil ?_
      exact ⟨fun ac wc ha hw => ⟨⟨q, by omega⟩, by dsimp only; omega, ha.subS ⟨rfl, rfl, rfl, rfl, rfl, rfl, trivial⟩, by have h := hw.pick [0, 1, 2, 3, 4] (by simp); simp only [List.filterMap_cons, List.filterMap_nil, List.getElem?_cons_zero, List.getElem?_cons_succ] at h; rw [pow_bit0 hbit] at h; exact h⟩⟩
  · dsimp only [idxI]
    refine HC.seq ?_
    refine HC.seq ?_
    refine HC.region ?_
    refine HL.val (Val.move rfl) (by decide) ?_
    refine HL.val ((Val.geq rfl rfl).as (congrArg Value.bool (geq0 (64 + m)))) (by decide) ?_
    refine HL.nil ?_
    refine HQ.next ?_
    refine HC.yes rfl ?_
    refine HC.skip ?_
    refine HQ.next ?_
    refine HC.seq ?_
    refine HC.block ?_
    refine HC.seq ?_
    refine HC.region ?_
    refine HL.val (Val.load_row rfl (fun w hw => hw.at (i := 1) rfl) Tryd.underlying27 rfl (by kernel_rfl)) (by decide) ?_
    refine HL.val (Val.load_row rfl (fun w hw => hw.at (i := 0) rfl) Tryd.underlying25 rfl (by kernel_rfl)) (by decide) ?_
    refine HL.val (Val.load_row rfl (fun w hw => hw.at (i := 0) rfl) Tryd.underlying25 rfl (by kernel_rfl)) (by decide) ?_
    refine HL.val (Val.call en45 (smul_p ((a ^ (b / 2 ^ (64 + m + 1)) % pf)) ((a ^ (b / 2 ^ (64 + m + 1)) % pf)) (Nat.mod_lt _ pf_pos) (lt_b (Nat.mod_lt _ pf_pos))) rfl) (by decide) ?_
    refine HL.put 0 rfl (Put.row rfl rfl (by kernel_rfl) rfl (wA_one _)) (.inl hb5) ?_
    simp only [List.set_cons_zero]
    refine HL.nil ?_
    refine HQ.next ?_
    refine HC.seq ?_
    refine HC.region ?_
    refine HL.val (Val.move rfl) (by decide) ?_
    refine HL.val ((Val.quoN (64 + m) 64 rfl rfl rfl (by decide) (by omega)).as (v := .int .i64 ((1 : Nat) : Int)) (congrArg (fun z : Nat => Value.int .i64 (z : Int)) (show (64 + m) / 64 = 1 by omega))) (by decide) ?_
    refine HL.val (Val.ixAddrQ (1) (i := 1) (m := 2) (s := 1) (e := 23) rfl rfl Tryd.underlying25 (by kernel_rfl) (by decide) (by omega)) (by decide) ?_
    refine HL.val (Val.load_cell rfl (fun w hw => hw.at (i := 3) rfl) rfl Tryd.underlying23 rfl) (by decide) ?_
    refine HL.val (Val.move rfl) (by decide) ?_
    refine HL.val ((Val.remN (64 + m) 64 rfl rfl rfl (by decide)).as (v := .int .i64 ((m : Nat) : Int)) (congrArg (fun z : Nat => Value.int .i64 (z : Int)) (show (64 + m) % 64 = m by omega))) (by decide) ?_
    refine HL.val ((Val.shrI rfl rfl (Int.natCast_nonneg _) (show ((m : Nat) : Int) ≤ 64 by omega)).as (congrArg (Value.int .u64) (shrN (b / 18446744073709551616) m))) (by decide) ?_
    refine HL.val ((Val.andI rfl rfl).as (congrArg (Value.int .u64) (and1 ((b / 18446744073709551616) / 2 ^ m) (Nat.lt_of_le_of_lt (Nat.div_le_self _ _) (hiW hb))))) (by decide) ?_
    by_cases hbit : b / 2 ^ (64 + m) % 2 = 1
    · refine HL.val ((((Val.eqlI rfl rfl).as (congrArg Value.bool (eql1 ((b / 18446744073709551616) / 2 ^ m % 2)))).as (congrArg (fun z : Nat => Value.bool (decide (z = 1))) (limb1 b m))).as (congrArg Value.bool (decide_eq_true hbit))) (by decide) ?_
      refine HL.nil ?_
      refine HQ.next ?_
      refine HC.yes rfl ?_
      refine HC.region ?_
      refine HL.val (Val.load_row rfl (fun w hw => hw.at (i := 1) rfl) Tryd.underlying27 rfl (by kernel_rfl)) (by decide) ?_
      refine HL.val (Val.load_row rfl (fun w hw => hw.at (i := 0) rfl) Tryd.underlying25 rfl (by kernel_rfl)) (by decide) ?_
      refine HL.val (Val.load_row rfl (fun w hw => hw.at (i := 2) rfl) Tryd.underlying25 rfl (by kernel_rfl)) (by decide) ?_
      refine HL.val (Val.call en45 (smul_p ((((a ^ (b / 2 ^ (64 + m + 1)) % pf)) * ((a ^ (b / 2 ^ (64 + m + 1)) % pf)) % pf)) a (Nat.mod_lt _ pf_pos) (lt_b ha)) rfl) (by decide) ?_
      refine HL.put 0 rfl (Put.row rfl rfl (by kernel_rfl) rfl (wA_one _)) (.inl hb5) ?_
      simp only [List.set_cons_zero]
      refine HL.nil ?_
      refine HQ.blockNormal ?_
      refine HQ.next ?_
      refine HC.region ?_
      refine HL.val (Val.move rfl) (by decide) ?_
      refine HL.val ((Val.subI rfl rfl).as (congrArg (Value.int .i64) (idx_wrap (q := (64 + m)) (by omega)))) (by decide) ?_
      refine HL.val (Val.assign rfl) (by decide) ?_
      refine HL.nil ?_
      exact ⟨fun ac wc ha hw => ⟨⟨(64 + m), by omega⟩, by dsimp only; omega, ha.subS ⟨rfl, rfl, rfl, rfl, rfl, rfl, trivial⟩, by have h := hw.pick [0, 1, 2, 3, 4] (by simp); simp only [List.filterMap_cons, List.filterMap_nil, List.getElem?_cons_zero, List.getElem?_cons_succ] at h; rw [pow_bit1 hbit] at h; exact h⟩⟩
    · refine HL.val ((((Val.eqlI rfl rfl).as (congrArg Value.bool (eql1 ((b / 18446744073709551616) / 2 ^ m % 2)))).as (congrArg (fun z : Nat => Value.bool (decide (z = 1))) (limb1 b m))).as (congrArg Value.bool (decide_eq_false hbit))) (by decide) ?_
      refine HL.nil ?_
      refine HQ.next ?_
      refine HC.no rfl ?_
      refine HC.skip ?_
      refine HQ.blockNormal ?_
      refine HQ.next ?_
      refine HC.region ?_
      refine HL.val (Val.move rfl) (by decide) ?_
      refine HL.val ((Val.subI rfl rfl).as (congrArg (Value.int .i64) (idx_wrap (q := (64 + m)) (by omega)))) (by decide) ?_
      refine HL.val (Val.assign rfl) (by decide) ?_
      refine HL.nil ?_
      exact ⟨fun ac wc ha hw => ⟨⟨(64 + m), by omega⟩, by dsimp only; omega, ha.subS ⟨rfl, rfl, rfl, rfl, rfl, rfl, trivial⟩, by have h := hw.pick [0, 1, 2, 3, 4] (by simp); simp only [List.filterMap_cons, List.filterMap_nil, List.getElem?_cons_zero, List.getElem?_cons_succ] at h; rw [pow_bit0 hbit] at h; exact h⟩⟩
end Go.Proofs.YtgdfdkpkhjbibaaDoor
