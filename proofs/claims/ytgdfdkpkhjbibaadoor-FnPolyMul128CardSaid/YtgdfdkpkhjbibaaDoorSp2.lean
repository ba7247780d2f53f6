/-
  The number of bytes, the field, and which elements are below the order (written by gensp2.py).
-/
import Derived.Test.YtgdfdkpkhjbibaaDoorSp
import Derived.Test.YtgdfdkpkhjbibaaDoorFp4
import Derived.Great.BuildSlice
namespace Go.Proofs.YtgdfdkpkhjbibaaDoor
open Go.RowKit
section
variable {P : Program} {n : Nat} {σ : List (Nat × Value)} {I : World → Prop} {dst : Option Tmp} {ty : TypeId} {pos : String} {af : Array Edge} {gd : Option (Nat × Bool)}
theorem Val.quoN {t t2 : TypeId} {x y : Operand} {b : Int} (i m : Nat) (hx : evS σ x = some (.int .i64 (i : Int))) (hy : evS σ y = some (.int .i64 b)) (hb : b = (m : Int)) (hm : 0 < m) (hi : i < 9223372036854775808) : Val P n σ I ⟨dst, .binOp .quo t x y t2, ty, pos, af, gd⟩ (.int .i64 ((i / m : Nat) : Int)) := .bin hx hy (by rfl) (fun w => by
  subst hb
  have h1 : ((i / m : Nat) : Int) < 9223372036854775808 := by have := Nat.div_le_self i m; omega
  have h0 : ((m : Nat) : Int) ≠ 0 := by omega
  have h2 := Int.natCast_nonneg (i / m)
  rw [binOp_quo, Op.intDiv, if_neg h0]
  simp only [Int.tdiv_eq_ediv_of_nonneg (show (0 : Int) ≤ (i : Int) by omega), ← Int.natCast_ediv]
  rw [IntKind.wrap_i64, Int.emod_eq_of_lt (by omega) (by omega)]
  simp [Sem.run_pure])
theorem Val.remN {t t2 : TypeId} {x y : Operand} {b : Int} (i m : Nat) (hx : evS σ x = some (.int .i64 (i : Int))) (hy : evS σ y = some (.int .i64 b)) (hb : b = (m : Int)) (hm : 0 < m) : Val P n σ I ⟨dst, .binOp .rem t x y t2, ty, pos, af, gd⟩ (.int .i64 ((i % m : Nat) : Int)) := .bin hx hy (by rfl) (fun w => by
  subst hb
  have h0 : ((m : Nat) : Int) ≠ 0 := by omega
  rw [binOp_rem, Op.intDiv, if_neg h0]
  simp only [Int.tmod_eq_emod_of_nonneg (show (0 : Int) ≤ (i : Int) by omega), ← Int.natCast_emod]
  simp [Sem.run_pure])
theorem New.bslice {t e : TypeId} {len s : Nat} {parts : Array (Nat × Operand)} {vs : List (Nat × Value)} {cells : Array Value} {z : Value} (hx : parts.toList.mapM (fun p => (evS σ p.2).map fun u => (p.1, u)) = some vs)
    (hu : P.underlying t = some (.slice e)) (hs : (P.info? e).map (·.size) = some s) (hz : (P.info? e).bind (·.zero) = some z) (hsmall : ¬ len * s > 2 ^ 24) (hpos : ¬ len * s = 0)
    (h : Instr.fill (fun i => some (i * s, s)) ((Array.range (len * s)).map (z.cells[· % z.cells.size]!)) vs = some cells) :
    New P n σ I ⟨dst, .buildSlice t len parts, ty, pos, af, gd⟩ (.cells cells e (0, 0)) (fun b => .slice (some ⟨b, 0, none⟩) len len) := ⟨fun a w ha _ => by
  have h1 := mapM_ev ha _ _ hx
  have h2 : (parts.map fun (i, x) => (i, a.eval x)).toList = vs := by rw [Array.toList_map]; exact h1
  cases hie : P.info? e with
  | none => simp [hie] at hs
  | some ie =>
    simp only [hie, Option.map_some, Option.bind_some, Option.some.injEq] at hs hz
    subst hs
    unfold execOp
    simp only [Sem.run_bind, run_buildSlice w t e len _ cells ie z hu hie hz hsmall hpos (by rw [h2]; exact h), Result.andThen_ok]
    rfl⟩
end
theorem hold_any {w : World} {b : Nat} {ob : Obj} {D : Nat → Bool} (h : w.heap[b]? = some ob) : Hold D w [(b, ob)] w := ⟨Sn.refl _ _, (fun p hp => by
  obtain rfl : p = (b, ob) := by simpa using hp
  exact h), by simp⟩
/-- A word's lowest bytes. -/
theorem lowB_ex : ∃ f : Nat → Nat → Nat, ∀ a b, f a b = a % 256 ^ b := ⟨_, fun _ _ => rfl⟩
noncomputable def lowB : Nat → Nat → Nat := Classical.choose lowB_ex
theorem lowB_eq (a b : Nat) : lowB a b = a % 256 ^ b := Classical.choose_spec lowB_ex a b
theorem lowB_zero (a : Nat) : lowB a 0 = 0 := by rw [lowB_eq]; omega
theorem lowB_lt (a : Nat) {k : Nat} (hk : k ≤ 8) : lowB a k < 18446744073709551616 := by
  rw [lowB_eq]
  exact Nat.lt_of_lt_of_le (Nat.mod_lt _ (Nat.pow_pos (by decide))) (by have := Nat.pow_le_pow_right (n := 256) (by decide) hk; exact this)
theorem lowB_all {a k : Nat} (h : a < 256 ^ k) : lowB a k = a := by rw [lowB_eq, Nat.mod_eq_of_lt h]
theorem byte_wrap (x k : Nat) : IntKind.u64.wrap (((x / 256 ^ k % 256 : Nat) : Int)) = ((x / 256 ^ k % 256 : Nat) : Int) := by
  rw [IntKind.wrap_u64]; omega
theorem wrap8 {m : Nat} (hm : m < 8) : IntKind.i64.wrap (8 * (m : Int)) = ((8 * m : Nat) : Int) := by
  rw [IntKind.wrap_i64]; omega
theorem byte_shl {x k : Nat} (hk : k < 8) : IntKind.u64.wrap (((x / 256 ^ k % 256 : Nat) : Int) * 2 ^ ((8 * k : Nat) : Int).toNat) = (((x / 256 ^ k % 256) * 256 ^ k : Nat) : Int) := by
  rw [Int.toNat_natCast]
  have e : (2 : Int) ^ (8 * k) = ((256 ^ k : Nat) : Int) := by rw [Int.pow_mul]; norm_cast
  rw [e, ← Int.natCast_mul, IntKind.wrap_u64]
  have h1 : x / 256 ^ k % 256 * 256 ^ k < 256 ^ (k + 1) := by
    rw [Nat.pow_succ, Nat.mul_comm (256 ^ k)]
    exact Nat.mul_lt_mul_of_pos_right (Nat.mod_lt _ (by decide)) (Nat.pow_pos (by decide))
  have h2 : 256 ^ (k + 1) ≤ 256 ^ 8 := Nat.pow_le_pow_right (by decide) hk
  have h3 : (256 : Nat) ^ 8 = 18446744073709551616 := by decide
  omega
theorem orB {x k : Nat} (hk : k < 8) : bits .or .u64 (lowB x k : Int) ((x / 256 ^ k % 256 * 256 ^ k : Nat) : Int) = (lowB x (k + 1) : Int) := by
  have h1 : x / 256 ^ k % 256 * 256 ^ k < 256 ^ (k + 1) := by
    rw [Nat.pow_succ, Nat.mul_comm (256 ^ k)]
    exact Nat.mul_lt_mul_of_pos_right (Nat.mod_lt _ (by decide)) (Nat.pow_pos (by decide))
  have h2 : 256 ^ (k + 1) ≤ 256 ^ 8 := Nat.pow_le_pow_right (by decide) hk
  have h3 : (256 : Nat) ^ 8 = 18446744073709551616 := by decide
  rw [bits_or_u64_nat _ _ (lowB_lt x (by omega)) (by omega)]
  congr 1
  rw [lowB_eq, lowB_eq]
  have e : (256 : Nat) ^ k = 2 ^ (8 * k) := by rw [Nat.pow_mul]
  have hl : x % 256 ^ k < 2 ^ (8 * k) := by rw [← e]; exact Nat.mod_lt _ (Nat.pow_pos (by decide))
  rw [Nat.or_comm]
  conv => lhs; rhs; rw [e]
  conv => lhs; lhs; rw [Nat.mul_comm, e]
  have h5 := Nat.two_pow_add_eq_or_of_lt (i := 8 * k) (b := x % 256 ^ k) hl (x / 2 ^ (8 * k) % 256)
  rw [e] at h5
  rw [← h5, ← e, Nat.pow_succ, Nat.mod_mul]
  omega

/-- What is gathered after so many bytes. -/
noncomputable def stN (n k : Nat) : Array Value := #[.int .u64 ((lowB (n % 18446744073709551616) (min k 8) : Nat) : Int), .int .u64 ((lowB (n / 18446744073709551616) (k - 8) : Nat) : Int)]

theorem stN_0 (n : Nat) {k : Nat} (_h : k ≤ 8) : stN n k = #[.int .u64 ((lowB (n % 18446744073709551616) k : Nat) : Int), .int .u64 ((lowB (n / 18446744073709551616) 0 : Nat) : Int)] := by
  unfold stN; rw [show min k 8 = k by omega, show k - 8 = 0 by omega]

theorem stN_1 (n m : Nat) : stN n (8 + m) = #[.int .u64 ((lowB (n % 18446744073709551616) 8 : Nat) : Int), .int .u64 ((lowB (n / 18446744073709551616) m : Nat) : Int)] := by
  unfold stN; rw [show min (8 + m) 8 = 8 by omega, show 8 + m - 8 = m by omega]

theorem stN_zero (n : Nat) : wA 0 = stN n 0 := by
  unfold stN wA
  simp [lowB_zero]
theorem stN_all {n : Nat} (h : n < 256 ^ 16) : stN n 16 = wA n := by
  have e8 : (256 : Nat) ^ 8 = 18446744073709551616 := by decide
  have h1 : lowB (n % 18446744073709551616) 8 = n % 18446744073709551616 := lowB_all (by omega)
  have h2 : lowB (n / 18446744073709551616) 8 = n / 18446744073709551616 := lowB_all (by
    have e16 : (256 : Nat) ^ 16 = 18446744073709551616 * 18446744073709551616 := by decide
    rw [e8]; exact Nat.div_lt_of_lt_mul (by rw [← e16]; exact h))
  rw [show (16 : Nat) = 8 + 8 from rfl, stN_1, h1, h2]
  rfl

theorem byte_lo (n : Nat) {i : Nat} (hi : i < 8) : n / 256 ^ i % 256 = n % 18446744073709551616 / 256 ^ i % 256 := by
  rcases (show i = 0 ∨ i = 1 ∨ i = 2 ∨ i = 3 ∨ i = 4 ∨ i = 5 ∨ i = 6 ∨ i = 7 by omega) with rfl | rfl | rfl | rfl | rfl | rfl | rfl | rfl <;> omega
theorem byteV0 (n : Nat) {i : Nat} (hi : i < 8) : bv n i = .int .u8 ((n % 18446744073709551616 / 256 ^ i % 256 : Nat) : Int) := by
  unfold bv; rw [byte_lo n hi]
theorem byteV1 (n : Nat) {i : Nat} (_hi : i < 8) : bv n (8 + i) = .int .u8 ((n / 18446744073709551616 / 256 ^ i % 256 : Nat) : Int) := by
  have h8 : (256 : Nat) ^ 8 = 18446744073709551616 := by decide
  unfold bv; rw [Nat.pow_add, h8, Nat.div_div_eq_div_mul]

set_option maxRecDepth 100000 in
theorem number_any {n bs Ts c : Nat} {w : World} (h0 : w.heap[bs]? = some (.cells (byA 16 n) Ts (0, 0))) (hB : n < 256 ^ 16) :
    Calls Tryd.prog 66 #[.slice (some ⟨bs, 0, none⟩) 16 c] w fun e w' => e = .returned (.agg (wA n)) ∧ Below w.heap.size w w' := by
  refine calls_H (args := [.slice (some ⟨bs, 0, none⟩) 16 c]) noD [(bs, .cells (byA 16 n) Ts (0, 0))] Tryd.func66 rfl (m := 30) rfl rfl (hold_any h0) ?_
  refine HC.seq ?_
  refine HC.region ?_
  refine HL.new (New.alloc al25) (by decide) ?_
  intro b1 hb1
  refine HL.nil ?_
  refine HQ.next ?_
  refine HC.seq ?_
  refine HC.region ?_
  refine HL.val (Val.build rfl built_w0) (by decide) ?_
  refine HL.new (New.alloc al25) (by decide) ?_
  intro b2 hb2
  refine HL.put 0 rfl (Put.row rfl rfl (by kernel_rfl) rfl (wA_one _)) (.inl hb2) ?_
  simp only [List.set_cons_zero]
  refine HL.nil ?_
  refine HQ.next ?_
  refine HC.seq ?_
  refine HC.seq ?_
  refine HC.region ?_
  refine HL.val (Val.move rfl) (by decide) ?_
  refine HL.val (Val.lenS rfl rfl Tryd.underlying62) (by decide) ?_
  refine HL.val (Val.move rfl) (by decide) ?_
  refine HL.nil ?_
  refine HQ.next ?_
  refine HC.block ?_
  refine HC.loop (ι := {p : Nat // p ≤ 16}) (fun p => 16 - p.1) (fun p => [(9, .int .i64 (p.1 : Int)), (8, .int .i64 16), (7, .slice (some ⟨bs, 0, none⟩) 16 c), (3, .pointer (some ⟨b2, 0, none⟩)), (2, .pointer (some ⟨b1, 0, none⟩))]) (fun p => [(b2, .cells (stN n p.1) 25 (0, 0)), (b1, .cells (wA 0) 25 (0, 0)), (bs, .cells (byA 16 n) Ts (0, 0))]) ⟨0, Nat.zero_le _⟩ (fun a w ha hw => ⟨ha.subS ⟨rfl, rfl, rfl, rfl, rfl, trivial⟩, by have h := hw.pick [0, 1, 2] (by simp); rw [← stN_zero]; exact h⟩) ?_
  rintro ⟨k, hk⟩
  dsimp only
  rcases (show k < 8 ∨ (∃ m, k = 8 + m ∧ m < 8) ∨ k = 16 from by rcases Nat.lt_or_ge k 8 with h | h; exact .inl h; exact .inr (by rcases Nat.lt_or_ge k 16 with h2 | h2; exact .inl ⟨k - 8, by omega, by omega⟩; exact .inr (by omega))) with hm | ⟨m, rfl, hm⟩ | rfl
  · rw [stN_0 n (by omega)]
    refine HC.seq ?_
    refine HC.region ?_
    refine HL.val (((Val.lss rfl rfl).as (congrArg Value.bool (lssN k 16))).as (congrArg Value.bool (decide_eq_true (show k < 16 by omega)))) (by decide) ?_
    refine HL.nil ?_
    refine HQ.next ?_
    refine HC.seq ?_
    refine HC.yes rfl ?_
    refine HC.skip ?_
    refine HQ.next ?_
    refine HC.seq ?_
    refine HC.block ?_
    refine HC.seq ?_
    refine HC.region ?_
    refine HL.val (Val.move rfl) (by decide) ?_
    refine HL.val (Val.ixSlice (s := 1) (i := k) k rfl rfl Tryd.underlying62 (by kernel_rfl) (by omega) (by omega)) (by decide) ?_
    refine HL.val ((Val.load_cell rfl (fun w hw => hw.at (i := 2) rfl) (byA_get (show k < 16 by omega)) Tryd.underlying5 rfl).as (v := .int .u8 ((((n % 18446744073709551616) / 256 ^ k % 256) : Nat) : Int)) (byteV0 n hm)) (by decide) ?_
    refine HL.val (Val.assign rfl) (by decide) ?_
    refine HL.val (Val.assign rfl) (by decide) ?_
    refine HL.nil ?_
    refine HQ.next ?_
    refine HC.draw0 14 (by kernel_rfl) (by kernel_rfl) ?_
    simp only [List.take, List.drop]
    refine HV.val (Val.move rfl) (by decide) ?_
    refine HV.val ((Val.quoN k 8 rfl rfl rfl (by decide) (by omega)).as (v := .int .i64 ((0 : Nat) : Int)) (congrArg (fun z : Nat => Value.int .i64 (z : Int)) (show k / 8 = 0 by omega))) (by decide) ?_
    refine HV.val (Val.move rfl) (by decide) ?_
    refine HV.val ((Val.quoN k 8 rfl rfl rfl (by decide) (by omega)).as (v := .int .i64 ((0 : Nat) : Int)) (congrArg (fun z : Nat => Value.int .i64 (z : Int)) (show k / 8 = 0 by omega))) (by decide) ?_
    refine HV.val (Val.ixAddrQ (0) (i := 0) (m := 2) (s := 1) (e := 23) rfl rfl Tryd.underlying25 (by kernel_rfl) (by decide) (by omega)) (by decide) ?_
    refine HV.val (Val.load_cell rfl (fun w hw => hw.at (i := 0) rfl) rfl Tryd.underlying23 rfl) (by decide) ?_
    refine HV.val (Val.move rfl) (by decide) ?_
    refine HV.val ((Val.convI rfl rfl Tryd.underlying23).as (congrArg (Value.int .u64) (byte_wrap (n % 18446744073709551616) k))) (by decide) ?_
    refine HV.val (Val.move rfl) (by decide) ?_
    refine HV.val ((Val.remN k 8 rfl rfl rfl (by decide)).as (v := .int .i64 ((k : Nat) : Int)) (congrArg (fun z : Nat => Value.int .i64 (z : Int)) (show k % 8 = k by omega))) (by decide) ?_
    refine HV.val ((Val.mulI rfl rfl).as (congrArg (Value.int .i64) (wrap8 hm))) (by decide) ?_
    refine HV.val ((Val.shlI rfl rfl (Int.natCast_nonneg _) (show ((8 * k : Nat) : Int) ≤ 64 by omega)).as (congrArg (Value.int .u64) (byte_shl (x := (n % 18446744073709551616)) (k := k) hm))) (by decide) ?_
    refine HV.val ((Val.orI rfl rfl).as (congrArg (Value.int .u64) (orB (x := (n % 18446744073709551616)) (k := k) hm))) (by decide) ?_
    refine HV.val (Val.ixAddrQ (0) (i := 0) (m := 2) (s := 1) (e := 23) rfl rfl Tryd.underlying25 (by kernel_rfl) (by decide) (by omega)) (by decide) ?_
    refine HV.tail0 ?_
    refine HL.put 0 rfl (Put.two0 rfl rfl (by kernel_rfl) rfl) (.inl hb2) ?_
    simp only [List.set_cons_zero]
    refine HL.nil ?_
    refine HQ.blockNormal ?_
    refine HQ.next ?_
    refine HC.region ?_
    refine HL.val ((Val.addI rfl rfl).as (congrArg (Value.int .i64) (wrap1 k (by omega)))) (by decide) ?_
    refine HL.val (Val.move rfl) (by decide) ?_
    refine HL.nil ?_
    exact ⟨fun a w ha hw => ⟨⟨k + 1, by omega⟩, by dsimp only; omega, ha.subS ⟨rfl, rfl, rfl, rfl, rfl, trivial⟩, by dsimp only; rw [stN_0 n (by omega)]; exact hw⟩⟩
  · rw [stN_1 n m]
    refine HC.seq ?_
    refine HC.region ?_
    refine HL.val (((Val.lss rfl rfl).as (congrArg Value.bool (lssN (8 + m) 16))).as (congrArg Value.bool (decide_eq_true (show (8 + m) < 16 by omega)))) (by decide) ?_
    refine HL.nil ?_
    refine HQ.next ?_
    refine HC.seq ?_
    refine HC.yes rfl ?_
    refine HC.skip ?_
    refine HQ.next ?_
    refine HC.seq ?_
    refine HC.block ?_
    refine HC.seq ?_
    refine HC.region ?_
    refine HL.val (Val.move rfl) (by decide) ?_
    refine HL.val (Val.ixSlice (s := 1) (i := (8 + m)) (8 + m) rfl rfl Tryd.underlying62 (by kernel_rfl) (by omega) (by omega)) (by decide) ?_
    refine HL.val ((Val.load_cell rfl (fun w hw => hw.at (i := 2) rfl) (byA_get (show (8 + m) < 16 by omega)) Tryd.underlying5 rfl).as (v := .int .u8 ((((n / 18446744073709551616) / 256 ^ m % 256) : Nat) : Int)) (byteV1 n hm)) (by decide) ?_
    refine HL.val (Val.assign rfl) (by decide) ?_
    refine HL.val (Val.assign rfl) (by decide) ?_
    refine HL.nil ?_
    refine HQ.next ?_
    refine HC.draw0 14 (by kernel_rfl) (by kernel_rfl) ?_
    simp only [List.take, List.drop]
    refine HV.val (Val.move rfl) (by decide) ?_
    refine HV.val ((Val.quoN (8 + m) 8 rfl rfl rfl (by decide) (by omega)).as (v := .int .i64 ((1 : Nat) : Int)) (congrArg (fun z : Nat => Value.int .i64 (z : Int)) (show (8 + m) / 8 = 1 by omega))) (by decide) ?_
    refine HV.val (Val.move rfl) (by decide) ?_
    refine HV.val ((Val.quoN (8 + m) 8 rfl rfl rfl (by decide) (by omega)).as (v := .int .i64 ((1 : Nat) : Int)) (congrArg (fun z : Nat => Value.int .i64 (z : Int)) (show (8 + m) / 8 = 1 by omega))) (by decide) ?_
    refine HV.val (Val.ixAddrQ (1) (i := 1) (m := 2) (s := 1) (e := 23) rfl rfl Tryd.underlying25 (by kernel_rfl) (by decide) (by omega)) (by decide) ?_
    refine HV.val (Val.load_cell rfl (fun w hw => hw.at (i := 0) rfl) rfl Tryd.underlying23 rfl) (by decide) ?_
    refine HV.val (Val.move rfl) (by decide) ?_
    refine HV.val ((Val.convI rfl rfl Tryd.underlying23).as (congrArg (Value.int .u64) (byte_wrap (n / 18446744073709551616) m))) (by decide) ?_
    refine HV.val (Val.move rfl) (by decide) ?_
    refine HV.val ((Val.remN (8 + m) 8 rfl rfl rfl (by decide)).as (v := .int .i64 ((m : Nat) : Int)) (congrArg (fun z : Nat => Value.int .i64 (z : Int)) (show (8 + m) % 8 = m by omega))) (by decide) ?_
    refine HV.val ((Val.mulI rfl rfl).as (congrArg (Value.int .i64) (wrap8 hm))) (by decide) ?_
    refine HV.val ((Val.shlI rfl rfl (Int.natCast_nonneg _) (show ((8 * m : Nat) : Int) ≤ 64 by omega)).as (congrArg (Value.int .u64) (byte_shl (x := (n / 18446744073709551616)) (k := m) hm))) (by decide) ?_
    refine HV.val ((Val.orI rfl rfl).as (congrArg (Value.int .u64) (orB (x := (n / 18446744073709551616)) (k := m) hm))) (by decide) ?_
    refine HV.val (Val.ixAddrQ (1) (i := 1) (m := 2) (s := 1) (e := 23) rfl rfl Tryd.underlying25 (by kernel_rfl) (by decide) (by omega)) (by decide) ?_
    refine HV.tail0 ?_
    refine HL.put 0 rfl (Put.two1 rfl rfl (by kernel_rfl) rfl) (.inl hb2) ?_
    simp only [List.set_cons_zero]
    refine HL.nil ?_
    refine HQ.blockNormal ?_
    refine HQ.next ?_
    refine HC.region ?_
    refine HL.val ((Val.addI rfl rfl).as (congrArg (Value.int .i64) (wrap1 (8 + m) (by omega)))) (by decide) ?_
    refine HL.val (Val.move rfl) (by decide) ?_
    refine HL.nil ?_
    exact ⟨fun a w ha hw => ⟨⟨(8 + m) + 1, by omega⟩, by dsimp only; omega, ha.subS ⟨rfl, rfl, rfl, rfl, rfl, trivial⟩, by dsimp only; rw [show 8 + m + 1 = 8 + (m + 1) from rfl, stN_1]; exact hw⟩⟩
  · rw [stN_all hB]
    refine HC.seq ?_
    refine HC.region ?_
    refine HL.val (((Val.lss rfl rfl).as (congrArg Value.bool (lssN 16 16))).as (congrArg Value.bool (decide_eq_false (Nat.lt_irrefl 16)))) (by decide) ?_
    refine HL.nil ?_
    refine HQ.next ?_
    refine HC.seq ?_
    refine HC.no rfl ?_
    refine HC.exit ?_
    refine HQ.thenExit ?_
    refine HQ.thenExit ?_
    refine HQ.blockExit ?_
    refine HQ.next ?_
    refine HC.seq ?_
    refine HC.region ?_
    refine HL.val (Val.load_row rfl (fun w hw => hw.at (i := 0) rfl) Tryd.underlying25 rfl (by kernel_rfl)) (by decide) ?_
    refine HL.put 1 rfl (Put.row rfl rfl (by kernel_rfl) rfl (wA_one _)) (.inl hb1) ?_
    simp only [List.set_cons_zero, List.set_cons_succ]
    refine HL.nil ?_
    refine HQ.next ?_
    refine HC.ret ?_
    exact HQ.retc 1 rfl rfl rfl Tryd.underlying25 rfl (by kernel_rfl) (pure_end rfl)

set_option maxRecDepth 100000 in
theorem n_p {n : Nat} (hB : n < 256 ^ 16) : Pure Tryd.prog 22 #[byV 16 n] (.agg (wA n)) := by
  intro w
  refine calls_H (args := [byV 16 n]) noD [] Tryd.func22 rfl (m := 5) rfl rfl (hold_nil _ _) ?_
  refine HC.seq ?_
  refine HC.region ?_
  refine HL.new (New.box rfl) (by decide) ?_
  intro b1 hb1
  refine HL.new (New.alloc al25) (by decide) ?_
  intro b2 hb2
  refine HL.nil ?_
  refine HQ.next ?_
  refine HC.seq ?_
  refine HC.region ?_
  refine HL.val (Val.sliceAll (s := 1) rfl Tryd.underlying30 (by kernel_rfl)) (by decide) ?_
  refine HL.val (Val.calls en66 (fun w hw => number_any (hw.at (i := 1) rfl) hB) rfl) (by decide) ?_
  refine HL.put 0 rfl (Put.row rfl rfl (by kernel_rfl) rfl (wA_one _)) (.inl hb2) ?_
  simp only [List.set_cons_zero]
  refine HL.nil ?_
  refine HQ.next ?_
  refine HC.ret ?_
  exact HQ.retc 0 rfl rfl rfl Tryd.underlying25 rfl (by kernel_rfl) (pure_end rfl)

/-- Elements in a row. -/
def rowsL (l : List Nat) : List Value := l.flatMap (byL 16)
abbrev rowsA (l : List Nat) : Array Value := (rowsL l).toArray
theorem rowsL_length (l : List Nat) : (rowsL l).length = l.length * 16 := by
  induction l with
  | nil => rfl
  | cons x l ih => simp only [rowsL, List.flatMap_cons, List.length_append, List.length_cons] at ih ⊢; rw [ih, byL_length]; omega
theorem rowsL_get : ∀ (l : List Nat) (i j : Nat) (_ : i < l.length) (_ : j < 16), (rowsL l)[i * 16 + j]? = (byL 16 (l.getD i 0))[j]?
  | [], _, _, h, _ => absurd h (by simp)
  | x :: l, 0, j, _, hj => by
    simp only [rowsL, List.flatMap_cons]
    rw [List.getElem?_append_left (by rw [byL_length]; omega), Nat.zero_mul, Nat.zero_add]
    rfl
  | x :: l, i + 1, j, h, hj => by
    simp only [rowsL, List.flatMap_cons]
    rw [List.getElem?_append_right (by rw [byL_length]; omega), byL_length, show (i + 1) * 16 + j - 16 = i * 16 + j by omega]
    exact rowsL_get l i j (by simpa using h) hj
theorem rowsA_get {l : List Nat} {i : Nat} (h : i < l.length) : ∀ j, j < (byA 16 (l.getD i 0)).size → (rowsA l)[i * 16 + j]? = (byA 16 (l.getD i 0))[j]? := fun j hj => by
  rw [byA_size] at hj
  have := rowsL_get l i j h hj
  simpa using this
theorem info30 : (Tryd.prog.info? 30).bind (·.zero) = some (byV 16 0) := by kernel_rfl
theorem fill1 (x : Nat) : Instr.fill (fun i => some (i * 16, 16)) ((Array.range (1 * 16)).map ((byV 16 0).cells[· % (byV 16 0).cells.size]!)) [(0, byV 16 x)] = some (rowsA [x]) := by kernel_rfl
theorem fill2 (x y : Nat) : Instr.fill (fun i => some (i * 16, 16)) ((Array.range (2 * 16)).map ((byV 16 0).cells[· % (byV 16 0).cells.size]!)) [(0, byV 16 x), (1, byV 16 y)] = some (rowsA [x, y]) := by kernel_rfl
theorem fill3 (x y z : Nat) : Instr.fill (fun i => some (i * 16, 16)) ((Array.range (3 * 16)).map ((byV 16 0).cells[· % (byV 16 0).cells.size]!)) [(0, byV 16 x), (1, byV 16 y), (2, byV 16 z)] = some (rowsA [x, y, z]) := by kernel_rfl
theorem fA_one : fA.all (·.oneCell') = true := by simp [fA, Value.oneCell']

set_option maxRecDepth 100000 in
theorem field_p : Pure Tryd.prog 65 #[] (.agg fA) := by
  intro w
  refine calls_H (args := []) noD [] Tryd.func65 rfl (m := 3) rfl rfl (hold_nil _ _) ?_
  refine HC.seq ?_
  refine HC.region ?_
  refine HL.new (New.alloc al27) (by decide) ?_
  intro b1 hb1
  refine HL.nil ?_
  refine HQ.next ?_
  refine HC.seq ?_
  refine HC.region ?_
  refine HL.val (Val.build rfl built_wP) (by decide) ?_
  refine HL.val (Val.build rfl built_fA) (by decide) ?_
  refine HL.put 0 rfl (Put.row rfl rfl (by kernel_rfl) rfl fA_one) (.inl hb1) ?_
  simp only [List.set_cons_zero]
  refine HL.nil ?_
  refine HQ.next ?_
  refine HC.ret ?_
  exact HQ.retc 0 rfl rfl rfl Tryd.underlying27 rfl (by kernel_rfl) (pure_end rfl)

set_option maxRecDepth 100000 in
theorem fl_p : Pure Tryd.prog 21 #[] (.agg fA) := by
  intro w
  refine calls_H (args := []) noD [] Tryd.func21 rfl (m := 2) rfl rfl (hold_nil _ _) ?_
  refine HC.seq ?_
  refine HC.region ?_
  refine HL.new (New.alloc al27) (by decide) ?_
  intro b1 hb1
  refine HL.nil ?_
  refine HQ.next ?_
  refine HC.seq ?_
  refine HC.region ?_
  refine HL.val (Val.call en65 (field_p) rfl) (by decide) ?_
  refine HL.put 0 rfl (Put.row rfl rfl (by kernel_rfl) rfl fA_one) (.inl hb1) ?_
  simp only [List.set_cons_zero]
  refine HL.nil ?_
  refine HQ.next ?_
  refine HC.ret ?_
  exact HQ.retc 0 rfl rfl rfl Tryd.underlying27 rfl (by kernel_rfl) (pure_end rfl)

set_option maxRecDepth 100000 in
theorem has_p (n : Nat) : Pure Tryd.prog 30 #[.agg fA, .agg (wA n)] (.bool (decide (n < pf))) := by
  intro w
  refine calls_H (args := [.agg fA, .agg (wA n)]) noD [] Tryd.func30 rfl (m := 9) rfl rfl (hold_nil _ _) ?_
  refine HC.seq ?_
  refine HC.region ?_
  refine HL.new (New.box rfl) (by decide) ?_
  intro b1 hb1
  refine HL.new (New.box rfl) (by decide) ?_
  intro b2 hb2
  refine HL.val (Val.assign rfl) (by decide) ?_
  refine HL.nil ?_
  refine HQ.next ?_
  refine HC.seq ?_
  refine HC.region ?_
  refine HL.val (Val.load_row rfl (fun w hw => hw.at (i := 0) rfl) Tryd.underlying25 rfl (by kernel_rfl)) (by decide) ?_
  refine HL.val (Val.run1 (fun u => Instr.fieldAt 27 u 0) (fun _ => rfl) rfl (v := .pointer (some ⟨b1, 0, none⟩)) (fun _ _ => rfl)) (by decide) ?_
  refine HL.val (Val.load_mid rfl (fun w hw => hw.at (i := 1) rfl) (wA pf) fA_P Tryd.underlying25 rfl (by kernel_rfl)) (by decide) ?_
  refine HL.val (Val.call en77 (below_p n pf) rfl) (by decide) ?_
  refine HL.val (Val.assign rfl) (by decide) ?_
  refine HL.nil ?_
  refine HQ.next ?_
  refine HC.ret ?_
  exact HQ.ret1 rfl rfl (pure_end rfl)

theorem all_take {l : List Nat} {k : Nat} (hp : (l.take k).all (fun x => decide (x < pf)) = true) (hk : k < l.length) (hx : l.getD k 0 < pf) : (l.take (k + 1)).all (fun x => decide (x < pf)) = true := by
  rw [List.take_add_one, List.all_append, hp]
  simp only [List.getElem?_eq_getElem hk, Option.toList_some, List.all_cons, List.all_nil, Bool.and_true, Bool.true_and, decide_eq_true_eq]
  simpa [List.getD, hk] using hx
theorem all_all {l : List Nat} {k : Nat} (hp : (l.take k).all (fun x => decide (x < pf)) = true) (hk : l.length ≤ k) : l.all (fun x => decide (x < pf)) = true := by
  rwa [List.take_of_length_le hk] at hp
theorem all_not {l : List Nat} {k : Nat} (hk : k < l.length) (hx : ¬ l.getD k 0 < pf) : l.all (fun x => decide (x < pf)) = false := by
  rw [Bool.eq_false_iff]
  intro h
  exact hx (by simpa using List.all_eq_true.1 h (l.getD k 0) (by simp [List.getD, hk]))
set_option maxRecDepth 100000 in
theorem has_any {l : List Nat} {bs Ts c : Nat} {w : World} (h0 : w.heap[bs]? = some (.cells (rowsA l) Ts (0, 0))) (hB : ∀ k, k < l.length → l.getD k 0 < 256 ^ 16) (hl : l.length < 4611686018427387904) :
    Calls Tryd.prog 25 #[.slice (some ⟨bs, 0, none⟩) l.length c] w fun e w' => e = .returned (.bool (l.all fun x => decide (x < pf))) ∧ Below w.heap.size w w' := by
  refine calls_H (args := [.slice (some ⟨bs, 0, none⟩) l.length c]) noD [(bs, .cells (rowsA l) Ts (0, 0))] Tryd.func25 rfl (m := 17) rfl rfl (hold_any h0) ?_
  refine HC.seq ?_
  refine HC.region ?_
  refine HL.val (Val.assign rfl) (by decide) ?_
  refine HL.nil ?_
  refine HQ.next ?_
  refine HC.seq ?_
  refine HC.seq ?_
  refine HC.region ?_
  refine HL.val (Val.move rfl) (by decide) ?_
  refine HL.val (Val.lenS rfl rfl Tryd.underlying47) (by decide) ?_
  refine HL.val (Val.move rfl) (by decide) ?_
  refine HL.nil ?_
  refine HQ.next ?_
  refine HC.block ?_
  refine HC.loop (ι := {p : Nat // p ≤ l.length ∧ (l.take p).all (fun x => decide (x < pf)) = true}) (fun p => l.length - p.1) (fun p => [(7, .int .i64 (p.1 : Int)), (6, .int .i64 (l.length : Int)), (5, .slice (some ⟨bs, 0, none⟩) l.length c)]) (fun p => [(bs, .cells (rowsA l) Ts (0, 0))]) ⟨0, Nat.zero_le _, rfl⟩ (fun a w ha hw => ⟨ha.subS ⟨rfl, rfl, rfl, trivial⟩, hw⟩) ?_
  rintro ⟨k, hk, hp⟩
  dsimp only
  refine HC.seq ?_
  refine HC.region ?_
  by_cases hkl : k < l.length
  · refine HL.val ((Val.lss rfl rfl).as (congrArg Value.bool ((lssN k l.length).trans (decide_eq_true hkl)))) (by decide) ?_
    refine HL.nil ?_
    refine HQ.next ?_
    refine HC.seq ?_
    refine HC.yes rfl ?_
    refine HC.skip ?_
    refine HQ.next ?_
    refine HC.seq ?_
    refine HC.block ?_
    refine HC.seq ?_
    refine HC.region ?_
    refine HL.val (Val.ixSlice (s := 16) (i := k) (k * 16) rfl rfl Tryd.underlying47 (by kernel_rfl) hkl (by omega)) (by decide) ?_
    refine HL.val (Val.load_mid rfl (fun w hw => hw.at (i := 0) rfl) (byA 16 (l.getD k 0)) (rowsA_get hkl) Tryd.underlying30 rfl (by kernel_rfl)) (by decide) ?_
    refine HL.new (New.alloc al30) (by decide) ?_
    intro b1 hb1
    refine HL.put 0 rfl (Put.row rfl rfl (by kernel_rfl) (szB _ _ _) (oneB _ _)) (.inl hb1) ?_
    simp only [List.set_cons_zero]
    refine HL.nil ?_
    refine HQ.next ?_
    refine HC.seq ?_
    refine HC.draw0 4 (by kernel_rfl) (by kernel_rfl) ?_
    simp only [List.take, List.drop]
    refine HV.val (Val.call en21 (fl_p) rfl) (by decide) ?_
    refine HV.val (Val.load_row rfl (fun w hw => hw.at (i := 0) rfl) Tryd.underlying30 rfl (by kernel_rfl)) (by decide) ?_
    refine HV.val (Val.call en22 (n_p (hB k hkl)) rfl) (by decide) ?_
    by_cases hx : l.getD k 0 < pf
    · refine HV.val ((Val.call en30 (has_p ((l.getD k 0))) rfl).as (congrArg Value.bool (decide_eq_true hx))) (by decide) ?_
      refine HV.tail0 ?_
      refine HL.val (Val.not rfl) (by decide) ?_
      refine HL.nil ?_
      refine HQ.next ?_
      refine HC.no rfl ?_
      refine HC.skip ?_
      refine HQ.blockNormal ?_
      refine HQ.next ?_
      refine HC.region ?_
      refine HL.val ((Val.addI rfl rfl).as (congrArg (Value.int .i64) (wrap1 k (by omega)))) (by decide) ?_
      refine HL.val (Val.move rfl) (by decide) ?_
      refine HL.nil ?_
      exact ⟨fun a w ha hw => ⟨⟨k + 1, hkl, all_take hp hkl hx⟩, by dsimp only; omega, ha.subS ⟨rfl, rfl, rfl, trivial⟩, hw.pick [1] (by simp)⟩⟩
    · refine HV.val ((Val.call en30 (has_p ((l.getD k 0))) rfl).as (congrArg Value.bool (decide_eq_false hx))) (by decide) ?_
      refine HV.tail0 ?_
      refine HL.val (Val.not rfl) (by decide) ?_
      refine HL.nil ?_
      refine HQ.next ?_
      refine HC.yes rfl ?_
      refine HC.seq ?_
      refine HC.region ?_
      refine HL.val (Val.assign rfl) (by decide) ?_
      refine HL.nil ?_
      refine HQ.next ?_
      refine HC.ret ?_
      refine HQ.blockRet ?_
      refine HQ.thenRet ?_
      refine HQ.thenRet ?_
      refine HQ.blockRet ?_
      refine HQ.thenRet ?_
      exact HQ.ret1 rfl rfl (pure_end (congrArg Value.bool (all_not hkl hx).symm))
  · refine HL.val ((Val.lss rfl rfl).as (congrArg Value.bool ((lssN k l.length).trans (decide_eq_false hkl)))) (by decide) ?_
    refine HL.nil ?_
    refine HQ.next ?_
    refine HC.seq ?_
    refine HC.no rfl ?_
    refine HC.exit ?_
    refine HQ.thenExit ?_
    refine HQ.thenExit ?_
    refine HQ.blockExit ?_
    refine HQ.next ?_
    refine HC.seq ?_
    refine HC.region ?_
    refine HL.val (Val.assign rfl) (by decide) ?_
    refine HL.nil ?_
    refine HQ.next ?_
    refine HC.ret ?_
    exact HQ.ret1 rfl rfl (pure_end (congrArg Value.bool (all_all hp (by omega)).symm))
end Go.Proofs.YtgdfdkpkhjbibaaDoor
