/-
  The reference: bits, powers (written by gensq.py).
-/
import Derived.Test.YteehdjkmjncehaaSb
import Derived.Test.YteehdjkmjncehaaHR
namespace Go.Proofs.Yteehdjkmjncehaa
open Go.RowKit
theorem powN_ex : ∃ f : Nat → Nat → Nat, ∀ a e, f a e = a ^ e % p25 := ⟨_, fun _ _ => rfl⟩
/-- A power modulo the prime. -/
noncomputable def powN : Nat → Nat → Nat := Classical.choose powN_ex
theorem powN_eq (a e : Nat) : powN a e = a ^ e % p25 := Classical.choose_spec powN_ex a e
theorem powN_lt (a e : Nat) : powN a e < 2 ^ 256 := by rw [powN_eq]; exact lt256 _
theorem half_bit (e q : Nat) : e / 2 ^ q = 2 * (e / 2 ^ (q + 1)) + e / 2 ^ q % 2 := by
  rw [Nat.pow_succ, ← Nat.div_div_eq_div_mul]; omega
theorem powN_bit0 {a e q : Nat} (h : ¬ e / 2 ^ q % 2 = 1) : powN a (e / 2 ^ (q + 1)) * powN a (e / 2 ^ (q + 1)) % p25 = powN a (e / 2 ^ q) := by
  have h2 := half_bit e q
  rw [show e / 2 ^ q % 2 = 0 by omega] at h2
  rw [powN_eq, powN_eq, h2, ← Nat.mul_mod, ← Nat.pow_add]; congr 2; omega
theorem powN_bit1 {a e q : Nat} (h : e / 2 ^ q % 2 = 1) : powN a (e / 2 ^ (q + 1)) * powN a (e / 2 ^ (q + 1)) % p25 * a % p25 = powN a (e / 2 ^ q) := by
  have h2 := half_bit e q
  rw [h] at h2
  rw [powN_eq, powN_eq, h2, ← Nat.mul_mod, ← Nat.pow_add, Nat.mod_mul_mod, ← Nat.pow_succ]; congr 2; omega
theorem powN_top {a e : Nat} (h : e < 2 ^ 256) : powN a (e / 2 ^ 256) = 1 := by rw [Nat.div_eq_of_lt h, powN_eq, Nat.pow_zero]; decide +kernel
theorem dig_bit (a i : Nat) : dig a (i / 16) / 2 ^ (i % 16) % 2 = a / 2 ^ i % 2 := by
  unfold dig
  have hm : i % 16 < 16 := Nat.mod_lt _ (by decide)
  have e1 : (65536 : Nat) = 2 ^ (i % 16) * 2 ^ (16 - i % 16) := by rw [← Nat.pow_add, show i % 16 + (16 - i % 16) = 16 by omega]
  have e2 : 2 ^ (16 - i % 16) = 2 * 2 ^ (15 - i % 16) := by rw [show 16 - i % 16 = (15 - i % 16) + 1 by omega, Nat.pow_succ, Nat.mul_comm]
  have e3 : 65536 ^ (i / 16) * 2 ^ (i % 16) = 2 ^ i := by
    rw [show (65536 : Nat) = 2 ^ 16 by decide, ← Nat.pow_mul, ← Nat.pow_add, Nat.div_add_mod]
  have e4 : ∀ X : Nat, X % 65536 / 2 ^ (i % 16) % 2 = X / 2 ^ (i % 16) % 2 := fun X => by
    rw [e1, Nat.mod_mul_right_div_self, e2, Nat.mod_mul_right_mod]
  rw [e4, Nat.div_div_eq_div_mul, e3]
theorem and1 (x : Nat) (hx : x < 18446744073709551616) : bits .and .u64 (x : Int) 1 = ((x % 2 : Nat) : Int) := by
  have h := u64_and_nat x 1 hx (by decide)
  rw [Nat.and_one_is_mod] at h
  exact h
theorem eql1 (x : Nat) : ((x : Int) == 1) = decide (x = 1) := by
  rw [Bool.eq_iff_iff, beq_iff_eq, decide_eq_true_eq]; omega
theorem dig64 (a k : Nat) : dig a k < 18446744073709551616 := Nat.lt_trans (dig_lt a k) (by decide)
def idxI (p : Nat) : Int := (p : Int) - 1
theorem idxI_s (q : Nat) : idxI (q + 1) = (q : Int) := by unfold idxI; omega
theorem idxI_0 : idxI 0 = -1 := rfl

set_option maxRecDepth 100000 in
theorem bit_p (a i : Nat) (hi : i < 256) : Pure Try.prog 82 #[nV a, .int .i64 (i : Int)] (.int .u64 ((a / 2 ^ i % 2 : Nat) : Int)) := by
  intro w
  refine calls_H (args := [nV a, .int .i64 (i : Int)]) noD [] Try.func82 rfl (m := 13) rfl rfl (hold_nil _ _) ?_
  refine HC.seq ?_
  refine HC.region ?_
  refine HL.new (New.box rfl) (by decide) ?_
  intro b1 hb1
  refine HL.val (Val.assign rfl) (by decide) ?_
  refine HL.nil ?_
  refine HQ.next ?_
  refine HC.seq ?_
  refine HC.region ?_
  refine HL.val (Val.move rfl) (by decide) ?_
  refine HL.val (Val.quoN i 16 rfl rfl rfl (by decide) (by omega)) (by decide) ?_
  refine HL.val (Val.ixAddrQ (i / 16) (i := i / 16) (m := 16) (s := 1) (e := 26) rfl rfl Try.underlying28 (by kernel_rfl) (by omega) (by omega)) (by decide) ?_
  refine HL.val (Val.load_cell rfl (fun w hw => hw.at (i := 0) rfl) (dgA_get (show i / 16 < 16 by omega)) Try.underlying26 rfl) (by decide) ?_
  refine HL.val (Val.move rfl) (by decide) ?_
  refine HL.val (Val.remN i 16 rfl rfl rfl (by decide)) (by decide) ?_
  refine HL.val ((Val.shrI rfl rfl (Int.natCast_nonneg _) (show ((i % 16 : Nat) : Int) ≤ 64 by omega)).as (congrArg (Value.int .u64) (shrNat (dig a (i / 16)) (i % 16)))) (by decide) ?_
  refine HL.val ((Val.andI rfl rfl).as (congrArg (Value.int .u64) (and1 (dig a (i / 16) / 2 ^ (i % 16)) (Nat.lt_of_le_of_lt (Nat.div_le_self _ _) (dig64 a _))))) (by decide) ?_
  refine HL.val (Val.assign rfl) (by decide) ?_
  refine HL.nil ?_
  refine HQ.next ?_
  refine HC.ret ?_
  exact HQ.ret1 rfl rfl (pure_end (congrArg (fun z : Nat => Value.int .u64 (z : Int)) (dig_bit a i)))

set_option maxRecDepth 100000 in
theorem power_p (a e : Nat) (ha : a < 2 ^ 256) (he : e < 2 ^ 256) : Pure Try.prog 63 #[nV a, nV e] (nV (powN a e)) := by
  intro w
  refine calls_H (args := [nV a, nV e]) noD [] Try.func63 rfl (m := 23) rfl rfl (hold_nil _ _) ?_
  refine HC.seq ?_
  refine HC.region ?_
  refine HL.new (New.box rfl) (by decide) ?_
  intro b1 hb1
  refine HL.new (New.box rfl) (by decide) ?_
  intro b2 hb2
  refine HL.new (New.alloc al28) (by decide) ?_
  intro b3 hb3
  refine HL.nil ?_
  refine HQ.next ?_
  refine HC.seq ?_
  refine HC.region ?_
  refine HL.val (Val.call en35 (small35 1 (by decide)) rfl) (by decide) ?_
  refine HL.new (New.alloc al28) (by decide) ?_
  intro b4 hb4
  refine HL.put 0 rfl (Put.row rfl rfl (sz28 _) (eqszN _ _ 16) (oneN 16 _)) (.inl hb4) ?_
  simp only [List.set_cons_zero]
  refine HL.nil ?_
  refine HQ.next ?_
  refine HC.seq ?_
  refine HC.seq ?_
  refine HC.region ?_
  refine HL.val (Val.assign rfl) (by decide) ?_
  refine HL.nil ?_
  refine HQ.next ?_
  refine HC.block ?_
  refine HC.loop (ι := {p : Nat // p ≤ 256}) (fun p => p.1) (fun p => [(6, .int .i64 (idxI p.1)), (2, .pointer (some ⟨b1, 0, none⟩)), (3, .pointer (some ⟨b2, 0, none⟩)), (4, .pointer (some ⟨b3, 0, none⟩)), (5, .pointer (some ⟨b4, 0, none⟩))]) (fun p => [(b4, .cells (dgA 16 (dig (powN a (e / 2 ^ p.1)))) 28 (0, 0)), (b1, .cells (dgA 16 (dig a)) 28 (0, 0)), (b2, .cells (dgA 16 (dig e)) 28 (0, 0)), (b3, .cells (dgA 16 (dig 0)) 28 (0, 0))]) ⟨256, Nat.le_refl _⟩ (fun ac wc ha hw => ⟨ha.subS ⟨rfl, rfl, rfl, rfl, rfl, trivial⟩, by have h := hw.pick [0, 3, 2, 1] (by simp); simp only [List.filterMap_cons, List.filterMap_nil, List.getElem?_cons_zero, List.getElem?_cons_succ] at h; dsimp only; rw [powN_top he]; exact h⟩) ?_
  rintro ⟨q, hq⟩
  dsimp only
  rcases (show q = 0 ∨ ∃ r, q = r + 1 ∧ r < 256 from by rcases q with _ | q; exact .inl rfl; exact .inr ⟨q, rfl, by omega⟩) with rfl | ⟨q, rfl, hm⟩
  · rw [idxI_0]
    refine HC.seq ?_
    refine HC.seq ?_
    refine HC.region ?_
    refine HL.val (Val.move rfl) (by decide) ?_
    refine HL.val ((Val.geq rfl rfl).as (v := .bool false) rfl) (by decide) ?_
    refine HL.nil ?_
    refine HQ.next ?_
    refine HC.no rfl ?_
    refine HC.exit ?_
    refine HQ.thenExit ?_
    refine HQ.thenExit ?_
    refine HQ.blockExit ?_
    refine HQ.next ?_
    refine HC.seq ?_
    refine HC.region ?_
    refine HL.val (Val.load_row rfl (fun w hw => hw.at (i := 0) rfl) Try.underlying28 rfl (sz28 _)) (by decide) ?_
    refine HL.put 3 rfl (Put.row rfl rfl (sz28 _) (eqszN _ _ 16) (oneN 16 _)) (.inl hb3) ?_
    simp only [List.set_cons_zero, List.set_cons_succ]
    refine HL.nil ?_
    refine HQ.next ?_
    refine HC.ret ?_
    exact HQ.retc 3 rfl rfl rfl Try.underlying28 rfl (sz28 _) (pure_end (by rw [Nat.pow_zero, Nat.div_one]))
  · rw [idxI_s]
    refine HC.seq ?_
    refine HC.seq ?_
    refine HC.region ?_
    refine HL.val (Val.move rfl) (by decide) ?_
    refine HL.val ((Val.geq rfl rfl).as (congrArg Value.bool (geqI q))) (by decide) ?_
    refine HL.nil ?_
    refine HQ.next ?_
    refine HC.yes rfl ?_
    refine HC.skip ?_
    refine HQ.next ?_
    refine HC.seq ?_
    refine HC.block ?_
    refine HC.seq ?_
    refine HC.region ?_
    refine HL.val (Val.load_row rfl (fun w hw => hw.at (i := 0) rfl) Try.underlying28 rfl (sz28 _)) (by decide) ?_
    refine HL.val (Val.load_row rfl (fun w hw => hw.at (i := 0) rfl) Try.underlying28 rfl (sz28 _)) (by decide) ?_
    refine HL.val (Val.call en34 (mul34 ((powN a (e / 2 ^ (q + 1)))) ((powN a (e / 2 ^ (q + 1)))) (powN_lt _ _) (powN_lt _ _)) rfl) (by decide) ?_
    refine HL.put 0 rfl (Put.row rfl rfl (sz28 _) (eqszN _ _ 16) (oneN 16 _)) (.inl hb4) ?_
    simp only [List.set_cons_zero]
    refine HL.nil ?_
    refine HQ.next ?_
    refine HC.seq ?_
    refine HC.region ?_
    refine HL.val (Val.load_row rfl (fun w hw => hw.at (i := 2) rfl) Try.underlying28 rfl (sz28 _)) (by decide) ?_
    refine HL.val (Val.move rfl) (by decide) ?_
    refine HL.val (Val.call en82 (bit_p e q (by omega)) rfl) (by decide) ?_
    by_cases hbit : e / 2 ^ q % 2 = 1
    · refine HL.val (((Val.eqlI rfl rfl).as (congrArg Value.bool (eql1 (e / 2 ^ q % 2)))).as (congrArg Value.bool (decide_eq_true hbit))) (by decide) ?_
      refine HL.nil ?_
      refine HQ.next ?_
      refine HC.yes rfl ?_
      refine HC.region ?_
      refine HL.val (Val.load_row rfl (fun w hw => hw.at (i := 0) rfl) Try.underlying28 rfl (sz28 _)) (by decide) ?_
      refine HL.val (Val.load_row rfl (fun w hw => hw.at (i := 1) rfl) Try.underlying28 rfl (sz28 _)) (by decide) ?_
      refine HL.val (Val.call en34 (mul34 (((((powN a (e / 2 ^ (q + 1)))) * ((powN a (e / 2 ^ (q + 1))))) % p25)) a (lt256 _) ha) rfl) (by decide) ?_
      refine HL.put 0 rfl (Put.row rfl rfl (sz28 _) (eqszN _ _ 16) (oneN 16 _)) (.inl hb4) ?_
      simp only [List.set_cons_zero]
      refine HL.nil ?_
      refine HQ.blockNormal ?_
      refine HQ.next ?_
      refine HC.region ?_
      refine HL.val (Val.move rfl) (by decide) ?_
      refine HL.val ((Val.subI rfl rfl).as (congrArg (Value.int .i64) (idxI_wrap (q := q) (by omega)))) (by decide) ?_
      refine HL.val (Val.assign rfl) (by decide) ?_
      refine HL.nil ?_
      exact ⟨fun ac wc ha hw => ⟨⟨q, by omega⟩, by dsimp only; omega, ha.subS ⟨rfl, rfl, rfl, rfl, rfl, trivial⟩, by have h := hw.pick [0, 1, 2, 3] (by simp); simp only [List.filterMap_cons, List.filterMap_nil, List.getElem?_cons_zero, List.getElem?_cons_succ] at h; rw [powN_bit1 hbit] at h; exact h⟩⟩
    · refine HL.val (((Val.eqlI rfl rfl).as (congrArg Value.bool (eql1 (e / 2 ^ q % 2)))).as (congrArg Value.bool (decide_eq_false hbit))) (by decide) ?_
      refine HL.nil ?_
      refine HQ.next ?_
      refine HC.no rfl ?_
      refine HC.skip ?_
      refine HQ.blockNormal ?_
      refine HQ.next ?_
      refine HC.region ?_
      refine HL.val (Val.move rfl) (by decide) ?_
      refine HL.val ((Val.subI rfl rfl).as (congrArg (Value.int .i64) (idxI_wrap (q := q) (by omega)))) (by decide) ?_
      refine HL.val (Val.assign rfl) (by decide) ?_
      refine HL.nil ?_
      exact ⟨fun ac wc ha hw => ⟨⟨q, by omega⟩, by dsimp only; omega, ha.subS ⟨rfl, rfl, rfl, rfl, rfl, trivial⟩, by have h := hw.pick [0, 1, 2, 3] (by simp); simp only [List.filterMap_cons, List.filterMap_nil, List.getElem?_cons_zero, List.getElem?_cons_succ] at h; rw [powN_bit0 hbit] at h; exact h⟩⟩

/-- A digit of the half, the digit above it seen or not. -/
def hfK (a k i : Nat) : Nat := if i < k then dig (a / 2) i else 0
theorem dig_half (a i : Nat) : dig (a / 2) i = dig a i / 2 + dig a (i + 1) % 2 * 32768 := by
  unfold dig
  have e : a / 2 / 65536 ^ i = a / 65536 ^ i / 2 := by rw [Nat.div_div_eq_div_mul, Nat.div_div_eq_div_mul, Nat.mul_comm]
  rw [e, Nat.pow_succ, ← Nat.div_div_eq_div_mul]
  generalize a / 65536 ^ i = x
  omega
theorem hfK_step (a k i : Nat) : upd (hfK a k) k (dig (a / 2) k) i = hfK a (k + 1) i := by
  unfold upd hfK
  by_cases h : i = k
  · subst h; rw [if_pos rfl, if_pos (by omega)]
  · rw [if_neg h]
    by_cases h2 : i < k
    · rw [if_pos h2, if_pos (by omega)]
    · rw [if_neg h2, if_neg (by omega)]
theorem hfK_0 (a : Nat) : dgA 16 (dig 0) = dgA 16 (hfK a 0) := dgA_congr fun i _ => by unfold hfK dig; simp
theorem hfK_16 (a : Nat) : dgA 16 (hfK a 16) = dgA 16 (dig (a / 2)) := dgA_congr fun i hi => by unfold hfK; rw [if_pos hi]
theorem dig_last {a : Nat} (h : a < 2 ^ 256) : dig a 16 = 0 := by
  unfold dig
  rw [Nat.div_eq_of_lt (Nat.lt_of_lt_of_eq h (by decide +kernel))]
theorem quo2 (x : Nat) (hx : x < 65536) : IntKind.u64.wrap (Int.tdiv (x : Int) 2) = ((x / 2 : Nat) : Int) := by
  rw [Int.tdiv_eq_ediv_of_nonneg (by omega), IntKind.wrap_u64]; omega
theorem Val.quo2 {P : Program} {n : Nat} {σ : List (Nat × Value)} {I : World → Prop} {dst : Option Tmp} {ty : TypeId} {pos : String} {af : Array Edge} {gd : Option (Nat × Bool)} {t t2 : TypeId} {x y : Operand} (i : Nat) (hx : evS σ x = some (.int .u64 (i : Int))) (hy : evS σ y = some (.int .u64 2)) (hi : i < 65536) : Val P n σ I ⟨dst, .binOp .quo t x y t2, ty, pos, af, gd⟩ (.int .u64 ((i / 2 : Nat) : Int)) := .bin hx hy (by rfl) (fun w => by
  rw [binOp_quo, Op.intDiv, if_neg (by decide), Go.Proofs.Yteehdjkmjncehaa.quo2 i hi]
  simp [Sem.run_pure])
theorem Val.rem2 {P : Program} {n : Nat} {σ : List (Nat × Value)} {I : World → Prop} {dst : Option Tmp} {ty : TypeId} {pos : String} {af : Array Edge} {gd : Option (Nat × Bool)} {t t2 : TypeId} {x y : Operand} (i : Nat) (hx : evS σ x = some (.int .u64 (i : Int))) (hy : evS σ y = some (.int .u64 2)) : Val P n σ I ⟨dst, .binOp .rem t x y t2, ty, pos, af, gd⟩ (.int .u64 ((i % 2 : Nat) : Int)) := .bin hx hy (by rfl) (fun w => by
  rw [binOp_rem, Op.intDiv, if_neg (by decide)]
  simp only [Int.tmod_eq_emod_of_nonneg (show (0 : Int) ≤ (i : Int) by omega)]
  rw [show ((i : Int) % 2) = ((i % 2 : Nat) : Int) by omega]
  simp [Sem.run_pure])
theorem mulW (x : Nat) : IntKind.u64.wrap (((x % 2 : Nat) : Int) * 32768) = ((x % 2 * 32768 : Nat) : Int) := by rw [IntKind.wrap_u64]; omega
theorem addW (x y : Nat) (h : x + y < 18446744073709551616) : IntKind.u64.wrap ((x : Int) + (y : Int)) = ((x + y : Nat) : Int) := by rw [IntKind.wrap_u64]; omega

theorem Put.to {P : Program} {n : Nat} {σ : List (Nat × Value)} {o : Oper} {b : Nat} {x y z : Obj} (h : Put P n σ o b x y) (e : y = z) : Put P n σ o b x z := e ▸ h
theorem dgA_upd {f : Nat → Nat} {k v : Nat} (h : k < 16) : (dgA 16 (upd f k v))[k]? = some (.int .u64 ((v : Nat) : Int)) := by rw [dgA_get h]; unfold upd; rw [if_pos rfl]
theorem dgA_upd2 (f : Nat → Nat) (k u v : Nat) : dgA 16 (upd (upd f k u) k v) = dgA 16 (upd f k v) := dgA_congr fun i _ => by unfold upd; split <;> rfl
set_option maxRecDepth 100000 in
theorem half_p (a : Nat) (ha : a < 2 ^ 256) : Pure Try.prog 64 #[nV a] (nV (a / 2)) := by
  intro w
  refine calls_H (args := [nV a]) noD [] Try.func64 rfl (m := 31) rfl rfl (hold_nil _ _) ?_
  refine HC.seq ?_
  refine HC.region ?_
  refine HL.new (New.box rfl) (by decide) ?_
  intro b1 hb1
  refine HL.new (New.alloc al28) (by decide) ?_
  intro b2 hb2
  refine HL.nil ?_
  refine HQ.next ?_
  refine HC.seq ?_
  refine HC.region ?_
  refine HL.val (Val.build rfl bz28) (by decide) ?_
  refine HL.new (New.alloc al28) (by decide) ?_
  intro b3 hb3
  refine HL.put 0 rfl (Put.row rfl rfl (sz28 _) (eqszN _ _ 16) (oneN 16 _)) (.inl hb3) ?_
  simp only [List.set_cons_zero]
  refine HL.nil ?_
  refine HQ.next ?_
  refine HC.seq ?_
  refine HC.seq ?_
  refine HC.region ?_
  refine HL.val (Val.move rfl) (by decide) ?_
  refine HL.nil ?_
  refine HQ.next ?_
  refine HC.block ?_
  refine HC.loop (ι := {p : Nat // p ≤ 16}) (fun p => 16 - p.1) (fun p => [(6, .int .i64 (p.1 : Int)), (1, .pointer (some ⟨b1, 0, none⟩)), (2, .pointer (some ⟨b2, 0, none⟩)), (3, .pointer (some ⟨b3, 0, none⟩))]) (fun p => [(b3, .cells (dgA 16 (hfK a p.1)) 28 (0, 0)), (b1, .cells (dgA 16 (dig a)) 28 (0, 0)), (b2, .cells (dgA 16 (dig 0)) 28 (0, 0))]) ⟨0, Nat.zero_le _⟩ (fun ac wc ha hw => ⟨ha.subS ⟨rfl, rfl, rfl, rfl, trivial⟩, by have h := hw.pick [0, 2, 1] (by simp); simp only [List.filterMap_cons, List.filterMap_nil, List.getElem?_cons_zero, List.getElem?_cons_succ] at h; dsimp only; rw [← hfK_0]; exact h⟩) ?_
  rintro ⟨k, hk⟩
  dsimp only
  rcases (show k = 16 ∨ k < 16 by omega) with rfl | hm
  · rw [hfK_16]
    refine HC.seq ?_
    refine HC.region ?_
    refine HL.val ((Val.lss rfl rfl).as (v := .bool false) rfl) (by decide) ?_
    refine HL.nil ?_
    refine HQ.next ?_
    refine HC.seq ?_
    refine HC.no rfl ?_
    refine HC.exit ?_
    refine HQ.thenExit ?_
    refine HQ.thenExit ?_
    refine HQ.blockExit ?_
    refine HQ.next ?_
    refine HC.seq ?_
    refine HC.region ?_
    refine HL.val (Val.load_row rfl (fun w hw => hw.at (i := 0) rfl) Try.underlying28 rfl (sz28 _)) (by decide) ?_
    refine HL.put 2 rfl (Put.row rfl rfl (sz28 _) (eqszN _ _ 16) (oneN 16 _)) (.inl hb2) ?_
    simp only [List.set_cons_zero, List.set_cons_succ]
    refine HL.nil ?_
    refine HQ.next ?_
    refine HC.ret ?_
    exact HQ.retc 2 rfl rfl rfl Try.underlying28 rfl (sz28 _) (pure_end rfl)
  · refine HC.seq ?_
    refine HC.region ?_
    refine HL.val ((Val.lss rfl rfl).as (congrArg Value.bool ((lssN k 16).trans (decide_eq_true (by omega))))) (by decide) ?_
    refine HL.nil ?_
    refine HQ.next ?_
    refine HC.seq ?_
    refine HC.yes rfl ?_
    refine HC.skip ?_
    refine HQ.next ?_
    refine HC.seq ?_
    refine HC.block ?_
    refine HC.seq ?_
    refine HC.region ?_
    refine HL.val (Val.move rfl) (by decide) ?_
    refine HL.val (Val.assign rfl) (by decide) ?_
    refine HL.nil ?_
    refine HQ.next ?_
    refine HC.seq ?_
    refine HC.region ?_
    refine HL.val (Val.move rfl) (by decide) ?_
    refine HL.val (Val.move rfl) (by decide) ?_
    refine HL.val (Val.ixAddrQ (k) (i := k) (m := 16) (s := 1) (e := 26) rfl rfl Try.underlying28 (by kernel_rfl) (by omega) (by omega)) (by decide) ?_
    refine HL.val (Val.load_cell rfl (fun w hw => hw.at (i := 1) rfl) (dgA_get (show k < 16 by omega)) Try.underlying26 rfl) (by decide) ?_
    refine HL.val (Val.quo2 (dig a k) rfl rfl (dig_lt a k)) (by decide) ?_
    refine HL.val (Val.ixAddrQ (k) (i := k) (m := 16) (s := 1) (e := 26) rfl rfl Try.underlying28 (by kernel_rfl) (by omega) (by omega)) (by decide) ?_
    refine HL.put 0 rfl ((Put.cell rfl rfl (by kernel_rfl) (by rw [dgA_size]; omega) rfl).to (congrArg (fun z => Obj.cells z 28 (0, 0)) dgA_set)) (.inl hb3) ?_
    simp only [List.set_cons_zero]
    refine HL.nil ?_
    refine HQ.next ?_
    refine HC.seq ?_
    refine HC.region ?_
    refine HL.val (Val.move rfl) (by decide) ?_
    by_cases h15 : k < 15
    · refine HL.val ((Val.lss rfl rfl).as (congrArg Value.bool ((lssN k 15).trans (decide_eq_true h15)))) (by decide) ?_
      refine HL.nil ?_
      refine HQ.next ?_
      refine HC.yes rfl ?_
      refine HC.draw0 12 (by kernel_rfl) (by kernel_rfl) ?_
      simp only [List.take, List.drop]
      refine HV.val (Val.move rfl) (by decide) ?_
      refine HV.val (Val.move rfl) (by decide) ?_
      refine HV.val (Val.ixAddrQ (k) (i := k) (m := 16) (s := 1) (e := 26) rfl rfl Try.underlying28 (by kernel_rfl) (by omega) (by omega)) (by decide) ?_
      refine HV.val (Val.load_cell rfl (fun w hw => hw.at (i := 0) rfl) (dgA_upd (show k < 16 by omega)) Try.underlying26 rfl) (by decide) ?_
      refine HV.val (Val.move rfl) (by decide) ?_
      refine HV.val ((Val.addI rfl rfl).as (congrArg (Value.int .i64) (wrap1 k (by omega)))) (by decide) ?_
      refine HV.val (Val.ixAddrQ (k + 1) (i := k + 1) (m := 16) (s := 1) (e := 26) rfl rfl Try.underlying28 (by kernel_rfl) (by omega) (by omega)) (by decide) ?_
      refine HV.val (Val.load_cell rfl (fun w hw => hw.at (i := 1) rfl) (dgA_get (show k + 1 < 16 by omega)) Try.underlying26 rfl) (by decide) ?_
      refine HV.val (Val.rem2 (dig a (k + 1)) rfl rfl) (by decide) ?_
      refine HV.val ((Val.mulI rfl rfl).as (congrArg (Value.int .u64) (mulW (dig a (k + 1))))) (by decide) ?_
      refine HV.val ((Val.addI rfl rfl).as (congrArg (Value.int .u64) (addW (dig a k / 2) (dig a (k + 1) % 2 * 32768) (by have := dig_lt a k; omega)))) (by decide) ?_
      refine HV.val (Val.ixAddrQ (k) (i := k) (m := 16) (s := 1) (e := 26) rfl rfl Try.underlying28 (by kernel_rfl) (by omega) (by omega)) (by decide) ?_
      refine HV.tail0 ?_
      refine HL.put 0 rfl ((Put.cell rfl rfl (by kernel_rfl) (by rw [dgA_size]; omega) rfl).to (congrArg (fun z => Obj.cells z 28 (0, 0)) dgA_set)) (.inl hb3) ?_
      simp only [List.set_cons_zero]
      refine HL.nil ?_
      refine HQ.blockNormal ?_
      refine HQ.next ?_
      refine HC.region ?_
      refine HL.val ((Val.addI rfl rfl).as (congrArg (Value.int .i64) (wrap1 k (by omega)))) (by decide) ?_
      refine HL.val (Val.move rfl) (by decide) ?_
      refine HL.nil ?_
      exact ⟨fun ac wc ha2 hw => ⟨⟨k + 1, by omega⟩, by dsimp only; omega, ha2.subS ⟨rfl, rfl, rfl, rfl, trivial⟩, by have h := hw.pick [0, 1, 2] (by simp); simp only [List.filterMap_cons, List.filterMap_nil, List.getElem?_cons_zero, List.getElem?_cons_succ] at h; rw [dgA_upd2, ← dig_half a k] at h; rw [dgA_congr (fun i _ => hfK_step a k i)] at h; exact h⟩⟩
    · refine HL.val ((Val.lss rfl rfl).as (congrArg Value.bool ((lssN k 15).trans (decide_eq_false h15)))) (by decide) ?_
      refine HL.nil ?_
      refine HQ.next ?_
      refine HC.no rfl ?_
      refine HC.skip ?_
      refine HQ.blockNormal ?_
      refine HQ.next ?_
      refine HC.region ?_
      refine HL.val ((Val.addI rfl rfl).as (congrArg (Value.int .i64) (wrap1 k (by omega)))) (by decide) ?_
      refine HL.val (Val.move rfl) (by decide) ?_
      refine HL.nil ?_
      exact ⟨fun ac wc ha2 hw => ⟨⟨k + 1, by omega⟩, by dsimp only; omega, ha2.subS ⟨rfl, rfl, rfl, rfl, trivial⟩, by have h := hw.pick [0, 1, 2] (by simp); simp only [List.filterMap_cons, List.filterMap_nil, List.getElem?_cons_zero, List.getElem?_cons_succ] at h; rw [show dig a k / 2 = dig (a / 2) k from by rw [dig_half, show k + 1 = 16 by omega, dig_last ha]; omega] at h; rw [dgA_congr (fun i _ => hfK_step a k i)] at h; exact h⟩⟩

set_option maxRecDepth 100000 in
theorem isSquare_1 (a : Nat) (ha : a < 2 ^ 256) (h1 : powN a (p25 / 2) = 1) : Pure Try.prog 44 #[nV a] (.bool true) := by
  intro w
  refine calls_H (args := [nV a]) noD [] Try.func44 rfl (m := 16) rfl rfl (hold_nil _ _) ?_
  refine HC.seq ?_
  refine HC.region ?_
  refine HL.new (New.box rfl) (by decide) ?_
  intro b1 hb1
  refine HL.val (Val.assign rfl) (by decide) ?_
  refine HL.nil ?_
  refine HQ.next ?_
  refine HC.seq ?_
  refine HC.draw1 4 (by kernel_rfl) (by kernel_rfl) rfl ?_
  simp only [List.take, List.drop]
  refine HV.val (Val.load_row rfl (fun w hw => hw.at (i := 0) rfl) Try.underlying28 rfl (sz28 _)) (by decide) ?_
  refine HV.val (Val.call en65 (p65) rfl) (by decide) ?_
  refine HV.val (Val.call en64 (half_p p25 p25_lt) rfl) (by decide) ?_
  refine HV.val (Val.call en63 (power_p a (p25 / 2) ha (Nat.lt_of_le_of_lt (Nat.div_le_self _ _) p25_lt)) rfl) (by decide) ?_
  refine HV.tail1 (New.alloc al28) (by decide) ?_
  intro b2 hb2
  refine HL.put 0 rfl (Put.row rfl rfl (sz28 _) (eqszN _ _ 16) (oneN 16 _)) (.inl hb2) ?_
  simp only [List.set_cons_zero]
  refine HL.nil ?_
  refine HQ.next ?_
  refine HC.seq ?_
  refine HC.draw0 8 (by kernel_rfl) (by kernel_rfl) ?_
  simp only [List.take, List.drop]
  refine HV.val (Val.load_row rfl (fun w hw => hw.at (i := 0) rfl) Try.underlying28 rfl (sz28 _)) (by decide) ?_
  refine HV.val (Val.call en35 (small35 1 (by decide)) rfl) (by decide) ?_
  refine HV.val ((Val.eqlA rfl rfl (by kernel_rfl) (eqlN ((powN a (p25 / 2))) 1 (powN_lt _ _) (by decide))).as (congrArg Value.bool (decide_eq_true h1))) (by decide) ?_
  refine HV.val (Val.move rfl) (by decide) ?_
  refine HV.skip rfl (by decide) ?_
  refine HV.skip rfl (by decide) ?_
  refine HV.skip rfl (by decide) ?_
  refine HV.val (Val.pickT rfl rfl) (by decide) ?_
  refine HV.tail0 ?_
  refine HL.val (Val.assign rfl) (by decide) ?_
  refine HL.nil ?_
  refine HQ.next ?_
  refine HC.ret ?_
  exact HQ.ret1 rfl rfl (pure_end rfl)

set_option maxRecDepth 100000 in
theorem isSquare_0 (a : Nat) (ha : a < 2 ^ 256) (h1 : ¬ powN a (p25 / 2) = 1) (h0 : powN a (p25 / 2) = 0) : Pure Try.prog 44 #[nV a] (.bool true) := by
  intro w
  refine calls_H (args := [nV a]) noD [] Try.func44 rfl (m := 16) rfl rfl (hold_nil _ _) ?_
  refine HC.seq ?_
  refine HC.region ?_
  refine HL.new (New.box rfl) (by decide) ?_
  intro b1 hb1
  refine HL.val (Val.assign rfl) (by decide) ?_
  refine HL.nil ?_
  refine HQ.next ?_
  refine HC.seq ?_
  refine HC.draw1 4 (by kernel_rfl) (by kernel_rfl) rfl ?_
  simp only [List.take, List.drop]
  refine HV.val (Val.load_row rfl (fun w hw => hw.at (i := 0) rfl) Try.underlying28 rfl (sz28 _)) (by decide) ?_
  refine HV.val (Val.call en65 (p65) rfl) (by decide) ?_
  refine HV.val (Val.call en64 (half_p p25 p25_lt) rfl) (by decide) ?_
  refine HV.val (Val.call en63 (power_p a (p25 / 2) ha (Nat.lt_of_le_of_lt (Nat.div_le_self _ _) p25_lt)) rfl) (by decide) ?_
  refine HV.tail1 (New.alloc al28) (by decide) ?_
  intro b2 hb2
  refine HL.put 0 rfl (Put.row rfl rfl (sz28 _) (eqszN _ _ 16) (oneN 16 _)) (.inl hb2) ?_
  simp only [List.set_cons_zero]
  refine HL.nil ?_
  refine HQ.next ?_
  refine HC.seq ?_
  refine HC.draw0 8 (by kernel_rfl) (by kernel_rfl) ?_
  simp only [List.take, List.drop]
  refine HV.val (Val.load_row rfl (fun w hw => hw.at (i := 0) rfl) Try.underlying28 rfl (sz28 _)) (by decide) ?_
  refine HV.val (Val.call en35 (small35 1 (by decide)) rfl) (by decide) ?_
  refine HV.val ((Val.eqlA rfl rfl (by kernel_rfl) (eqlN ((powN a (p25 / 2))) 1 (powN_lt _ _) (by decide))).as (congrArg Value.bool (decide_eq_false h1))) (by decide) ?_
  refine HV.val (Val.move rfl) (by decide) ?_
  refine HV.valg rfl (Val.load_row rfl (fun w hw => hw.at (i := 0) rfl) Try.underlying28 rfl (sz28 _)) (by decide) ?_
  refine HV.valg rfl (Val.build rfl bz28) (by decide) ?_
  refine HV.valg rfl ((Val.eqlA rfl rfl (by kernel_rfl) (eqlN ((powN a (p25 / 2))) 0 (powN_lt _ _) (by decide))).as (congrArg Value.bool (decide_eq_true h0))) (by decide) ?_
  refine HV.val (Val.pickF rfl rfl) (by decide) ?_
  refine HV.tail0 ?_
  refine HL.val (Val.assign rfl) (by decide) ?_
  refine HL.nil ?_
  refine HQ.next ?_
  refine HC.ret ?_
  exact HQ.ret1 rfl rfl (pure_end rfl)

set_option maxRecDepth 100000 in
theorem isSquare_x (a : Nat) (ha : a < 2 ^ 256) (h1 : ¬ powN a (p25 / 2) = 1) (h0 : ¬ powN a (p25 / 2) = 0) : Pure Try.prog 44 #[nV a] (.bool false) := by
  intro w
  refine calls_H (args := [nV a]) noD [] Try.func44 rfl (m := 16) rfl rfl (hold_nil _ _) ?_
  refine HC.seq ?_
  refine HC.region ?_
  refine HL.new (New.box rfl) (by decide) ?_
  intro b1 hb1
  refine HL.val (Val.assign rfl) (by decide) ?_
  refine HL.nil ?_
  refine HQ.next ?_
  refine HC.seq ?_
  refine HC.draw1 4 (by kernel_rfl) (by kernel_rfl) rfl ?_
  simp only [List.take, List.drop]
  refine HV.val (Val.load_row rfl (fun w hw => hw.at (i := 0) rfl) Try.underlying28 rfl (sz28 _)) (by decide) ?_
  refine HV.val (Val.call en65 (p65) rfl) (by decide) ?_
  refine HV.val (Val.call en64 (half_p p25 p25_lt) rfl) (by decide) ?_
  refine HV.val (Val.call en63 (power_p a (p25 / 2) ha (Nat.lt_of_le_of_lt (Nat.div_le_self _ _) p25_lt)) rfl) (by decide) ?_
  refine HV.tail1 (New.alloc al28) (by decide) ?_
  intro b2 hb2
  refine HL.put 0 rfl (Put.row rfl rfl (sz28 _) (eqszN _ _ 16) (oneN 16 _)) (.inl hb2) ?_
  simp only [List.set_cons_zero]
  refine HL.nil ?_
  refine HQ.next ?_
  refine HC.seq ?_
  refine HC.draw0 8 (by kernel_rfl) (by kernel_rfl) ?_
  simp only [List.take, List.drop]
  refine HV.val (Val.load_row rfl (fun w hw => hw.at (i := 0) rfl) Try.underlying28 rfl (sz28 _)) (by decide) ?_
  refine HV.val (Val.call en35 (small35 1 (by decide)) rfl) (by decide) ?_
  refine HV.val ((Val.eqlA rfl rfl (by kernel_rfl) (eqlN ((powN a (p25 / 2))) 1 (powN_lt _ _) (by decide))).as (congrArg Value.bool (decide_eq_false h1))) (by decide) ?_
  refine HV.val (Val.move rfl) (by decide) ?_
  refine HV.valg rfl (Val.load_row rfl (fun w hw => hw.at (i := 0) rfl) Try.underlying28 rfl (sz28 _)) (by decide) ?_
  refine HV.valg rfl (Val.build rfl bz28) (by decide) ?_
  refine HV.valg rfl ((Val.eqlA rfl rfl (by kernel_rfl) (eqlN ((powN a (p25 / 2))) 0 (powN_lt _ _) (by decide))).as (congrArg Value.bool (decide_eq_false h0))) (by decide) ?_
  refine HV.val (Val.pickF rfl rfl) (by decide) ?_
  refine HV.tail0 ?_
  refine HL.val (Val.assign rfl) (by decide) ?_
  refine HL.nil ?_
  refine HQ.next ?_
  refine HC.ret ?_
  exact HQ.ret1 rfl rfl (pure_end rfl)
end Go.Proofs.Yteehdjkmjncehaa
