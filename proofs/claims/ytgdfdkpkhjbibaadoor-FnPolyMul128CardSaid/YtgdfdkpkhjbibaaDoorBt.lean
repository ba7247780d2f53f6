/-
  The number of bits, and a number split into bits (written by genbt.py).
-/
import Derived.Test.YtgdfdkpkhjbibaaDoorVe
import Derived.Lib.BitFns
namespace Go.Proofs.YtgdfdkpkhjbibaaDoor
open Go.RowKit
theorem Val.strAt {P : Program} {n : Nat} {σ : List (Nat × Value)} {I : World → Prop} {dst : Option Tmp} {ty : TypeId} {pos : String} {af : Array Edge} {gd : Option (Nat × Bool)} {t : TypeId} {x y : Operand} {k : IntKind} {i : Nat} {s : ByteArray} {v : Int}
    (hx : evS σ x = some (.string s)) (hy : evS σ y = some (.int k (i : Int))) (_hu : P.underlying t = some .string) (hv : ∀ w, (Instr.index t (.string s) (.int k (i : Int))).run P w = .ok (.int .u8 v) w) :
    Val P n σ I ⟨dst, .index t x y, ty, pos, af, gd⟩ (.int .u8 v) := .of_run fun a w ha _ => by
  have h1 := ha.eval hx
  have h2 := ha.eval hy
  unfold execOp
  simp [h1, h2, hv w]
theorem len8_run {P : Program} {t : TypeId} (hu : P.underlying t = some .string) {s : ByteArray} (hs : s = Lib.len8tab) {i : Nat} (hi : i < 256) (w : World) : (Instr.index t (.string s) (.int .u8 (i : Int))).run P w = .ok (.int .u8 ((Lib.bitLen i : Nat) : Int)) w := by
  subst hs
  rw [Lib.run_index_len8tab w t .u8 (i : Int) hu (by omega) (by omega), Lib.len8_of (i : Int) (by omega) (by omega), Int.toNat_natCast]
theorem shrC {k : Int} (x j m : Nat) (hk : k = (j : Int)) (h : 2 ^ j = m) : (x : Int) / 2 ^ k.toNat = ((x / m : Nat) : Int) := by
  subst hk h
  rw [Int.toNat_natCast]; norm_cast
theorem wrapU8 {x : Nat} (h : x < 256) : IntKind.u8.wrap (x : Int) = (x : Int) := by
  rw [IntKind.wrap_u8]; omega
theorem wrapI8 {x : Nat} (h : x ≤ 64) : IntKind.i64.wrap (x : Int) = (x : Int) := by
  rw [IntKind.wrap_i64]; omega
theorem len_step {x k m : Nat} (h : m ≤ x) (hx : x < 18446744073709551616) (hm : 2 ^ k = m) : Lib.bitLen x = k + Lib.bitLen (x / m) := by
  subst hm; exact Lib.bitLen_shift k x h hx
theorem len_add {c : Int} {a b : Nat} (h : c + (a : Int) = (b : Int)) (hb : b ≤ 64) : IntKind.i64.wrap (c + (a : Int)) = (b : Int) := by
  rw [h]; exact wrapI8 hb
theorem bitLen_gt {x k : Nat} (hx : x < 18446744073709551616) (hk : k ≤ 64) : k < Lib.bitLen x ↔ 2 ^ k ≤ x := by
  refine ⟨fun h => ?_, fun h => ?_⟩
  · by_cases h2 : x < 2 ^ k
    · have := Lib.bitLen_le x k hk h2; omega
    · omega
  · rw [Lib.bitLen_shift k x h hx]
    have h1 : 0 < x / 2 ^ k := Nat.div_pos h (Nat.two_pow_pos k)
    have h2 : x / 2 ^ k < 2 ^ 64 := Nat.lt_of_le_of_lt (Nat.div_le_self _ _) hx
    have := Lib.bitLen_half (x / 2 ^ k) (by omega) h2
    omega
/-- A number's bits. -/
def bitsL (n k : Nat) : List Nat := (List.range k).map fun i => n / 2 ^ i % 2
theorem bitsL_len (n k : Nat) : (bitsL n k).length = k := by simp [bitsL]
theorem bitsL_at {n k i : Nat} (h : i < k) : (bitsL n k).getD i 0 = n / 2 ^ i % 2 := by
  simp [bitsL, List.getD, h]
theorem bitsL_lt (n k : Nat) : AllLt (bitsL n k) := allLt_mapR fun i _ => Nat.lt_trans (Nat.mod_lt _ (by decide)) (by decide : 2 < pf)
theorem bitsL_succ (n k : Nat) : bitsL n (k + 1) = n % 2 :: bitsL (n / 2) k := by
  unfold bitsL
  rw [List.range_succ_eq_map, List.map_cons, List.map_map]
  congr 1
  · simp
  · refine List.map_congr_left fun i _ => ?_
    show n / 2 ^ (i + 1) % 2 = n / 2 / 2 ^ i % 2
    rw [Nat.div_div_eq_div_mul, Nat.pow_succ, Nat.mul_comm]
theorem evL_bits : ∀ k n : Nat, evL (bitsL n k) 2 = n % 2 ^ k % pf
  | 0, n => by
    show (0 : Nat) = n % 2 ^ 0 % pf
    rw [Nat.pow_zero, Nat.mod_one, Nat.zero_mod]
  | k + 1, n => by
    rw [bitsL_succ]
    show (evL (bitsL (n / 2) k) 2 * 2 % pf + n % 2) % pf = _
    rw [evL_bits k (n / 2), Nat.mod_mul_mod, Nat.mod_add_mod]
    congr 1
    have h : n % 2 ^ (k + 1) = n % 2 + 2 * (n / 2 % 2 ^ k) := by rw [Nat.pow_succ, Nat.mul_comm, Nat.mod_mul]
    rw [h]; omega
/-- The bits behind i steps. -/
def bst (n i e : Nat) : Nat := if e < i then n / 2 ^ e % 2 else 0
theorem bst_set {n i : Nat} (h : n / 2 ^ i % 2 = 1) : 1 = bst n (i + 1) i := by unfold bst; rw [if_pos (by omega), h]
theorem bst_other (n i : Nat) : ∀ e, e ≠ i → bst n i e = bst n (i + 1) e := fun e he => by
  unfold bst
  by_cases h : e < i
  · rw [if_pos h, if_pos (by omega)]
  · rw [if_neg h, if_neg (by omega)]
theorem bst_not {n i : Nat} (h : n / 2 ^ i % 2 ≠ 1) : bst n i = bst n (i + 1) := by
  funext e
  by_cases he : e = i
  · subst he
    unfold bst
    rw [if_neg (by omega), if_pos (by omega)]; omega
  · exact bst_other n i e he
theorem bst_zero (n e : Nat) : bst n 0 e = 0 := by unfold bst; rw [if_neg (by omega)]
theorem bst_end (n k : Nat) : (List.range k).map (bst n k) = bitsL n k := List.map_congr_left fun i hi => by
  unfold bst; rw [if_pos (List.mem_range.1 hi)]
theorem andB {x : Nat} (i : Nat) (hx : x < 18446744073709551616) : bits .and .u64 ((x / 2 ^ i : Nat) : Int) 1 = ((x / 2 ^ i % 2 : Nat) : Int) := and1 (x / 2 ^ i) (Nat.lt_of_le_of_lt (Nat.div_le_self _ _) hx)

set_option maxRecDepth 100000 in
theorem len64_p {n : Nat} (hn : n < 18446744073709551616) : Pure Tryd.prog 116 #[.int .u64 (n : Int)] (.int .i64 ((Lib.bitLen n : Nat) : Int)) := by
  intro w
  refine calls_H (args := [.int .u64 (n : Int)]) (noD) [] Tryd.func116 rfl (m := 25) rfl rfl (hold_nil _ _) ?_
  refine HC.seq ?_
  refine HC.region ?_
  refine HL.val (Val.assign rfl) (by decide) ?_
  refine HL.nil ?_
  refine HQ.next ?_
  refine HC.seq ?_
  refine HC.seq ?_
  refine HC.region ?_
  refine HL.val (Val.move rfl) (by decide) ?_
  by_cases h32 : 4294967296 ≤ n
  · refine HL.val (((Val.geq rfl rfl).as (congrArg Value.bool (geqN n 4294967296))).as (congrArg Value.bool (decide_eq_true h32))) (by decide) ?_
    refine HL.nil ?_
    refine HQ.next ?_
    refine HC.yes rfl ?_
    refine HC.seq ?_
    refine HC.region ?_
    refine HL.val (Val.move rfl) (by decide) ?_
    refine HL.val ((Val.shrI rfl rfl (by decide) (by decide)).as (congrArg (Value.int .u64) (shrC n 32 4294967296 rfl (by decide)))) (by decide) ?_
    refine HL.val (Val.assign rfl) (by decide) ?_
    refine HL.nil ?_
    refine HQ.next ?_
    refine HC.region ?_
    refine HL.val (Val.assign rfl) (by decide) ?_
    refine HL.nil ?_
    refine HQ.next ?_
    refine HC.seq ?_
    refine HC.seq ?_
    refine HC.region ?_
    refine HL.val (Val.move rfl) (by decide) ?_
    by_cases h16 : 65536 ≤ n / 4294967296
    · refine HL.val (((Val.geq rfl rfl).as (congrArg Value.bool (geqN (n / 4294967296) 65536))).as (congrArg Value.bool (decide_eq_true h16))) (by decide) ?_
      refine HL.nil ?_
      refine HQ.next ?_
      refine HC.yes rfl ?_
      refine HC.seq ?_
      refine HC.region ?_
      refine HL.val (Val.move rfl) (by decide) ?_
      refine HL.val ((Val.shrI rfl rfl (by decide) (by decide)).as (congrArg (Value.int .u64) (shrC (n / 4294967296) 16 65536 rfl (by decide)))) (by decide) ?_
      refine HL.val (Val.assign rfl) (by decide) ?_
      refine HL.nil ?_
      refine HQ.next ?_
      refine HC.region ?_
      refine HL.val (Val.move rfl) (by decide) ?_
      refine HL.val ((Val.addI rfl rfl).as (v := .int .i64 48) rfl) (by decide) ?_
      refine HL.val (Val.assign rfl) (by decide) ?_
      refine HL.nil ?_
      refine HQ.next ?_
      refine HC.seq ?_
      refine HC.seq ?_
      refine HC.region ?_
      refine HL.val (Val.move rfl) (by decide) ?_
      by_cases h8 : 256 ≤ (n / 4294967296) / 65536
      · refine HL.val (((Val.geq rfl rfl).as (congrArg Value.bool (geqN ((n / 4294967296) / 65536) 256))).as (congrArg Value.bool (decide_eq_true h8))) (by decide) ?_
        refine HL.nil ?_
        refine HQ.next ?_
        refine HC.yes rfl ?_
        refine HC.seq ?_
        refine HC.region ?_
        refine HL.val (Val.move rfl) (by decide) ?_
        refine HL.val ((Val.shrI rfl rfl (by decide) (by decide)).as (congrArg (Value.int .u64) (shrC ((n / 4294967296) / 65536) 8 256 rfl (by decide)))) (by decide) ?_
        refine HL.val (Val.assign rfl) (by decide) ?_
        refine HL.nil ?_
        refine HQ.next ?_
        refine HC.region ?_
        refine HL.val (Val.move rfl) (by decide) ?_
        refine HL.val ((Val.addI rfl rfl).as (v := .int .i64 56) rfl) (by decide) ?_
        refine HL.val (Val.assign rfl) (by decide) ?_
        refine HL.nil ?_
        refine HQ.next ?_
        refine HC.seq ?_
        refine HC.region ?_
        refine HL.val (Val.move rfl) (by decide) ?_
        refine HL.val (Val.move rfl) (by decide) ?_
        refine HL.val ((Val.convI rfl rfl Tryd.underlying5).as (congrArg (Value.int .u8) (wrapU8 (x := ((n / 4294967296) / 65536) / 256) (by omega)))) (by decide) ?_
        refine HL.val (Val.strAt rfl rfl Tryd.underlying9 (len8_run Tryd.underlying9 (by kernel_rfl) (by omega))) (by decide) ?_
        have q32 := len_step (k := 32) h32 (by omega) (by decide)
        have q16 := len_step (k := 16) h16 (by omega) (by decide)
        have q8 := len_step (k := 8) h8 (by omega) (by decide)
        have q0 := Lib.bitLen_le (((n / 4294967296) / 65536) / 256) 8 (by decide) (show (((n / 4294967296) / 65536) / 256) < 256 by omega)
        refine HL.val ((Val.convI rfl rfl Tryd.underlying3).as (congrArg (Value.int .i64) (wrapI8 (x := Lib.bitLen (((n / 4294967296) / 65536) / 256)) (by omega)))) (by decide) ?_
        refine HL.val ((Val.addI rfl rfl).as (congrArg (Value.int .i64) (len_add (b := Lib.bitLen n) (by omega) (by omega)))) (by decide) ?_
        refine HL.val (Val.assign rfl) (by decide) ?_
        refine HL.nil ?_
        refine HQ.next ?_
        refine HC.ret ?_
        exact HQ.ret1 rfl rfl (pure_end rfl)
      · refine HL.val (((Val.geq rfl rfl).as (congrArg Value.bool (geqN ((n / 4294967296) / 65536) 256))).as (congrArg Value.bool (decide_eq_false h8))) (by decide) ?_
        refine HL.nil ?_
        refine HQ.next ?_
        refine HC.no rfl ?_
        refine HC.skip ?_
        refine HQ.next ?_
        refine HC.seq ?_
        refine HC.region ?_
        refine HL.val (Val.move rfl) (by decide) ?_
        refine HL.val (Val.move rfl) (by decide) ?_
        refine HL.val ((Val.convI rfl rfl Tryd.underlying5).as (congrArg (Value.int .u8) (wrapU8 (x := (n / 4294967296) / 65536) (by omega)))) (by decide) ?_
        refine HL.val (Val.strAt rfl rfl Tryd.underlying9 (len8_run Tryd.underlying9 (by kernel_rfl) (by omega))) (by decide) ?_
        have q32 := len_step (k := 32) h32 (by omega) (by decide)
        have q16 := len_step (k := 16) h16 (by omega) (by decide)
        have q0 := Lib.bitLen_le ((n / 4294967296) / 65536) 8 (by decide) (show ((n / 4294967296) / 65536) < 256 by omega)
        refine HL.val ((Val.convI rfl rfl Tryd.underlying3).as (congrArg (Value.int .i64) (wrapI8 (x := Lib.bitLen ((n / 4294967296) / 65536)) (by omega)))) (by decide) ?_
        refine HL.val ((Val.addI rfl rfl).as (congrArg (Value.int .i64) (len_add (b := Lib.bitLen n) (by omega) (by omega)))) (by decide) ?_
        refine HL.val (Val.assign rfl) (by decide) ?_
        refine HL.nil ?_
        refine HQ.next ?_
        refine HC.ret ?_
        exact HQ.ret1 rfl rfl (pure_end rfl)
    · refine HL.val (((Val.geq rfl rfl).as (congrArg Value.bool (geqN (n / 4294967296) 65536))).as (congrArg Value.bool (decide_eq_false h16))) (by decide) ?_
      refine HL.nil ?_
      refine HQ.next ?_
      refine HC.no rfl ?_
      refine HC.skip ?_
      refine HQ.next ?_
      refine HC.seq ?_
      refine HC.seq ?_
      refine HC.region ?_
      refine HL.val (Val.move rfl) (by decide) ?_
      by_cases h8 : 256 ≤ n / 4294967296
      · refine HL.val (((Val.geq rfl rfl).as (congrArg Value.bool (geqN (n / 4294967296) 256))).as (congrArg Value.bool (decide_eq_true h8))) (by decide) ?_
        refine HL.nil ?_
        refine HQ.next ?_
        refine HC.yes rfl ?_
        refine HC.seq ?_
        refine HC.region ?_
        refine HL.val (Val.move rfl) (by decide) ?_
        refine HL.val ((Val.shrI rfl rfl (by decide) (by decide)).as (congrArg (Value.int .u64) (shrC (n / 4294967296) 8 256 rfl (by decide)))) (by decide) ?_
        refine HL.val (Val.assign rfl) (by decide) ?_
        refine HL.nil ?_
        refine HQ.next ?_
        refine HC.region ?_
        refine HL.val (Val.move rfl) (by decide) ?_
        refine HL.val ((Val.addI rfl rfl).as (v := .int .i64 40) rfl) (by decide) ?_
        refine HL.val (Val.assign rfl) (by decide) ?_
        refine HL.nil ?_
        refine HQ.next ?_
        refine HC.seq ?_
        refine HC.region ?_
        refine HL.val (Val.move rfl) (by decide) ?_
        refine HL.val (Val.move rfl) (by decide) ?_
        refine HL.val ((Val.convI rfl rfl Tryd.underlying5).as (congrArg (Value.int .u8) (wrapU8 (x := (n / 4294967296) / 256) (by omega)))) (by decide) ?_
        refine HL.val (Val.strAt rfl rfl Tryd.underlying9 (len8_run Tryd.underlying9 (by kernel_rfl) (by omega))) (by decide) ?_
        have q32 := len_step (k := 32) h32 (by omega) (by decide)
        have q8 := len_step (k := 8) h8 (by omega) (by decide)
        have q0 := Lib.bitLen_le ((n / 4294967296) / 256) 8 (by decide) (show ((n / 4294967296) / 256) < 256 by omega)
        refine HL.val ((Val.convI rfl rfl Tryd.underlying3).as (congrArg (Value.int .i64) (wrapI8 (x := Lib.bitLen ((n / 4294967296) / 256)) (by omega)))) (by decide) ?_
        refine HL.val ((Val.addI rfl rfl).as (congrArg (Value.int .i64) (len_add (b := Lib.bitLen n) (by omega) (by omega)))) (by decide) ?_
        refine HL.val (Val.assign rfl) (by decide) ?_
        refine HL.nil ?_
        refine HQ.next ?_
        refine HC.ret ?_
        exact HQ.ret1 rfl rfl (pure_end rfl)
      · refine HL.val (((Val.geq rfl rfl).as (congrArg Value.bool (geqN (n / 4294967296) 256))).as (congrArg Value.bool (decide_eq_false h8))) (by decide) ?_
        refine HL.nil ?_
        refine HQ.next ?_
        refine HC.no rfl ?_
        refine HC.skip ?_
        refine HQ.next ?_
        refine HC.seq ?_
        refine HC.region ?_
        refine HL.val (Val.move rfl) (by decide) ?_
        refine HL.val (Val.move rfl) (by decide) ?_
        refine HL.val ((Val.convI rfl rfl Tryd.underlying5).as (congrArg (Value.int .u8) (wrapU8 (x := n / 4294967296) (by omega)))) (by decide) ?_
        refine HL.val (Val.strAt rfl rfl Tryd.underlying9 (len8_run Tryd.underlying9 (by kernel_rfl) (by omega))) (by decide) ?_
        have q32 := len_step (k := 32) h32 (by omega) (by decide)
        have q0 := Lib.bitLen_le (n / 4294967296) 8 (by decide) (show (n / 4294967296) < 256 by omega)
        refine HL.val ((Val.convI rfl rfl Tryd.underlying3).as (congrArg (Value.int .i64) (wrapI8 (x := Lib.bitLen (n / 4294967296)) (by omega)))) (by decide) ?_
        refine HL.val ((Val.addI rfl rfl).as (congrArg (Value.int .i64) (len_add (b := Lib.bitLen n) (by omega) (by omega)))) (by decide) ?_
        refine HL.val (Val.assign rfl) (by decide) ?_
        refine HL.nil ?_
        refine HQ.next ?_
        refine HC.ret ?_
        exact HQ.ret1 rfl rfl (pure_end rfl)
  · refine HL.val (((Val.geq rfl rfl).as (congrArg Value.bool (geqN n 4294967296))).as (congrArg Value.bool (decide_eq_false h32))) (by decide) ?_
    refine HL.nil ?_
    refine HQ.next ?_
    refine HC.no rfl ?_
    refine HC.skip ?_
    refine HQ.next ?_
    refine HC.seq ?_
    refine HC.seq ?_
    refine HC.region ?_
    refine HL.val (Val.move rfl) (by decide) ?_
    by_cases h16 : 65536 ≤ n
    · refine HL.val (((Val.geq rfl rfl).as (congrArg Value.bool (geqN n 65536))).as (congrArg Value.bool (decide_eq_true h16))) (by decide) ?_
      refine HL.nil ?_
      refine HQ.next ?_
      refine HC.yes rfl ?_
      refine HC.seq ?_
      refine HC.region ?_
      refine HL.val (Val.move rfl) (by decide) ?_
      refine HL.val ((Val.shrI rfl rfl (by decide) (by decide)).as (congrArg (Value.int .u64) (shrC n 16 65536 rfl (by decide)))) (by decide) ?_
      refine HL.val (Val.assign rfl) (by decide) ?_
      refine HL.nil ?_
      refine HQ.next ?_
      refine HC.region ?_
      refine HL.val (Val.move rfl) (by decide) ?_
      refine HL.val ((Val.addI rfl rfl).as (v := .int .i64 16) rfl) (by decide) ?_
      refine HL.val (Val.assign rfl) (by decide) ?_
      refine HL.nil ?_
      refine HQ.next ?_
      refine HC.seq ?_
      refine HC.seq ?_
      refine HC.region ?_
      refine HL.val (Val.move rfl) (by decide) ?_
      by_cases h8 : 256 ≤ n / 65536
      · refine HL.val (((Val.geq rfl rfl).as (congrArg Value.bool (geqN (n / 65536) 256))).as (congrArg Value.bool (decide_eq_true h8))) (by decide) ?_
        refine HL.nil ?_
        refine HQ.next ?_
        refine HC.yes rfl ?_
        refine HC.seq ?_
        refine HC.region ?_
        refine HL.val (Val.move rfl) (by decide) ?_
        refine HL.val ((Val.shrI rfl rfl (by decide) (by decide)).as (congrArg (Value.int .u64) (shrC (n / 65536) 8 256 rfl (by decide)))) (by decide) ?_
        refine HL.val (Val.assign rfl) (by decide) ?_
        refine HL.nil ?_
        refine HQ.next ?_
        refine HC.region ?_
        refine HL.val (Val.move rfl) (by decide) ?_
        refine HL.val ((Val.addI rfl rfl).as (v := .int .i64 24) rfl) (by decide) ?_
        refine HL.val (Val.assign rfl) (by decide) ?_
        refine HL.nil ?_
        refine HQ.next ?_
        refine HC.seq ?_
        refine HC.region ?_
        refine HL.val (Val.move rfl) (by decide) ?_
        refine HL.val (Val.move rfl) (by decide) ?_
        refine HL.val ((Val.convI rfl rfl Tryd.underlying5).as (congrArg (Value.int .u8) (wrapU8 (x := (n / 65536) / 256) (by omega)))) (by decide) ?_
        refine HL.val (Val.strAt rfl rfl Tryd.underlying9 (len8_run Tryd.underlying9 (by kernel_rfl) (by omega))) (by decide) ?_
        have q16 := len_step (k := 16) h16 (by omega) (by decide)
        have q8 := len_step (k := 8) h8 (by omega) (by decide)
        have q0 := Lib.bitLen_le ((n / 65536) / 256) 8 (by decide) (show ((n / 65536) / 256) < 256 by omega)
        refine HL.val ((Val.convI rfl rfl Tryd.underlying3).as (congrArg (Value.int .i64) (wrapI8 (x := Lib.bitLen ((n / 65536) / 256)) (by omega)))) (by decide) ?_
        refine HL.val ((Val.addI rfl rfl).as (congrArg (Value.int .i64) (len_add (b := Lib.bitLen n) (by omega) (by omega)))) (by decide) ?_
        refine HL.val (Val.assign rfl) (by decide) ?_
        refine HL.nil ?_
        refine HQ.next ?_
        refine HC.ret ?_
        exact HQ.ret1 rfl rfl (pure_end rfl)
      · refine HL.val (((Val.geq rfl rfl).as (congrArg Value.bool (geqN (n / 65536) 256))).as (congrArg Value.bool (decide_eq_false h8))) (by decide) ?_
        refine HL.nil ?_
        refine HQ.next ?_
        refine HC.no rfl ?_
        refine HC.skip ?_
        refine HQ.next ?_
        refine HC.seq ?_
        refine HC.region ?_
        refine HL.val (Val.move rfl) (by decide) ?_
        refine HL.val (Val.move rfl) (by decide) ?_
        refine HL.val ((Val.convI rfl rfl Tryd.underlying5).as (congrArg (Value.int .u8) (wrapU8 (x := n / 65536) (by omega)))) (by decide) ?_
        refine HL.val (Val.strAt rfl rfl Tryd.underlying9 (len8_run Tryd.underlying9 (by kernel_rfl) (by omega))) (by decide) ?_
        have q16 := len_step (k := 16) h16 (by omega) (by decide)
        have q0 := Lib.bitLen_le (n / 65536) 8 (by decide) (show (n / 65536) < 256 by omega)
        refine HL.val ((Val.convI rfl rfl Tryd.underlying3).as (congrArg (Value.int .i64) (wrapI8 (x := Lib.bitLen (n / 65536)) (by omega)))) (by decide) ?_
        refine HL.val ((Val.addI rfl rfl).as (congrArg (Value.int .i64) (len_add (b := Lib.bitLen n) (by omega) (by omega)))) (by decide) ?_
        refine HL.val (Val.assign rfl) (by decide) ?_
        refine HL.nil ?_
        refine HQ.next ?_
        refine HC.ret ?_
        exact HQ.ret1 rfl rfl (pure_end rfl)
    · refine HL.val (((Val.geq rfl rfl).as (congrArg Value.bool (geqN n 65536))).as (congrArg Value.bool (decide_eq_false h16))) (by decide) ?_
      refine HL.nil ?_
      refine HQ.next ?_
      refine HC.no rfl ?_
      refine HC.skip ?_
      refine HQ.next ?_
      refine HC.seq ?_
      refine HC.seq ?_
      refine HC.region ?_
      refine HL.val (Val.move rfl) (by decide) ?_
      by_cases h8 : 256 ≤ n
      · refine HL.val (((Val.geq rfl rfl).as (congrArg Value.bool (geqN n 256))).as (congrArg Value.bool (decide_eq_true h8))) (by decide) ?_
        refine HL.nil ?_
        refine HQ.next ?_
        refine HC.yes rfl ?_
        refine HC.seq ?_
        refine HC.region ?_
        refine HL.val (Val.move rfl) (by decide) ?_
        refine HL.val ((Val.shrI rfl rfl (by decide) (by decide)).as (congrArg (Value.int .u64) (shrC n 8 256 rfl (by decide)))) (by decide) ?_
        refine HL.val (Val.assign rfl) (by decide) ?_
        refine HL.nil ?_
        refine HQ.next ?_
        refine HC.region ?_
        refine HL.val (Val.move rfl) (by decide) ?_
        refine HL.val ((Val.addI rfl rfl).as (v := .int .i64 8) rfl) (by decide) ?_
        refine HL.val (Val.assign rfl) (by decide) ?_
        refine HL.nil ?_
        refine HQ.next ?_
        refine HC.seq ?_
        refine HC.region ?_
        refine HL.val (Val.move rfl) (by decide) ?_
        refine HL.val (Val.move rfl) (by decide) ?_
        refine HL.val ((Val.convI rfl rfl Tryd.underlying5).as (congrArg (Value.int .u8) (wrapU8 (x := n / 256) (by omega)))) (by decide) ?_
        refine HL.val (Val.strAt rfl rfl Tryd.underlying9 (len8_run Tryd.underlying9 (by kernel_rfl) (by omega))) (by decide) ?_
        have q8 := len_step (k := 8) h8 (by omega) (by decide)
        have q0 := Lib.bitLen_le (n / 256) 8 (by decide) (show (n / 256) < 256 by omega)
        refine HL.val ((Val.convI rfl rfl Tryd.underlying3).as (congrArg (Value.int .i64) (wrapI8 (x := Lib.bitLen (n / 256)) (by omega)))) (by decide) ?_
        refine HL.val ((Val.addI rfl rfl).as (congrArg (Value.int .i64) (len_add (b := Lib.bitLen n) (by omega) (by omega)))) (by decide) ?_
        refine HL.val (Val.assign rfl) (by decide) ?_
        refine HL.nil ?_
        refine HQ.next ?_
        refine HC.ret ?_
        exact HQ.ret1 rfl rfl (pure_end rfl)
      · refine HL.val (((Val.geq rfl rfl).as (congrArg Value.bool (geqN n 256))).as (congrArg Value.bool (decide_eq_false h8))) (by decide) ?_
        refine HL.nil ?_
        refine HQ.next ?_
        refine HC.no rfl ?_
        refine HC.skip ?_
        refine HQ.next ?_
        refine HC.seq ?_
        refine HC.region ?_
        refine HL.val (Val.move rfl) (by decide) ?_
        refine HL.val (Val.move rfl) (by decide) ?_
        refine HL.val ((Val.convI rfl rfl Tryd.underlying5).as (congrArg (Value.int .u8) (wrapU8 (x := n) (by omega)))) (by decide) ?_
        refine HL.val (Val.strAt rfl rfl Tryd.underlying9 (len8_run Tryd.underlying9 (by kernel_rfl) (by omega))) (by decide) ?_
        have q0 := Lib.bitLen_le n 8 (by decide) (show n < 256 by omega)
        refine HL.val ((Val.convI rfl rfl Tryd.underlying3).as (congrArg (Value.int .i64) (wrapI8 (x := Lib.bitLen n) (by omega)))) (by decide) ?_
        refine HL.val ((Val.addI rfl rfl).as (congrArg (Value.int .i64) (len_add (b := Lib.bitLen n) (by omega) (by omega)))) (by decide) ?_
        refine HL.val (Val.assign rfl) (by decide) ?_
        refine HL.nil ?_
        refine HQ.next ?_
        refine HC.ret ?_
        exact HQ.ret1 rfl rfl (pure_end rfl)

theorem setOne_el {b T i : Nat} {l : List Nat} {w : World} (ht : RT w) (h0 : w.heap[b]? = some (.cells (flat fpC l) T (0, 0))) (hb : 1 ≠ b) (hi : i < l.length) :
    Calls Tryd.prog 89 #[.pointer (some ⟨b, i * 2, none⟩)] w fun e w' => e = .returned (.tuple #[]) ∧ Hold (fun k => k == b) w [(b, .cells (flat fpC (l.set i 1)) T (0, 0))] w' := by
  have h := setOne_any (o := i * 2) ht h0 hb (by rw [flat_size szE]; have := Nat.mul_le_mul_right 2 (show i + 1 ≤ l.length from hi); show i * 2 + 2 ≤ l.length * 2; omega)
  rw [els_put hi, rt_0] at h
  exact h
theorem eqlT (a : Nat) : ((a : Int) == (1 : Int)) = decide (a = 1) := eqlN a 1

set_option maxRecDepth 100000 in
theorem splitBits_any {n k b c : Nat} {r : List Nat} {w : World} (ht : RT w) (h0 : w.heap[b]? = some (.cells (flat fpC r) 81 (0, 0))) (hr : r.length = k) (hb : 1 ≠ b) (hn : n < 18446744073709551616) (hk : k ≤ 64) (hlen : Lib.bitLen n ≤ k) :
    Calls Tryd.prog 90 #[.slice (some ⟨b, 0, none⟩) k c, .int .u64 (n : Int)] w fun e w' => e = .returned .nilIface ∧ Hold (fun k => k == b) w [(b, .cells (flat fpC (bitsL n k)) 81 (0, 0))] w' := by
  refine calls_H (args := [.slice (some ⟨b, 0, none⟩) k c, .int .u64 (n : Int)]) (fun k => k == b) [(b, .cells (flat fpC r) 81 (0, 0))] Tryd.func90 rfl (m := 28) rfl rfl (hold_one h0) ?_
  refine HC.seq ?_
  refine HC.region ?_
  refine HL.val (Val.assign rfl) (by decide) ?_
  refine HL.nil ?_
  refine HQ.next ?_
  refine HC.seq ?_
  refine HC.seq ?_
  refine HC.region ?_
  refine HL.val (Val.move rfl) (by decide) ?_
  refine HL.val (Val.call en116 (len64_p hn) rfl) (by decide) ?_
  refine HL.val (Val.move rfl) (by decide) ?_
  refine HL.val (Val.lenS rfl rfl Tryd.underlying105) (by decide) ?_
  refine HL.val ((Val.gtr rfl rfl).as (congrArg Value.bool ((lssN k (Lib.bitLen n)).trans (decide_eq_false (by omega))))) (by decide) ?_
  refine HL.nil ?_
  refine HQ.next ?_
  refine HC.no rfl ?_
  refine HC.skip ?_
  refine HQ.next ?_
  refine HC.seq ?_
  refine HC.region ?_
  refine HL.val (Val.move rfl) (by decide) ?_
  refine HL.clear (s := 2) (z := .agg (rawC 0)) 0 rfl Tryd.underlying105 (by kernel_rfl) (by kernel_rfl) rfl (memR0) rfl (by rw [flat_size szE, hr]) made_els (ownB b) ?_
  simp only [List.set_cons_zero]
  refine HL.nil ?_
  refine HQ.next ?_
  refine HC.seq ?_
  refine HC.seq ?_
  refine HC.region ?_
  refine HL.val (Val.move rfl) (by decide) ?_
  refine HL.val (Val.lenS rfl rfl Tryd.underlying105) (by decide) ?_
  refine HL.val (Val.move rfl) (by decide) ?_
  refine HL.nil ?_
  refine HQ.next ?_
  refine HC.block ?_
  refine HC.loop (ι := {p : Nat // p ≤ k}) (fun p => k - p.1) (fun p => [(0, .slice (some ⟨b, 0, none⟩) k c), (1, .int .u64 (n : Int)), (15, .int .i64 (p.1 : Int)), (14, .int .i64 (k : Int))]) (fun p => [(b, .cells (flat fpC ((List.range k).map (bst n p.1))) 81 (0, 0))]) ⟨0, Nat.zero_le _⟩ (fun ac wc ha hw => ⟨ha.subS ⟨rfl, rfl, rfl, rfl, trivial⟩, by have h := hw.pick [0] (by simp); dsimp only; rw [mapR_rep _ (bst_zero n)]; exact h⟩) ?_
  rintro ⟨i, hi⟩
  dsimp only
  refine HC.seq ?_
  refine HC.region ?_
  by_cases hik : i < k
  · refine HL.val ((Val.lss rfl rfl).as (congrArg Value.bool ((lssN i k).trans (decide_eq_true hik)))) (by decide) ?_
    refine HL.nil ?_
    refine HQ.next ?_
    refine HC.seq ?_
    refine HC.yes rfl ?_
    refine HC.skip ?_
    refine HQ.next ?_
    refine HC.seq ?_
    refine HC.block ?_
    refine HC.seq ?_
    refine HC.region ?_
    refine HL.val (Val.move rfl) (by decide) ?_
    refine HL.val (Val.assign rfl) (by decide) ?_
    refine HL.nil ?_
    refine HQ.next ?_
    refine HC.seq ?_
    refine HC.region ?_
    refine HL.val (Val.move rfl) (by decide) ?_
    refine HL.val (Val.move rfl) (by decide) ?_
    refine HL.val ((Val.shrI rfl rfl (Int.natCast_nonneg _) (show ((i : Nat) : Int) ≤ 64 by omega)).as (congrArg (Value.int .u64) (shrN n i))) (by decide) ?_
    refine HL.val ((Val.andI rfl rfl).as (congrArg (Value.int .u64) (andB i hn))) (by decide) ?_
    by_cases hbit : n / 2 ^ i % 2 = 1
    · refine HL.val (((Val.eqlI rfl rfl).as (congrArg Value.bool (eqlT (n / 2 ^ i % 2)))).as (congrArg Value.bool (decide_eq_true hbit))) (by decide) ?_
      refine HL.nil ?_
      refine HQ.next ?_
      refine HC.yes rfl ?_
      refine HC.region ?_
      refine HL.val (Val.move rfl) (by decide) ?_
      refine HL.val (Val.move rfl) (by decide) ?_
      refine HL.val (Val.ixSlice (s := 2) (i := i) (i * 2) rfl rfl Tryd.underlying105 (by kernel_rfl) hik (by omega)) (by decide) ?_
      refine HL.callD en89 rfl (fun w hw => lift_one hw (i := 0) rfl (ownB b) (setOne_el (ht.sn hw.sn (beq_false_of_ne hb)) (hw.at (i := 0) rfl) hb (by rw [mapR_len]; exact hik))) (by decide) ?_
      simp only [List.set_cons_zero]
      refine HL.nil ?_
      refine HQ.blockNormal ?_
      refine HQ.next ?_
      refine HC.region ?_
      refine HL.val ((Val.addI rfl rfl).as (congrArg (Value.int .i64) (wrap1 i (by omega)))) (by decide) ?_
      refine HL.val (Val.move rfl) (by decide) ?_
      refine HL.nil ?_
      exact ⟨fun ac wc ha hw => ⟨⟨i + 1, hik⟩, by dsimp only; omega, ha.subS ⟨rfl, rfl, rfl, rfl, trivial⟩, by have h := hw.pick [0] (by simp); simp only [List.filterMap_cons, List.filterMap_nil, List.getElem?_cons_zero] at h; rw [mapR_set (bst_set hbit) (bst_other n i)] at h; exact h⟩⟩
    · refine HL.val (((Val.eqlI rfl rfl).as (congrArg Value.bool (eqlT (n / 2 ^ i % 2)))).as (congrArg Value.bool (decide_eq_false hbit))) (by decide) ?_
      refine HL.nil ?_
      refine HQ.next ?_
      refine HC.no rfl ?_
      refine HC.skip ?_
      refine HQ.blockNormal ?_
      refine HQ.next ?_
      refine HC.region ?_
      refine HL.val ((Val.addI rfl rfl).as (congrArg (Value.int .i64) (wrap1 i (by omega)))) (by decide) ?_
      refine HL.val (Val.move rfl) (by decide) ?_
      refine HL.nil ?_
      exact ⟨fun ac wc ha hw => ⟨⟨i + 1, hik⟩, by dsimp only; omega, ha.subS ⟨rfl, rfl, rfl, rfl, trivial⟩, by have h := hw.pick [0] (by simp); simp only [List.filterMap_cons, List.filterMap_nil, List.getElem?_cons_zero] at h; rw [bst_not hbit] at h; exact h⟩⟩
  · refine HL.val ((Val.lss rfl rfl).as (congrArg Value.bool ((lssN i k).trans (decide_eq_false hik)))) (by decide) ?_
    refine HL.nil ?_
    refine HQ.next ?_
    refine HC.seq ?_
    refine HC.no rfl ?_
    refine HC.exit ?_
    refine HQ.thenExit ?_
    refine HQ.thenExit ?_
    refine HQ.blockExit ?_
    refine HQ.next ?_
    refine HC.seq ?_
    refine HC.region ?_
    refine HL.val (Val.assign rfl) (by decide) ?_
    refine HL.nil ?_
    refine HQ.next ?_
    refine HC.ret ?_
    obtain rfl : i = k := by omega
    rw [bst_end]
    exact HQ.ret1 rfl rfl (fun w hw => ⟨rfl, hw.pick [0] (by simp)⟩)

set_option maxRecDepth 100000 in
theorem splitBits_bad {n k b c : Nat} {w : World} {u : TypeId} {v : Value} (he : w.cell? ⟨2, 0, none⟩ = some (.iface u v)) (hn : n < 18446744073709551616) (hlen : k < Lib.bitLen n) :
    Calls Tryd.prog 90 #[.slice (some ⟨b, 0, none⟩) k c, .int .u64 (n : Int)] w fun e w' => e = .returned (.iface u v) ∧ Below w.heap.size w w' := by
  refine calls_H (args := [.slice (some ⟨b, 0, none⟩) k c, .int .u64 (n : Int)]) (noD) [] Tryd.func90 rfl (m := 28) rfl rfl (hold_nil _ _) ?_
  refine HC.seq ?_
  refine HC.region ?_
  refine HL.val (Val.assign rfl) (by decide) ?_
  refine HL.nil ?_
  refine HQ.next ?_
  refine HC.seq ?_
  refine HC.seq ?_
  refine HC.region ?_
  refine HL.val (Val.move rfl) (by decide) ?_
  refine HL.val (Val.call en116 (len64_p hn) rfl) (by decide) ?_
  refine HL.val (Val.move rfl) (by decide) ?_
  refine HL.val (Val.lenS rfl rfl Tryd.underlying105) (by decide) ?_
  refine HL.val ((Val.gtr rfl rfl).as (congrArg Value.bool ((lssN k (Lib.bitLen n)).trans (decide_eq_true hlen)))) (by decide) ?_
  refine HL.nil ?_
  refine HQ.next ?_
  refine HC.yes rfl ?_
  refine HC.seq ?_
  refine HC.region ?_
  refine HL.val (Val.load_one rfl (fun w hw => hw.sn.cell he rfl) Tryd.underlying91 rfl) (by decide) ?_
  refine HL.val (Val.assign rfl) (by decide) ?_
  refine HL.nil ?_
  refine HQ.next ?_
  refine HC.ret ?_
  refine HQ.thenRet ?_
  exact HQ.ret1 rfl rfl (pure_end rfl)

set_option maxRecDepth 100000 in
theorem isplit_good {n k : Nat} {w : World} (ht : RT w) (hn : n < 18446744073709551616) (hk : k ≤ 64) (hlen : Lib.bitLen n ≤ k) : Calls Tryd.prog 49 #[.int .u64 (n : Int), .int .i64 (k : Int)] w fun e w' => ∃ r : Fam, True ∧ e = .returned (.tuple #[.slice (some ⟨r.1, 0, none⟩) k k, .bool true]) ∧ Below w.heap.size w w' ∧ w.heap.size ≤ r.1 ∧ w'.heap[r.1]? = some (.cells (flat (byA 16) (bitsL n k)) 30 (0, 0)) := by
  refine calls_H (args := [.int .u64 (n : Int), .int .i64 (k : Int)]) (noD) [] Tryd.func49 rfl (m := 21) rfl rfl (hold_nil _ _) ?_
  refine HC.seq ?_
  refine HC.region ?_
  refine HL.val (Val.assign rfl) (by decide) ?_
  refine HL.val (Val.assign rfl) (by decide) ?_
  refine HL.nil ?_
  refine HQ.next ?_
  refine HC.seq ?_
  refine HC.seq ?_
  refine HC.region ?_
  refine HL.val (Val.move rfl) (by decide) ?_
  refine HL.val ((Val.lss rfl rfl).as (congrArg Value.bool ((lssN k 0).trans (decide_eq_false (by omega))))) (by decide) ?_
  refine HL.val (Val.move rfl) (by decide) ?_
  refine HL.valg rfl (Val.move rfl) (by decide) ?_
  refine HL.valg rfl ((Val.gtr rfl rfl).as (congrArg Value.bool ((lssN 64 k).trans (decide_eq_false (by omega))))) (by decide) ?_
  refine HL.val (Val.pickF rfl rfl) (by decide) ?_
  refine HL.nil ?_
  refine HQ.next ?_
  refine HC.no rfl ?_
  refine HC.skip ?_
  refine HQ.next ?_
  refine HC.seq ?_
  refine HC.region ?_
  refine HL.val (Val.move rfl) (by decide) ?_
  refine HL.new (New.make (s := 2) (by' := 16) (z := .agg (rawC 0)) k rfl rfl Tryd.underlying105 (by kernel_rfl) (by kernel_rfl) (by kernel_rfl) (by omega) (by omega) made_els) (by decide) ?_
  intro b1 hb1
  refine HL.val (Val.assign rfl) (by decide) ?_
  refine HL.nil ?_
  refine HQ.next ?_
  refine HC.seq ?_
  refine HC.seq ?_
  refine HC.region ?_
  refine HL.val (Val.move rfl) (by decide) ?_
  refine HL.val (Val.move rfl) (by decide) ?_
  refine HL.callD en90 rfl (fun w hw => lift_one hw (i := 0) rfl (.inl hb1) (splitBits_any (ht.sn hw.sn rfl) (hw.at (i := 0) rfl) List.length_replicate (Nat.ne_of_lt (Nat.lt_of_lt_of_le ht.lt hb1)) hn hk hlen)) (by decide) ?_
  simp only [List.set_cons_zero]
  refine HL.val (nilNe rfl (by kernel_rfl)) (by decide) ?_
  refine HL.nil ?_
  refine HQ.next ?_
  refine HC.no rfl ?_
  refine HC.skip ?_
  refine HQ.next ?_
  refine HC.seq ?_
  refine HC.region ?_
  refine HL.val (Val.move rfl) (by decide) ?_
  refine HL.fam (FamV.call (R := fun r => True) (ob := fun r => .cells (flat (byA 16) (bitsL n k)) 30 (0, 0)) (pv := fun r => .slice (some ⟨r.1, 0, none⟩) k k) en82 (fun w hw => all_len (bitsL_len n k) (SlA.of_row szE (hw.at (i := 0) rfl)) (bitsL_lt n k) (by omega)) rfl) (fun _ h => by cases h) (by decide) ?_
  intro b2 c2 q2 r2 hb2
  dsimp only
  refine HL.val (Val.assign rfl) (by decide) ?_
  refine HL.val (Val.assign rfl) (by decide) ?_
  refine HL.nil ?_
  refine HQ.next ?_
  refine HC.ret ?_
  refine HQ.ret2 rfl rfl rfl (fun w hw => ?_)
  exact ⟨(b2, 0, #[]), trivial, rfl, hw.sn.pure, hb2, hw.at (i := 0) rfl⟩

set_option maxRecDepth 100000 in
theorem isplit_bad {n k : Nat} {w : World} (he0 : ERN w) (hn : n < 18446744073709551616) (hk : k ≤ 64) (hlen : k < Lib.bitLen n) : Calls Tryd.prog 49 #[.int .u64 (n : Int), .int .i64 (k : Int)] w fun e w' => e = .returned (.tuple #[.slice none 0 0, .bool false]) ∧ Below w.heap.size w w' := by
  obtain ⟨u, v, he⟩ := he0
  refine calls_H (args := [.int .u64 (n : Int), .int .i64 (k : Int)]) (noD) [] Tryd.func49 rfl (m := 21) rfl rfl (hold_nil _ _) ?_
  refine HC.seq ?_
  refine HC.region ?_
  refine HL.val (Val.assign rfl) (by decide) ?_
  refine HL.val (Val.assign rfl) (by decide) ?_
  refine HL.nil ?_
  refine HQ.next ?_
  refine HC.seq ?_
  refine HC.seq ?_
  refine HC.region ?_
  refine HL.val (Val.move rfl) (by decide) ?_
  refine HL.val ((Val.lss rfl rfl).as (congrArg Value.bool ((lssN k 0).trans (decide_eq_false (by omega))))) (by decide) ?_
  refine HL.val (Val.move rfl) (by decide) ?_
  refine HL.valg rfl (Val.move rfl) (by decide) ?_
  refine HL.valg rfl ((Val.gtr rfl rfl).as (congrArg Value.bool ((lssN 64 k).trans (decide_eq_false (by omega))))) (by decide) ?_
  refine HL.val (Val.pickF rfl rfl) (by decide) ?_
  refine HL.nil ?_
  refine HQ.next ?_
  refine HC.no rfl ?_
  refine HC.skip ?_
  refine HQ.next ?_
  refine HC.seq ?_
  refine HC.region ?_
  refine HL.val (Val.move rfl) (by decide) ?_
  refine HL.new (New.make (s := 2) (by' := 16) (z := .agg (rawC 0)) k rfl rfl Tryd.underlying105 (by kernel_rfl) (by kernel_rfl) (by kernel_rfl) (by omega) (by omega) made_els) (by decide) ?_
  intro b1 hb1
  refine HL.val (Val.assign rfl) (by decide) ?_
  refine HL.nil ?_
  refine HQ.next ?_
  refine HC.seq ?_
  refine HC.seq ?_
  refine HC.region ?_
  refine HL.val (Val.move rfl) (by decide) ?_
  refine HL.val (Val.move rfl) (by decide) ?_
  refine HL.val (Val.calls en90 (fun w hw => splitBits_bad (hw.sn.cell he rfl) hn hlen) rfl) (by decide) ?_
  refine HL.val (notNil rfl (by kernel_rfl)) (by decide) ?_
  refine HL.nil ?_
  refine HQ.next ?_
  refine HC.yes rfl ?_
  refine HC.seq ?_
  refine HC.region ?_
  refine HL.val (Val.assign rfl) (by decide) ?_
  refine HL.val (Val.assign rfl) (by decide) ?_
  refine HL.nil ?_
  refine HQ.next ?_
  refine HC.ret ?_
  refine HQ.thenRet ?_
  exact HQ.ret2 rfl rfl rfl (pure_end rfl)
end Go.Proofs.YtgdfdkpkhjbibaaDoor
