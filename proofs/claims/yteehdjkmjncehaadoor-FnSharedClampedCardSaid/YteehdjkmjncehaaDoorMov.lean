
/-
  cmovGeneric and cswapGeneric where the number is 0 or 1 (written by genmov.py).
-/
import Derived.Test.YteehdjkmjncehaaDoorMid
import Derived.Test.YteehdjkmjncehaaDoorWrap
import Derived.Test.YteehdjkmjncehaaDoorAddSub2
import Derived.Laws.BitsAllLaws
namespace Go.Proofs.YteehdjkmjncehaaDoor
open Go.RowKit
/-- The second of two numbers where n is 1, else the first. -/
def selN (n x y : Nat) : Nat := if n = 1 then y else x
theorem selN_lt {n x y B : Nat} (hx : x < B) (hy : y < B) : selN n x y < B := by unfold selN; split <;> assumption
theorem limb_sel (n x y j : Nat) : limb (selN n x y) j = selN n (limb x j) (limb y j) := by unfold selN; split <;> rfl
/-- The mask of a number. -/
def mskN (n : Nat) : Int := IntKind.u64.wrap (-(bits .and .u64 (n : Int) 1))
theorem msk_val {n : Nat} (hn : n ≤ 1) : mskN n = ((if n = 1 then 18446744073709551615 else 0 : Nat) : Int) := by
  rcases (show n = 0 ∨ n = 1 by omega) with rfl | rfl <;> decide +kernel
theorem nat_and_ones (a : Nat) (h : a < 18446744073709551616) : a &&& 18446744073709551615 = a := by
  have := Nat.and_two_pow_sub_one_eq_mod a 64
  simp only [Nat.reducePow, Nat.reduceSub] at this
  rw [this, Nat.mod_eq_of_lt h]
theorem cmov_sel {n : Nat} (hn : n ≤ 1) {x y : Nat} (hx : x < 18446744073709551616) (hy : y < 18446744073709551616) :
    bits .or .u64 (bits .andNot .u64 (x : Int) (mskN n)) (bits .and .u64 (y : Int) (mskN n)) = ((selN n x y : Nat) : Int) := by
  unfold selN
  rw [msk_val hn]
  rcases (show n = 0 ∨ n = 1 by omega) with rfl | rfl
  · simp only [show (0 : Nat) = 1 ↔ False by decide, if_false]
    rw [u64_andNot_nat x 0 hx (by decide), u64_and_nat y 0 hy (by decide), Nat.sub_zero, nat_and_ones x hx, Nat.and_zero, u64_or_nat x 0 hx (by decide), Nat.or_zero]
  · simp only [if_true]
    rw [u64_andNot_nat x 18446744073709551615 hx (by decide), u64_and_nat y 18446744073709551615 hy (by decide), Nat.sub_self, nat_and_ones y hy, Nat.and_zero, u64_or_nat 0 y (by decide) hy, Nat.zero_or]
theorem cswap_selx {n : Nat} (hn : n ≤ 1) {x y : Nat} (hx : x < 18446744073709551616) (hy : y < 18446744073709551616) :
    bits .xor .u64 (x : Int) (bits .and .u64 (mskN n) (bits .xor .u64 (x : Int) (y : Int))) = ((selN n x y : Nat) : Int) := by
  unfold selN
  have hxy : x ^^^ y < 18446744073709551616 := Nat.xor_lt_two_pow (n := 64) hx hy
  rw [msk_val hn, u64_xor_nat x y hx hy]
  rcases (show n = 0 ∨ n = 1 by omega) with rfl | rfl
  · simp only [show (0 : Nat) = 1 ↔ False by decide, if_false]
    rw [u64_and_nat 0 _ (by decide) hxy, Nat.zero_and, u64_xor_nat x 0 hx (by decide), Nat.xor_zero]
  · simp only [if_true]
    rw [u64_and_nat _ _ (by decide) hxy, Nat.and_comm, nat_and_ones _ hxy, u64_xor_nat x _ hx hxy, ← Nat.xor_assoc, Nat.xor_self, Nat.zero_xor]
theorem cswap_sely {n : Nat} (hn : n ≤ 1) {x y : Nat} (hx : x < 18446744073709551616) (hy : y < 18446744073709551616) :
    bits .xor .u64 (y : Int) (bits .and .u64 (mskN n) (bits .xor .u64 (x : Int) (y : Int))) = ((selN n y x : Nat) : Int) := by
  unfold selN
  have hxy : x ^^^ y < 18446744073709551616 := Nat.xor_lt_two_pow (n := 64) hx hy
  rw [msk_val hn, u64_xor_nat x y hx hy]
  rcases (show n = 0 ∨ n = 1 by omega) with rfl | rfl
  · simp only [show (0 : Nat) = 1 ↔ False by decide, if_false]
    rw [u64_and_nat 0 _ (by decide) hxy, Nat.zero_and, u64_xor_nat y 0 hy (by decide), Nat.xor_zero]
  · simp only [if_true]
    rw [u64_and_nat _ _ (by decide) hxy, Nat.and_comm, nat_and_ones _ hxy, u64_xor_nat y _ hy hxy, Nat.xor_comm x y, ← Nat.xor_assoc, Nat.xor_self, Nat.zero_xor]
/-- Two elements of two blocks overwritten. -/
def SwR (bx bY Tx Ty ix iy : Nat) (xs ys : List Nat) (r r2 : Nat) (w : World) (e : Ending) (w' : World) : Prop :=
  e = .returned (.tuple #[]) ∧ Blk w' bx Tx (putE xs ix r) ∧ Blk w' bY Ty (putE ys iy r2) ∧ Only2 bx bY w w'
theorem Only2.ofSwap {b c : Nat} {w w1 w2 : World} (h1 : Only b w w1) (h2 : Only c w1 w2) (_hb : b < w.heap.size) (_hc : c < w.heap.size) : Only2 b c w w2 :=
  ⟨h2.os.trans h1.os, h2.tape.trans h1.tape, h2.output.trans h1.output, Nat.le_trans h1.size h2.size, fun k hk n1 n2 => (h2.block k (Nat.lt_of_lt_of_le hk h1.size) n2).trans (h1.block k hk n1)⟩
set_option maxRecDepth 100000 in
set_option maxHeartbeats 8000000 in
theorem cmovGeneric_any {bz oz Tz iz x bY oy y n : Nat} {zs : List Nat} {w : World} (hz0 : Blk w bz Tz zs) (hlz : 4 * iz + 3 < zs.length) (hoz : oz = 32 * iz) (hx0 : ElAt w bz oz x) (hy0 : ElAt w bY oy y) (hx : x < 2 ^ 256) (hy : y < 2 ^ 256) (hn : n ≤ 1) :
    Calls Tryd.prog 89 #[.pointer (some ⟨bz, oz, none⟩), .pointer (some ⟨bY, oy, none⟩), .int .u64 (n : Nat)] w (ElR bz Tz iz zs (fun r => r = selN n x y) w) := by
  have Hz := Lib.hid hoz
  have hO0 := Only.refl bz w
  have HNN := Lib.hid hn
  clear hoz
  go_enter Tryd.func89, Tryd.ntmps89
  go_wp2_with fail
  go_still_tail 4, (by kernel_rfl)
  go_wp2_with fail
  refine (u64_any hx0.drew.l0 (limb_lt x 0)).mono ?_
  rintro e w1 ⟨rfl, hb1⟩
  have hx1 := hx0.drew.on hb1
  have hy1 := hy0.drew.on hb1
  have hz1 := hz0.drew.on hb1
  have hO1 := hO0.read hb1
  clear hx0 hy0 hz0 hO0 hb1
  go_wp2_with fail
  go_still_tail 4, (by kernel_rfl)
  go_wp2_with fail
  refine (u64_any hx1.drew.l1 (limb_lt x 1)).mono ?_
  rintro e w2 ⟨rfl, hb2⟩
  have hx2 := hx1.drew.on hb2
  have hy2 := hy1.drew.on hb2
  have hz2 := hz1.drew.on hb2
  have hO2 := hO1.read hb2
  clear hx1 hy1 hz1 hO1 hb2
  go_wp2_with fail
  go_still_tail 4, (by kernel_rfl)
  go_wp2_with fail
  refine (u64_any hx2.drew.l2 (limb_lt x 2)).mono ?_
  rintro e w3 ⟨rfl, hb3⟩
  have hx3 := hx2.drew.on hb3
  have hy3 := hy2.drew.on hb3
  have hz3 := hz2.drew.on hb3
  have hO3 := hO2.read hb3
  clear hx2 hy2 hz2 hO2 hb3
  go_wp2_with fail
  go_still_tail 4, (by kernel_rfl)
  go_wp2_with fail
  refine (u64_any hx3.drew.l3 (limb_lt x 3)).mono ?_
  rintro e w4 ⟨rfl, hb4⟩
  have hx4 := hx3.drew.on hb4
  have hy4 := hy3.drew.on hb4
  have hz4 := hz3.drew.on hb4
  have hO4 := hO3.read hb4
  clear hx3 hy3 hz3 hO3 hb4
  go_wp2_with fail
  go_still_tail 4, (by kernel_rfl)
  go_wp2_with fail
  refine (u64_any hy4.drew.l0 (limb_lt y 0)).mono ?_
  rintro e w5 ⟨rfl, hb5⟩
  have hx5 := hx4.drew.on hb5
  have hy5 := hy4.drew.on hb5
  have hz5 := hz4.drew.on hb5
  have hO5 := hO4.read hb5
  clear hx4 hy4 hz4 hO4 hb5
  go_wp2_with fail
  go_still_tail 4, (by kernel_rfl)
  go_wp2_with fail
  refine (u64_any hy5.drew.l1 (limb_lt y 1)).mono ?_
  rintro e w6 ⟨rfl, hb6⟩
  have hx6 := hx5.drew.on hb6
  have hy6 := hy5.drew.on hb6
  have hz6 := hz5.drew.on hb6
  have hO6 := hO5.read hb6
  clear hx5 hy5 hz5 hO5 hb6
  go_wp2_with fail
  go_still_tail 4, (by kernel_rfl)
  go_wp2_with fail
  refine (u64_any hy6.drew.l2 (limb_lt y 2)).mono ?_
  rintro e w7 ⟨rfl, hb7⟩
  have hx7 := hx6.drew.on hb7
  have hy7 := hy6.drew.on hb7
  have hz7 := hz6.drew.on hb7
  have hO7 := hO6.read hb7
  clear hx6 hy6 hz6 hO6 hb7
  go_wp2_with fail
  go_still_tail 4, (by kernel_rfl)
  go_wp2_with fail
  refine (u64_any hy7.drew.l3 (limb_lt y 3)).mono ?_
  rintro e w8 ⟨rfl, hb8⟩
  have hz8 := hz7.drew.on hb8
  have hO8 := hO7.read hb8
  clear hx7 hy7 hz7 hO7 hb8
  go_wp2_with fail
  have e0 := cmov_sel HNN.out (limb_lt x 0) (limb_lt y 0)
  unfold mskN at e0
  rw [← limb_sel] at e0
  rw [e0]
  clear e0
  have e1 := cmov_sel HNN.out (limb_lt x 1) (limb_lt y 1)
  unfold mskN at e1
  rw [← limb_sel] at e1
  rw [e1]
  clear e1
  have e2 := cmov_sel HNN.out (limb_lt x 2) (limb_lt y 2)
  unfold mskN at e2
  rw [← limb_sel] at e2
  rw [e2]
  clear e2
  have e3 := cmov_sel HNN.out (limb_lt x 3) (limb_lt y 3)
  unfold mskN at e3
  rw [← limb_sel] at e3
  rw [e3]
  clear e3
  go_still_tail 5, (by kernel_rfl)
  go_wp2_with fail
  refine (put64_at (k := 4 * iz) hz8.drew (by omega) (limb_lt _ 0) (by have := Hz.out; omega)).mono ?_
  rintro e w9 ⟨rfl, hz9, hb9⟩
  have hO9 := hO8.wrote hb9
  clear hz8 hO8 hb9
  go_wp2_with fail
  go_still_tail 5, (by kernel_rfl)
  go_wp2_with fail
  refine (put64_at (k := 4 * iz + 1) hz9.drew (len_set (by omega)) (limb_lt _ 1) (by have := Hz.out; omega)).mono ?_
  rintro e w10 ⟨rfl, hz10, hb10⟩
  have hO10 := hO9.wrote hb10
  clear hz9 hO9 hb10
  go_wp2_with fail
  go_still_tail 5, (by kernel_rfl)
  go_wp2_with fail
  refine (put64_at (k := 4 * iz + 2) hz10.drew (len_set (len_set (by omega))) (limb_lt _ 2) (by have := Hz.out; omega)).mono ?_
  rintro e w11 ⟨rfl, hz11, hb11⟩
  have hO11 := hO10.wrote hb11
  clear hz10 hO10 hb11
  go_wp2_with fail
  go_still_tail 5, (by kernel_rfl)
  go_wp2_with fail
  refine (put64_at (k := 4 * iz + 3) hz11.drew (len_set (len_set (len_set (by omega)))) (limb_lt _ 3) (by have := Hz.out; omega)).mono ?_
  rintro e w12 ⟨rfl, hz12, hb12⟩
  have hO12 := hO11.wrote hb12
  clear hz11 hO11 hb12
  go_wp2_with fail
  go_end0
  exact ⟨_, selN_lt hx hy, rfl, rfl, hz12, hO12⟩
end Go.Proofs.YteehdjkmjncehaaDoor
