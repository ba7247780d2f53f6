
/-
  modpGeneric: the walk over this program (written by genfield.py).
-/
import Derived.Test.YteehdjkmjncehaaDoorAddSub
import Derived.Laws.BitsAllLaws
namespace Go.Proofs.YteehdjkmjncehaaDoor
open Go.RowKit
theorem an63 (a : Nat) (ha : a < 18446744073709551616) : bits .andNot .u64 (a : Int) 9223372036854775808 = ((a % 9223372036854775808 : Nat) : Int) := by
  have h := u64_andNot_nat a 9223372036854775808 ha (by omega)
  have e : a &&& 9223372036854775807 = a % 9223372036854775808 := Nat.and_two_pow_sub_one_eq_mod a 63
  rw [show (18446744073709551615 - 9223372036854775808 : Nat) = 9223372036854775807 from rfl, e] at h
  exact h
theorem an19 (a : Nat) (ha : a < 18446744073709551616) : bits .andNot .u64 19 (IntKind.u64.wrap (-((a : Int) / 9223372036854775808))) = ((19 - 19 * (a / 9223372036854775808) : Nat) : Int) := by
  have h : (a : Int) / 9223372036854775808 = ((a / 9223372036854775808 : Nat) : Int) := by omega
  rw [h]
  have h1 : a / 9223372036854775808 = 0 ∨ a / 9223372036854775808 = 1 := by omega
  rcases h1 with h1 | h1 <;> rw [h1] <;> decide +kernel
theorem sh19 (a : Nat) (ha : a < 18446744073709551616) (w : World) : (Op.shift BinOp.shl IntKind.u64 19 IntKind.u64 ((a : Int) / 9223372036854775808)).run Tryd.prog w = .ok (.int .u64 ((19 + 19 * (a / 9223372036854775808) : Nat) : Int)) w := by
  have h : (a : Int) / 9223372036854775808 = ((a / 9223372036854775808 : Nat) : Int) := by omega
  rw [h]
  have h1 : a / 9223372036854775808 = 0 ∨ a / 9223372036854775808 = 1 := by omega
  rcases h1 with h1 | h1 <;> rw [h1] <;> rfl

set_option maxRecDepth 100000 in
set_option maxHeartbeats 8000000 in
theorem modpGeneric_any {bz oz Tz iz x : Nat} {zs : List Nat} {w : World} (hz0 : Blk w bz Tz zs) (hlz : 4 * iz + 3 < zs.length) (hoz : oz = 32 * iz) (hx0 : ElAt w bz oz x) (hx : x < 2 ^ 256) :
    Calls Tryd.prog 72 #[.pointer (some ⟨bz, oz, none⟩)] w (ElR bz Tz iz zs (fun r => r = x % p25) w) := by
  have Hz := Lib.hid hoz
  have hO0 := Only.refl bz w
  have hsh := fun ww => sh19 (limb x 3) (limb_lt x 3) ww
  have m3 : limb x 3 % 9223372036854775808 < 18446744073709551616 := by have := limb_lt x 3; omega
  have M3 := Lib.hid m3
  clear hoz m3
  go_enter Tryd.func72, Tryd.ntmps72
  go_wp2_with fail
  go_still_tail 4, (by kernel_rfl)
  go_wp2_with fail
  refine (u64_any hx0.drew.l0 (limb_lt x 0)).mono ?_
  rintro e w1 ⟨rfl, hb1⟩
  have hx1 := hx0.drew.on hb1
  have hz1 := hz0.drew.on hb1
  have hO1 := hO0.read hb1
  clear hx0 hz0 hO0 hb1
  go_wp2_with fail
  go_still_tail 4, (by kernel_rfl)
  go_wp2_with fail
  refine (u64_any hx1.drew.l1 (limb_lt x 1)).mono ?_
  rintro e w2 ⟨rfl, hb2⟩
  have hx2 := hx1.drew.on hb2
  have hz2 := hz1.drew.on hb2
  have hO2 := hO1.read hb2
  clear hx1 hz1 hO1 hb2
  go_wp2_with fail
  go_still_tail 4, (by kernel_rfl)
  go_wp2_with fail
  refine (u64_any hx2.drew.l2 (limb_lt x 2)).mono ?_
  rintro e w3 ⟨rfl, hb3⟩
  have hx3 := hx2.drew.on hb3
  have hz3 := hz2.drew.on hb3
  have hO3 := hO2.read hb3
  clear hx2 hz2 hO2 hb3
  go_wp2_with fail
  go_still_tail 4, (by kernel_rfl)
  go_wp2_with fail
  refine (u64_any hx3.drew.l3 (limb_lt x 3)).mono ?_
  rintro e w4 ⟨rfl, hb4⟩
  have hx4 := hx3.drew.on hb4
  have hz4 := hz3.drew.on hb4
  have hO4 := hO3.read hb4
  clear hx3 hz3 hO3 hb4
  go_wp2_with fail
  refine upon_add64 (limb x 0) (19 + 19 * (limb x 3 / 9223372036854775808)) 0 rfl rfl rfl (limb_lt x 0) (by have := limb_lt x 3; omega) (by decide) ?_
  intro s0 c0 E0
  go_wp2_with fail
  refine upon_add64 (limb x 1) 0 c0 rfl rfl rfl (limb_lt x 1) (by decide) E0.c ?_
  intro s1 c1 E1
  go_wp2_with fail
  refine upon_add64 (limb x 2) 0 c1 rfl rfl rfl (limb_lt x 2) (by decide) E1.c ?_
  intro s2 c2 E2
  go_wp2_with fail
  refine upon_add64 (limb x 3 % 9223372036854775808) 0 c2 (an63 _ (limb_lt x 3)) rfl rfl M3.out (by decide) E2.c ?_
  intro s3 c3 E3
  go_wp2_with fail
  refine upon_sub64 s0 (19 - 19 * (s3 / 9223372036854775808)) 0 rfl (an19 _ E3.lt) rfl E0.lt (by omega) (by decide) ?_
  intro z0 d0 E4
  go_wp2_with fail
  refine upon_sub64 s1 0 d0 rfl rfl rfl E1.lt (by decide) E4.c ?_
  intro z1 d1 E5
  go_wp2_with fail
  refine upon_sub64 s2 0 d1 rfl rfl rfl E2.lt (by decide) E5.c ?_
  intro z2 d2 E6
  go_wp2_with fail
  refine upon_sub64 (s3 % 9223372036854775808) 0 d2 (an63 _ E3.lt) rfl rfl (by have := E3.lt; omega) (by decide) E6.c ?_
  intro z3 d3 E7
  go_wp2_with fail
  go_still_tail 5, (by kernel_rfl)
  go_wp2_with fail
  refine (put64_at (k := 4 * iz) hz4.drew (by omega) E4.lt (by have := Hz.out; omega)).mono ?_
  rintro e w5 ⟨rfl, hz5, hb5⟩
  have hO5 := hO4.wrote hb5
  clear hz4 hO4 hb5
  go_wp2_with fail
  go_still_tail 5, (by kernel_rfl)
  go_wp2_with fail
  refine (put64_at (k := 4 * iz + 1) hz5.drew (len_set (by omega)) E5.lt (by have := Hz.out; omega)).mono ?_
  rintro e w6 ⟨rfl, hz6, hb6⟩
  have hO6 := hO5.wrote hb6
  clear hz5 hO5 hb6
  go_wp2_with fail
  go_still_tail 5, (by kernel_rfl)
  go_wp2_with fail
  refine (put64_at (k := 4 * iz + 2) hz6.drew (len_set (len_set (by omega))) E6.lt (by have := Hz.out; omega)).mono ?_
  rintro e w7 ⟨rfl, hz7, hb7⟩
  have hO7 := hO6.wrote hb7
  clear hz6 hO6 hb7
  go_wp2_with fail
  go_still_tail 5, (by kernel_rfl)
  go_wp2_with fail
  refine (put64_at (k := 4 * iz + 3) hz7.drew (len_set (len_set (len_set (by omega)))) E7.lt (by have := Hz.out; omega)).mono ?_
  rintro e w8 ⟨rfl, hz8, hb8⟩
  have hO8 := hO7.wrote hb8
  clear hz7 hO7 hb8
  go_wp2_with fail
  go_end0
  obtain ⟨r, hr, hrs, r0, r1, r2, r3⟩ := limb_of z0 z1 z2 z3 E4.lt E5.lt E6.lt E7.lt
  have hR := modp_law (t := limb x 3 / 9223372036854775808) (t' := s3 / 9223372036854775808) (limb_lt x 0) (limb_lt x 1) (limb_lt x 2) (Nat.mod_lt _ (by decide)) (by have := limb_lt x 3; omega) E0 E1 E2 E3 (by omega) (Nat.mod_lt _ (by decide)) (by have := E3.lt; omega) E4 E5 E6 E7
  rw [show limb x 3 % 9223372036854775808 + 9223372036854775808 * (limb x 3 / 9223372036854775808) = limb x 3 from by omega, V4_limb x hx] at hR
  refine ⟨r, hr, ?_, rfl, ?_, hO8⟩
  · rw [hrs]; exact hR
  · unfold putE
    rw [r0, r1, r2, r3]
    exact hz8
end Go.Proofs.YteehdjkmjncehaaDoor
