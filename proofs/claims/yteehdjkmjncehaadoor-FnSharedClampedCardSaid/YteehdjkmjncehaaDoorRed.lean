
/-
  red64: the walk over this program (written by genfield.py).
-/
import Derived.Test.YteehdjkmjncehaaDoorAddSub
namespace Go.Proofs.YteehdjkmjncehaaDoor
open Go.RowKit
set_option maxRecDepth 100000 in
set_option maxHeartbeats 8000000 in
theorem red64_any {bz oz Tz iz  x0 x1 x2 x3 x4 x5 x6 x7 : Nat} {zs : List Nat} {w : World} (hz0 : Blk w bz Tz zs) (hlz : 4 * iz + 3 < zs.length) (hoz : oz = 32 * iz) (hx0 : x0 < 18446744073709551616) (hx1 : x1 < 18446744073709551616) (hx2 : x2 < 18446744073709551616) (hx3 : x3 < 18446744073709551616) (hx4 : x4 < 18446744073709551616) (hx5 : x5 < 18446744073709551616) (hx6 : x6 < 18446744073709551616) (hx7 : x7 < 18446744073709551616) :
    Calls Tryd.prog 82 #[.pointer (some ⟨bz, oz, none⟩), .int .u64 (x0 : Nat), .int .u64 (x1 : Nat), .int .u64 (x2 : Nat), .int .u64 (x3 : Nat), .int .u64 (x4 : Nat), .int .u64 (x5 : Nat), .int .u64 (x6 : Nat), .int .u64 (x7 : Nat)] w (ElR bz Tz iz zs (fun r => r % p25 = (V4 x0 x1 x2 x3 + Q * V4 x4 x5 x6 x7) % p25) w) := by
  have Hz := Lib.hid hoz
  have hO0 := Only.refl bz w
  clear hoz
  go_enter Tryd.func82, Tryd.ntmps82
  go_wp2_with fail
  refine (mul64_any x4 38 rfl rfl hx4 (by decide)).mono ?_
  rintro e w' ⟨h0_1, l0_1, E0, rfl, rfl⟩
  go_wp2_with fail
  refine (mul64_any x5 38 rfl rfl hx5 (by decide)).mono ?_
  rintro e w' ⟨h1_1, l1_1, E1, rfl, rfl⟩
  go_wp2_with fail
  refine (mul64_any x6 38 rfl rfl hx6 (by decide)).mono ?_
  rintro e w' ⟨h2_1, l2_1, E2, rfl, rfl⟩
  go_wp2_with fail
  refine (mul64_any x7 38 rfl rfl hx7 (by decide)).mono ?_
  rintro e w' ⟨h3_1, l3_1, E3, rfl, rfl⟩
  go_wp2_with fail
  refine upon_add64 h0_1 l1_1 0 rfl rfl rfl E0.lt E1.lo (by decide) ?_
  intro l1_2 c0_1 E4
  go_wp2_with fail
  refine upon_add64 h1_1 l2_1 c0_1 rfl rfl rfl E1.lt E2.lo E4.c ?_
  intro l2_2 c1_1 E5
  go_wp2_with fail
  refine upon_add64 h2_1 l3_1 c1_1 rfl rfl rfl E2.lt E3.lo E5.c ?_
  intro l3_2 c2_1 E6
  go_wp2_with fail
  refine upon_add64 h3_1 0 c2_1 rfl rfl rfl E3.lt (by decide) E6.c ?_
  intro l4_1 u_1 E7
  go_wp2_with fail
  refine upon_add64 l0_1 x0 0 rfl rfl rfl E0.lo hx0 (by decide) ?_
  intro l0_2 c0_2 E8
  go_wp2_with fail
  refine upon_add64 l1_2 x1 c0_2 rfl rfl rfl E4.lt hx1 E8.c ?_
  intro l1_3 c1_2 E9
  go_wp2_with fail
  refine upon_add64 l2_2 x2 c1_2 rfl rfl rfl E5.lt hx2 E9.c ?_
  intro l2_3 c2_2 E10
  go_wp2_with fail
  refine upon_add64 l3_2 x3 c2_2 rfl rfl rfl E6.lt hx3 E10.c ?_
  intro l3_3 c3_1 E11
  go_wp2_with fail
  refine upon_add64 l4_1 0 c3_1 rfl rfl rfl E7.lt (by decide) E11.c ?_
  intro l4_2 u_2 E12
  go_wp2_with fail
  refine (mul64_any l4_2 38 rfl rfl E12.lt (by decide)).mono ?_
  rintro e w' ⟨u_3, l4_3, E13, rfl, rfl⟩
  go_wp2_with fail
  refine upon_add64 l0_2 l4_3 0 rfl rfl rfl E8.lt E13.lo (by decide) ?_
  intro l0_3 c0_3 E14
  go_wp2_with fail
  refine upon_add64 l1_3 0 c0_3 rfl rfl rfl E9.lt (by decide) E14.c ?_
  intro z1_1 c1_3 E15
  go_wp2_with fail
  refine upon_add64 l2_3 0 c1_3 rfl rfl rfl E10.lt (by decide) E15.c ?_
  intro z2_1 c2_3 E16
  go_wp2_with fail
  refine upon_add64 l3_3 0 c2_3 rfl rfl rfl E11.lt (by decide) E16.c ?_
  intro z3_1 c3_2 E17
  go_wp2_with fail
  refine upon_add64 l0_3 (38 * c3_2) 0 rfl (neg38 c3_2 E17.c) rfl E14.lt (lt38 E17.c) (by decide) ?_
  intro z0_1 u_4 E18
  go_wp2_with fail
  go_still_tail 5, (by kernel_rfl)
  go_wp2_with fail
  refine (put64_at (k := 4 * iz) hz0.drew (by omega) E18.lt (by have := Hz.out; omega)).mono ?_
  rintro e w1 ⟨rfl, hz1, hb1⟩
  have hO1 := hO0.wrote hb1
  clear hz0 hO0 hb1
  go_wp2_with fail
  go_still_tail 5, (by kernel_rfl)
  go_wp2_with fail
  refine (put64_at (k := 4 * iz + 1) hz1.drew (len_set (by omega)) E15.lt (by have := Hz.out; omega)).mono ?_
  rintro e w2 ⟨rfl, hz2, hb2⟩
  have hO2 := hO1.wrote hb2
  clear hz1 hO1 hb2
  go_wp2_with fail
  go_still_tail 5, (by kernel_rfl)
  go_wp2_with fail
  refine (put64_at (k := 4 * iz + 2) hz2.drew (len_set (len_set (by omega))) E16.lt (by have := Hz.out; omega)).mono ?_
  rintro e w3 ⟨rfl, hz3, hb3⟩
  have hO3 := hO2.wrote hb3
  clear hz2 hO2 hb3
  go_wp2_with fail
  go_still_tail 5, (by kernel_rfl)
  go_wp2_with fail
  refine (put64_at (k := 4 * iz + 3) hz3.drew (len_set (len_set (len_set (by omega)))) E17.lt (by have := Hz.out; omega)).mono ?_
  rintro e w4 ⟨rfl, hz4, hb4⟩
  have hO4 := hO3.wrote hb4
  clear hz3 hO3 hb4
  go_wp2_with fail
  go_end0
  obtain ⟨r, hr, hrs, r0, r1, r2, r3⟩ := limb_of z0_1 z1_1 z2_1 z3_1 E18.lt E15.lt E16.lt E17.lt
  have hR := red_law hx0 hx1 hx2 hx3 hx4 hx5 hx6 hx7 E0 E1 E2 E3 E4 E5 E6 E7 E8 E9 E10 E11 E12 E13 E14 E15 E16 E17 E18
  refine ⟨r, hr, ?_, rfl, ?_, hO4⟩
  · rw [hrs]; exact hR
  · unfold putE
    rw [r0, r1, r2, r3]
    exact hz4
end Go.Proofs.YteehdjkmjncehaaDoor
