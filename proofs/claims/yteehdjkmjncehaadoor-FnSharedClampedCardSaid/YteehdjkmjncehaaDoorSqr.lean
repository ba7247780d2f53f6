
/-
  sqrGeneric: the walk over this program (written by genfield.py).
-/
import Derived.Test.YteehdjkmjncehaaDoorRed
namespace Go.Proofs.YteehdjkmjncehaaDoor
open Go.RowKit
set_option maxRecDepth 100000 in
set_option maxHeartbeats 8000000 in
theorem sqrGeneric_any {bz oz Tz iz bx ox x : Nat} {zs : List Nat} {w : World} (hz0 : Blk w bz Tz zs) (hlz : 4 * iz + 3 < zs.length) (hoz : oz = 32 * iz) (hx0 : ElAt w bx ox x) (hx : x < 2 ^ 256) :
    Calls Tryd.prog 70 #[.pointer (some ⟨bz, oz, none⟩), .pointer (some ⟨bx, ox, none⟩)] w (ElR bz Tz iz zs (fun r => r % p25 = (x * x) % p25) w) := by
  have Hz := Lib.hid hoz
  have hO0 := Only.refl bz w
  clear hoz
  go_enter Tryd.func70, Tryd.ntmps70
  go_wp2_with fail
  go_still_tail 4, (by kernel_rfl)
  go_wp2_with fail
  refine (u64_any hx0.drew.l0 (limb_lt x 0)).mono ?_
  rintro e w1 ⟨rfl, hb1⟩
  have hx1 := hx0.drew.on hb1
  have hz1 := hz0.drew.on hb1
  have hO1 := hO0.read hb1
  clear hx0 hz0 hO0 hb1
  go_wp2_with fail
  go_still_tail 4, (by kernel_rfl)
  go_wp2_with fail
  refine (u64_any hx1.drew.l1 (limb_lt x 1)).mono ?_
  rintro e w2 ⟨rfl, hb2⟩
  have hx2 := hx1.drew.on hb2
  have hz2 := hz1.drew.on hb2
  have hO2 := hO1.read hb2
  clear hx1 hz1 hO1 hb2
  go_wp2_with fail
  go_still_tail 4, (by kernel_rfl)
  go_wp2_with fail
  refine (u64_any hx2.drew.l2 (limb_lt x 2)).mono ?_
  rintro e w3 ⟨rfl, hb3⟩
  have hx3 := hx2.drew.on hb3
  have hz3 := hz2.drew.on hb3
  have hO3 := hO2.read hb3
  clear hx2 hz2 hO2 hb3
  go_wp2_with fail
  go_still_tail 4, (by kernel_rfl)
  go_wp2_with fail
  refine (u64_any hx3.drew.l3 (limb_lt x 3)).mono ?_
  rintro e w4 ⟨rfl, hb4⟩
  have hx4 := hx3.drew.on hb4
  have hz4 := hz3.drew.on hb4
  have hO4 := hO3.read hb4
  clear hx3 hz3 hO3 hb4
  go_wp2_with fail
  refine (mul64_any (limb x 0) (limb x 1) rfl rfl (limb_lt x 0) (limb_lt x 1)).mono ?_
  rintro e w' ⟨h0_1, a0_1, E0, rfl, rfl⟩
  go_wp2_with fail
  refine (mul64_any (limb x 0) (limb x 2) rfl rfl (limb_lt x 0) (limb_lt x 2)).mono ?_
  rintro e w' ⟨h1_1, l1_1, E1, rfl, rfl⟩
  go_wp2_with fail
  refine (mul64_any (limb x 0) (limb x 3) rfl rfl (limb_lt x 0) (limb_lt x 3)).mono ?_
  rintro e w' ⟨h2_1, l2_1, E2, rfl, rfl⟩
  go_wp2_with fail
  refine (mul64_any (limb x 3) (limb x 1) rfl rfl (limb_lt x 3) (limb_lt x 1)).mono ?_
  rintro e w' ⟨h3_1, l3_1, E3, rfl, rfl⟩
  go_wp2_with fail
  refine (mul64_any (limb x 3) (limb x 2) rfl rfl (limb_lt x 3) (limb_lt x 2)).mono ?_
  rintro e w' ⟨h4_1, l4_1, E4, rfl, rfl⟩
  go_wp2_with fail
  refine (mul64_any (limb x 1) (limb x 2) rfl rfl (limb_lt x 1) (limb_lt x 2)).mono ?_
  rintro e w' ⟨h_1, l_1, E5, rfl, rfl⟩
  go_wp2_with fail
  refine upon_add64 l1_1 h0_1 0 rfl rfl rfl E1.lo E0.lt (by decide) ?_
  intro a1_1 c0_1 E6
  go_wp2_with fail
  refine upon_add64 l2_1 h1_1 c0_1 rfl rfl rfl E2.lo E1.lt E6.c ?_
  intro a2_1 c1_1 E7
  go_wp2_with fail
  refine upon_add64 l3_1 h2_1 c1_1 rfl rfl rfl E3.lo E2.lt E7.c ?_
  intro a3_1 c2_1 E8
  go_wp2_with fail
  refine upon_add64 l4_1 h3_1 c2_1 rfl rfl rfl E4.lo E3.lt E8.c ?_
  intro a4_1 c3_1 E9
  go_wp2_with fail
  refine upon_add64 h4_1 0 c3_1 rfl rfl rfl E4.lt (by decide) E9.c ?_
  intro a5_1 u_1 E10
  go_wp2_with fail
  refine upon_add64 a2_1 l_1 0 rfl rfl rfl E7.lt E5.lo (by decide) ?_
  intro a2_2 c0_2 E11
  go_wp2_with fail
  refine upon_add64 a3_1 h_1 c0_2 rfl rfl rfl E8.lt E5.lt E11.c ?_
  intro a3_2 c1_2 E12
  go_wp2_with fail
  refine upon_add64 a4_1 0 c1_2 rfl rfl rfl E9.lt (by decide) E12.c ?_
  intro a4_2 c2_2 E13
  go_wp2_with fail
  refine upon_add64 a5_1 0 c2_2 rfl rfl rfl E10.lt (by decide) E13.c ?_
  intro a5_2 c3_2 E14
  go_wp2_with fail
  refine upon_add64 0 0 c3_2 rfl rfl rfl (by decide) (by decide) E14.c ?_
  intro a6_1 u_2 E15
  go_wp2_with fail
  refine upon_add64 a0_1 a0_1 0 rfl rfl rfl E0.lo E0.lo (by decide) ?_
  intro a0_2 c0_3 E16
  go_wp2_with fail
  refine upon_add64 a1_1 a1_1 c0_3 rfl rfl rfl E6.lt E6.lt E16.c ?_
  intro a1_2 c1_3 E17
  go_wp2_with fail
  refine upon_add64 a2_2 a2_2 c1_3 rfl rfl rfl E11.lt E11.lt E17.c ?_
  intro a2_3 c2_3 E18
  go_wp2_with fail
  refine upon_add64 a3_2 a3_2 c2_3 rfl rfl rfl E12.lt E12.lt E18.c ?_
  intro a3_3 c3_3 E19
  go_wp2_with fail
  refine upon_add64 a4_2 a4_2 c3_3 rfl rfl rfl E13.lt E13.lt E19.c ?_
  intro a4_3 c4_1 E20
  go_wp2_with fail
  refine upon_add64 a5_2 a5_2 c4_1 rfl rfl rfl E14.lt E14.lt E20.c ?_
  intro a5_3 c5_1 E21
  go_wp2_with fail
  refine upon_add64 a6_1 a6_1 c5_1 rfl rfl rfl E15.lt E15.lt E21.c ?_
  intro a6_2 u_3 E22
  go_wp2_with fail
  refine (mul64_any (limb x 0) (limb x 0) rfl rfl (limb_lt x 0) (limb_lt x 0)).mono ?_
  rintro e w' ⟨b1_1, b0_1, E23, rfl, rfl⟩
  go_wp2_with fail
  refine (mul64_any (limb x 1) (limb x 1) rfl rfl (limb_lt x 1) (limb_lt x 1)).mono ?_
  rintro e w' ⟨b3_1, b2_1, E24, rfl, rfl⟩
  go_wp2_with fail
  refine (mul64_any (limb x 2) (limb x 2) rfl rfl (limb_lt x 2) (limb_lt x 2)).mono ?_
  rintro e w' ⟨b5_1, b4_1, E25, rfl, rfl⟩
  go_wp2_with fail
  refine (mul64_any (limb x 3) (limb x 3) rfl rfl (limb_lt x 3) (limb_lt x 3)).mono ?_
  rintro e w' ⟨b7_1, b6_1, E26, rfl, rfl⟩
  go_wp2_with fail
  refine upon_add64 b1_1 a0_2 0 rfl rfl rfl E23.lt E16.lt (by decide) ?_
  intro b1_2 c0_4 E27
  go_wp2_with fail
  refine upon_add64 b2_1 a1_2 c0_4 rfl rfl rfl E24.lo E17.lt E27.c ?_
  intro b2_2 c1_4 E28
  go_wp2_with fail
  refine upon_add64 b3_1 a2_3 c1_4 rfl rfl rfl E24.lt E18.lt E28.c ?_
  intro b3_2 c2_4 E29
  go_wp2_with fail
  refine upon_add64 b4_1 a3_3 c2_4 rfl rfl rfl E25.lo E19.lt E29.c ?_
  intro b4_2 c3_4 E30
  go_wp2_with fail
  refine upon_add64 b5_1 a4_3 c3_4 rfl rfl rfl E25.lt E20.lt E30.c ?_
  intro b5_2 c4_2 E31
  go_wp2_with fail
  refine upon_add64 b6_1 a5_3 c4_2 rfl rfl rfl E26.lo E21.lt E31.c ?_
  intro b6_2 c5_2 E32
  go_wp2_with fail
  refine upon_add64 b7_1 a6_2 c5_2 rfl rfl rfl E26.lt E22.lt E32.c ?_
  intro b7_2 u_4 E33
  go_wp2_with fail
  refine (red64_any hz4 hlz (by have := Hz.out; omega) E23.lo E27.lt E28.lt E29.lt E30.lt E31.lt E32.lt E33.lt).mono ?_
  rintro e w' ⟨r, hr, hR, rfl, hB, hO⟩
  go_wp2_with fail
  go_end0
  have hS := sqr_sum (limb_lt x 0) (limb_lt x 1) (limb_lt x 2) (limb_lt x 3) E0 E1 E2 E3 E4 E5 E6 E7 E8 E9 E10 E11 E12 E13 E14 E15 E16 E17 E18 E19 E20 E21 E22 E23 E24 E25 E26 E27 E28 E29 E30 E31 E32 E33
  rw [V4_limb x hx] at hS
  refine ⟨r, hr, ?_, rfl, hB, hO4.trans hO⟩
  have hR' : r % p25 = _ := hR
  rw [hS] at hR'
  exact hR'
end Go.Proofs.YteehdjkmjncehaaDoor
