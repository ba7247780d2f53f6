
/-
  mulGeneric: the walk over this program (written by genfield.py).
-/
import Derived.Test.YteehdjkmjncehaaDoorRed
namespace Go.Proofs.YteehdjkmjncehaaDoor
open Go.RowKit
set_option maxRecDepth 100000 in
set_option maxHeartbeats 8000000 in
theorem mulGeneric_any {bz oz Tz iz bx ox x bY oy y : Nat} {zs : List Nat} {w : World} (hz0 : Blk w bz Tz zs) (hlz : 4 * iz + 3 < zs.length) (hoz : oz = 32 * iz) (hx0 : ElAt w bx ox x) (hx : x < 2 ^ 256) (hy0 : ElAt w bY oy y) (hy : y < 2 ^ 256) :
    Calls Tryd.prog 71 #[.pointer (some ⟨bz, oz, none⟩), .pointer (some ⟨bx, ox, none⟩), .pointer (some ⟨bY, oy, none⟩)] w (ElR bz Tz iz zs (fun r => r % p25 = (x * y) % p25) w) := by
  have Hz := Lib.hid hoz
  have hO0 := Only.refl bz w
  clear hoz
  go_enter Tryd.func71, Tryd.ntmps71
  go_wp2_with fail
  go_still_tail 4, (by kernel_rfl)
  go_wp2_with fail
  refine (u64_any hx0.drew.l0 (limb_lt x 0)).mono ?_
  rintro e w1 ⟨rfl, hb1⟩
  have hx1 := hx0.drew.on hb1
  have hy1 := hy0.drew.on hb1
  have hz1 := hz0.drew.on hb1
  have hO1 := hO0.read hb1
  clear hx0 hy0 hz0 hO0 hb1
  go_wp2_with fail
  go_still_tail 4, (by kernel_rfl)
  go_wp2_with fail
  refine (u64_any hx1.drew.l1 (limb_lt x 1)).mono ?_
  rintro e w2 ⟨rfl, hb2⟩
  have hx2 := hx1.drew.on hb2
  have hy2 := hy1.drew.on hb2
  have hz2 := hz1.drew.on hb2
  have hO2 := hO1.read hb2
  clear hx1 hy1 hz1 hO1 hb2
  go_wp2_with fail
  go_still_tail 4, (by kernel_rfl)
  go_wp2_with fail
  refine (u64_any hx2.drew.l2 (limb_lt x 2)).mono ?_
  rintro e w3 ⟨rfl, hb3⟩
  have hx3 := hx2.drew.on hb3
  have hy3 := hy2.drew.on hb3
  have hz3 := hz2.drew.on hb3
  have hO3 := hO2.read hb3
  clear hx2 hy2 hz2 hO2 hb3
  go_wp2_with fail
  go_still_tail 4, (by kernel_rfl)
  go_wp2_with fail
  refine (u64_any hx3.drew.l3 (limb_lt x 3)).mono ?_
  rintro e w4 ⟨rfl, hb4⟩
  have hx4 := hx3.drew.on hb4
  have hy4 := hy3.drew.on hb4
  have hz4 := hz3.drew.on hb4
  have hO4 := hO3.read hb4
  clear hx3 hy3 hz3 hO3 hb4
  go_wp2_with fail
  go_still_tail 4, (by kernel_rfl)
  go_wp2_with fail
  refine (u64_any hy4.drew.l0 (limb_lt y 0)).mono ?_
  rintro e w5 ⟨rfl, hb5⟩
  have hx5 := hx4.drew.on hb5
  have hy5 := hy4.drew.on hb5
  have hz5 := hz4.drew.on hb5
  have hO5 := hO4.read hb5
  clear hx4 hy4 hz4 hO4 hb5
  go_wp2_with fail
  go_still_tail 4, (by kernel_rfl)
  go_wp2_with fail
  refine (u64_any hy5.drew.l1 (limb_lt y 1)).mono ?_
  rintro e w6 ⟨rfl, hb6⟩
  have hx6 := hx5.drew.on hb6
  have hy6 := hy5.drew.on hb6
  have hz6 := hz5.drew.on hb6
  have hO6 := hO5.read hb6
  clear hx5 hy5 hz5 hO5 hb6
  go_wp2_with fail
  go_still_tail 4, (by kernel_rfl)
  go_wp2_with fail
  refine (u64_any hy6.drew.l2 (limb_lt y 2)).mono ?_
  rintro e w7 ⟨rfl, hb7⟩
  have hx7 := hx6.drew.on hb7
  have hy7 := hy6.drew.on hb7
  have hz7 := hz6.drew.on hb7
  have hO7 := hO6.read hb7
  clear hx6 hy6 hz6 hO6 hb7
  go_wp2_with fail
  go_still_tail 4, (by kernel_rfl)
  go_wp2_with fail
  refine (u64_any hy7.drew.l3 (limb_lt y 3)).mono ?_
  rintro e w8 ⟨rfl, hb8⟩
  have hx8 := hx7.drew.on hb8
  have hy8 := hy7.drew.on hb8
  have hz8 := hz7.drew.on hb8
  have hO8 := hO7.read hb8
  clear hx7 hy7 hz7 hO7 hb8
  go_wp2_with fail
  refine (mul64_any (limb x 0) (limb y 0) rfl rfl (limb_lt x 0) (limb_lt y 0)).mono ?_
  rintro e w' ⟨h0_1, l0_1, E0, rfl, rfl⟩
  go_wp2_with fail
  refine (mul64_any (limb x 1) (limb y 0) rfl rfl (limb_lt x 1) (limb_lt y 0)).mono ?_
  rintro e w' ⟨h1_1, l1_1, E1, rfl, rfl⟩
  go_wp2_with fail
  refine (mul64_any (limb x 2) (limb y 0) rfl rfl (limb_lt x 2) (limb_lt y 0)).mono ?_
  rintro e w' ⟨h2_1, l2_1, E2, rfl, rfl⟩
  go_wp2_with fail
  refine (mul64_any (limb x 3) (limb y 0) rfl rfl (limb_lt x 3) (limb_lt y 0)).mono ?_
  rintro e w' ⟨h3_1, l3_1, E3, rfl, rfl⟩
  go_wp2_with fail
  refine upon_add64 h0_1 l1_1 0 rfl rfl rfl E0.lt E1.lo (by decide) ?_
  intro a0_1 c0_1 E4
  go_wp2_with fail
  refine upon_add64 h1_1 l2_1 c0_1 rfl rfl rfl E1.lt E2.lo E4.c ?_
  intro a1_1 c1_1 E5
  go_wp2_with fail
  refine upon_add64 h2_1 l3_1 c1_1 rfl rfl rfl E2.lt E3.lo E5.c ?_
  intro a2_1 c2_1 E6
  go_wp2_with fail
  refine upon_add64 h3_1 0 c2_1 rfl rfl rfl E3.lt (by decide) E6.c ?_
  intro a3_1 u_1 E7
  go_wp2_with fail
  refine (mul64_any (limb x 0) (limb y 1) rfl rfl (limb_lt x 0) (limb_lt y 1)).mono ?_
  rintro e w' ⟨h0_2, l0_2, E8, rfl, rfl⟩
  go_wp2_with fail
  refine (mul64_any (limb x 1) (limb y 1) rfl rfl (limb_lt x 1) (limb_lt y 1)).mono ?_
  rintro e w' ⟨h1_2, l1_2, E9, rfl, rfl⟩
  go_wp2_with fail
  refine (mul64_any (limb x 2) (limb y 1) rfl rfl (limb_lt x 2) (limb_lt y 1)).mono ?_
  rintro e w' ⟨h2_2, l2_2, E10, rfl, rfl⟩
  go_wp2_with fail
  refine (mul64_any (limb x 3) (limb y 1) rfl rfl (limb_lt x 3) (limb_lt y 1)).mono ?_
  rintro e w' ⟨h3_2, l3_2, E11, rfl, rfl⟩
  go_wp2_with fail
  refine upon_add64 a0_1 l0_2 0 rfl rfl rfl E4.lt E8.lo (by decide) ?_
  intro z1_1 c0_2 E12
  go_wp2_with fail
  refine upon_add64 h0_2 l1_2 c0_2 rfl rfl rfl E8.lt E9.lo E12.c ?_
  intro h0_3 c1_2 E13
  go_wp2_with fail
  refine upon_add64 h1_2 l2_2 c1_2 rfl rfl rfl E9.lt E10.lo E13.c ?_
  intro h1_3 c2_2 E14
  go_wp2_with fail
  refine upon_add64 h2_2 l3_2 c2_2 rfl rfl rfl E10.lt E11.lo E14.c ?_
  intro h2_3 c3_1 E15
  go_wp2_with fail
  refine upon_add64 h3_2 0 c3_1 rfl rfl rfl E11.lt (by decide) E15.c ?_
  intro h3_3 u_2 E16
  go_wp2_with fail
  refine upon_add64 a1_1 h0_3 0 rfl rfl rfl E5.lt E13.lt (by decide) ?_
  intro a0_2 c0_3 E17
  go_wp2_with fail
  refine upon_add64 a2_1 h1_3 c0_3 rfl rfl rfl E6.lt E14.lt E17.c ?_
  intro a1_2 c1_3 E18
  go_wp2_with fail
  refine upon_add64 a3_1 h2_3 c1_3 rfl rfl rfl E7.lt E15.lt E18.c ?_
  intro a2_2 c2_3 E19
  go_wp2_with fail
  refine upon_add64 0 h3_3 c2_3 rfl rfl rfl (by decide) E16.lt E19.c ?_
  intro a3_2 u_3 E20
  go_wp2_with fail
  refine (mul64_any (limb x 0) (limb y 2) rfl rfl (limb_lt x 0) (limb_lt y 2)).mono ?_
  rintro e w' ⟨h0_4, l0_3, E21, rfl, rfl⟩
  go_wp2_with fail
  refine (mul64_any (limb x 1) (limb y 2) rfl rfl (limb_lt x 1) (limb_lt y 2)).mono ?_
  rintro e w' ⟨h1_4, l1_3, E22, rfl, rfl⟩
  go_wp2_with fail
  refine (mul64_any (limb x 2) (limb y 2) rfl rfl (limb_lt x 2) (limb_lt y 2)).mono ?_
  rintro e w' ⟨h2_4, l2_3, E23, rfl, rfl⟩
  go_wp2_with fail
  refine (mul64_any (limb x 3) (limb y 2) rfl rfl (limb_lt x 3) (limb_lt y 2)).mono ?_
  rintro e w' ⟨h3_4, l3_3, E24, rfl, rfl⟩
  go_wp2_with fail
  refine upon_add64 a0_2 l0_3 0 rfl rfl rfl E17.lt E21.lo (by decide) ?_
  intro z2_1 c0_4 E25
  go_wp2_with fail
  refine upon_add64 h0_4 l1_3 c0_4 rfl rfl rfl E21.lt E22.lo E25.c ?_
  intro h0_5 c1_4 E26
  go_wp2_with fail
  refine upon_add64 h1_4 l2_3 c1_4 rfl rfl rfl E22.lt E23.lo E26.c ?_
  intro h1_5 c2_4 E27
  go_wp2_with fail
  refine upon_add64 h2_4 l3_3 c2_4 rfl rfl rfl E23.lt E24.lo E27.c ?_
  intro h2_5 c3_2 E28
  go_wp2_with fail
  refine upon_add64 h3_4 0 c3_2 rfl rfl rfl E24.lt (by decide) E28.c ?_
  intro h3_5 u_4 E29
  go_wp2_with fail
  refine upon_add64 a1_2 h0_5 0 rfl rfl rfl E18.lt E26.lt (by decide) ?_
  intro a0_3 c0_5 E30
  go_wp2_with fail
  refine upon_add64 a2_2 h1_5 c0_5 rfl rfl rfl E19.lt E27.lt E30.c ?_
  intro a1_3 c1_5 E31
  go_wp2_with fail
  refine upon_add64 a3_2 h2_5 c1_5 rfl rfl rfl E20.lt E28.lt E31.c ?_
  intro a2_3 c2_5 E32
  go_wp2_with fail
  refine upon_add64 0 h3_5 c2_5 rfl rfl rfl (by decide) E29.lt E32.c ?_
  intro a3_3 u_5 E33
  go_wp2_with fail
  refine (mul64_any (limb x 0) (limb y 3) rfl rfl (limb_lt x 0) (limb_lt y 3)).mono ?_
  rintro e w' ⟨h0_6, l0_4, E34, rfl, rfl⟩
  go_wp2_with fail
  refine (mul64_any (limb x 1) (limb y 3) rfl rfl (limb_lt x 1) (limb_lt y 3)).mono ?_
  rintro e w' ⟨h1_6, l1_4, E35, rfl, rfl⟩
  go_wp2_with fail
  refine (mul64_any (limb x 2) (limb y 3) rfl rfl (limb_lt x 2) (limb_lt y 3)).mono ?_
  rintro e w' ⟨h2_6, l2_4, E36, rfl, rfl⟩
  go_wp2_with fail
  refine (mul64_any (limb x 3) (limb y 3) rfl rfl (limb_lt x 3) (limb_lt y 3)).mono ?_
  rintro e w' ⟨h3_6, l3_4, E37, rfl, rfl⟩
  go_wp2_with fail
  refine upon_add64 a0_3 l0_4 0 rfl rfl rfl E30.lt E34.lo (by decide) ?_
  intro z3_1 c0_6 E38
  go_wp2_with fail
  refine upon_add64 h0_6 l1_4 c0_6 rfl rfl rfl E34.lt E35.lo E38.c ?_
  intro h0_7 c1_6 E39
  go_wp2_with fail
  refine upon_add64 h1_6 l2_4 c1_6 rfl rfl rfl E35.lt E36.lo E39.c ?_
  intro h1_7 c2_6 E40
  go_wp2_with fail
  refine upon_add64 h2_6 l3_4 c2_6 rfl rfl rfl E36.lt E37.lo E40.c ?_
  intro h2_7 c3_3 E41
  go_wp2_with fail
  refine upon_add64 h3_6 0 c3_3 rfl rfl rfl E37.lt (by decide) E41.c ?_
  intro h3_7 u_6 E42
  go_wp2_with fail
  refine upon_add64 a1_3 h0_7 0 rfl rfl rfl E31.lt E39.lt (by decide) ?_
  intro z4_1 c0_7 E43
  go_wp2_with fail
  refine upon_add64 a2_3 h1_7 c0_7 rfl rfl rfl E32.lt E40.lt E43.c ?_
  intro z5_1 c1_7 E44
  go_wp2_with fail
  refine upon_add64 a3_3 h2_7 c1_7 rfl rfl rfl E33.lt E41.lt E44.c ?_
  intro z6_1 c2_7 E45
  go_wp2_with fail
  refine upon_add64 0 h3_7 c2_7 rfl rfl rfl (by decide) E42.lt E45.c ?_
  intro z7_1 u_7 E46
  go_wp2_with fail
  refine (red64_any hz8 hlz (by have := Hz.out; omega) E0.lo E12.lt E25.lt E38.lt E43.lt E44.lt E45.lt E46.lt).mono ?_
  rintro e w' ⟨r, hr, hR, rfl, hB, hO⟩
  go_wp2_with fail
  go_end0
  have r0 := mulrow0 (limb_lt x 0) (limb_lt x 1) (limb_lt x 2) (limb_lt x 3) (limb_lt y 0) E0 E1 E2 E3 E4 E5 E6 E7
  have r1 := mulrow (limb_lt x 0) (limb_lt x 1) (limb_lt x 2) (limb_lt x 3) (limb_lt y 1) E4.lt E5.lt E6.lt E7.lt E8 E9 E10 E11 E12 E13 E14 E15 E16 E17 E18 E19 E20
  have r2 := mulrow (limb_lt x 0) (limb_lt x 1) (limb_lt x 2) (limb_lt x 3) (limb_lt y 2) E17.lt E18.lt E19.lt E20.lt E21 E22 E23 E24 E25 E26 E27 E28 E29 E30 E31 E32 E33
  have r3 := mulrow (limb_lt x 0) (limb_lt x 1) (limb_lt x 2) (limb_lt x 3) (limb_lt y 3) E30.lt E31.lt E32.lt E33.lt E34 E35 E36 E37 E38 E39 E40 E41 E42 E43 E44 E45 E46
  have hS := mul_sum rfl r0 r1 r2 r3
  rw [V4_limb x hx, V4_limb y hy] at hS
  refine ⟨r, hr, ?_, rfl, hB, hO8.trans hO⟩
  have hR' : r % p25 = _ := hR
  rw [hS] at hR'
  exact hR'
end Go.Proofs.YteehdjkmjncehaaDoor
