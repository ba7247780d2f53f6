
/-
  addGeneric and subGeneric: the walk over this program (written by genfield.py).
-/
import Derived.Test.YteehdjkmjncehaaDoorLaw
namespace Go.Proofs.YteehdjkmjncehaaDoor
open Go.RowKit
theorem neg38 (c : Nat) (h : c ≤ 1) : bits .and .u64 (IntKind.u64.wrap (-(c : Int))) 38 = ((38 * c : Nat) : Int) := by
  have : c = 0 ∨ c = 1 := by omega
  rcases this with rfl | rfl <;> decide +kernel
theorem lt38 {c : Nat} (h : c ≤ 1) : 38 * c < 18446744073709551616 := by omega
set_option maxRecDepth 100000 in
set_option maxHeartbeats 8000000 in
theorem addGeneric_any {bz oz Tz iz bx ox x bY oy y : Nat} {zs : List Nat} {w : World} (hz0 : Blk w bz Tz zs) (hlz : 4 * iz + 3 < zs.length) (hoz : oz = 32 * iz) (hx0 : ElAt w bx ox x) (hx : x < 2 ^ 256) (hy0 : ElAt w bY oy y) (hy : y < 2 ^ 256) :
    Calls Tryd.prog 69 #[.pointer (some ⟨bz, oz, none⟩), .pointer (some ⟨bx, ox, none⟩), .pointer (some ⟨bY, oy, none⟩)] w (ElR bz Tz iz zs (fun r => r % p25 = (x + y) % p25) w) := by
  have Hz := Lib.hid hoz
  have hO0 := Only.refl bz w
  clear hoz
  go_enter Tryd.func69, Tryd.ntmps69
  go_wp2_with fail
  go_still_tail 4, (by kernel_rfl)
  go_wp2_with fail
  refine (u64_any hx0.drew.l0 (limb_lt x 0)).mono ?_
  rintro e w1 ⟨rfl, hb1⟩
  have hx1 := hx0.drew.on hb1
  have hy1 := hy0.drew.on hb1
  have hz1 := hz0.drew.on hb1
  have hO1 := hO0.read hb1
  clear hx0 hy0 hz0 hO0 hb1
  go_wp2_with fail
  go_still_tail 4, (by kernel_rfl)
  go_wp2_with fail
  refine (u64_any hx1.drew.l1 (limb_lt x 1)).mono ?_
  rintro e w2 ⟨rfl, hb2⟩
  have hx2 := hx1.drew.on hb2
  have hy2 := hy1.drew.on hb2
  have hz2 := hz1.drew.on hb2
  have hO2 := hO1.read hb2
  clear hx1 hy1 hz1 hO1 hb2
  go_wp2_with fail
  go_still_tail 4, (by kernel_rfl)
  go_wp2_with fail
  refine (u64_any hx2.drew.l2 (limb_lt x 2)).mono ?_
  rintro e w3 ⟨rfl, hb3⟩
  have hx3 := hx2.drew.on hb3
  have hy3 := hy2.drew.on hb3
  have hz3 := hz2.drew.on hb3
  have hO3 := hO2.read hb3
  clear hx2 hy2 hz2 hO2 hb3
  go_wp2_with fail
  go_still_tail 4, (by kernel_rfl)
  go_wp2_with fail
  refine (u64_any hx3.drew.l3 (limb_lt x 3)).mono ?_
  rintro e w4 ⟨rfl, hb4⟩
  have hx4 := hx3.drew.on hb4
  have hy4 := hy3.drew.on hb4
  have hz4 := hz3.drew.on hb4
  have hO4 := hO3.read hb4
  clear hx3 hy3 hz3 hO3 hb4
  go_wp2_with fail
  go_still_tail 4, (by kernel_rfl)
  go_wp2_with fail
  refine (u64_any hy4.drew.l0 (limb_lt y 0)).mono ?_
  rintro e w5 ⟨rfl, hb5⟩
  have hx5 := hx4.drew.on hb5
  have hy5 := hy4.drew.on hb5
  have hz5 := hz4.drew.on hb5
  have hO5 := hO4.read hb5
  clear hx4 hy4 hz4 hO4 hb5
  go_wp2_with fail
  go_still_tail 4, (by kernel_rfl)
  go_wp2_with fail
  refine (u64_any hy5.drew.l1 (limb_lt y 1)).mono ?_
  rintro e w6 ⟨rfl, hb6⟩
  have hx6 := hx5.drew.on hb6
  have hy6 := hy5.drew.on hb6
  have hz6 := hz5.drew.on hb6
  have hO6 := hO5.read hb6
  clear hx5 hy5 hz5 hO5 hb6
  go_wp2_with fail
  go_still_tail 4, (by kernel_rfl)
  go_wp2_with fail
  refine (u64_any hy6.drew.l2 (limb_lt y 2)).mono ?_
  rintro e w7 ⟨rfl, hb7⟩
  have hx7 := hx6.drew.on hb7
  have hy7 := hy6.drew.on hb7
  have hz7 := hz6.drew.on hb7
  have hO7 := hO6.read hb7
  clear hx6 hy6 hz6 hO6 hb7
  go_wp2_with fail
  go_still_tail 4, (by kernel_rfl)
  go_wp2_with fail
  refine (u64_any hy7.drew.l3 (limb_lt y 3)).mono ?_
  rintro e w8 ⟨rfl, hb8⟩
  have hx8 := hx7.drew.on hb8
  have hy8 := hy7.drew.on hb8
  have hz8 := hz7.drew.on hb8
  have hO8 := hO7.read hb8
  clear hx7 hy7 hz7 hO7 hb8
  go_wp2_with fail
  refine upon_add64 (limb x 0) (limb y 0) 0 rfl rfl rfl (limb_lt x 0) (limb_lt y 0) (by decide) ?_
  intro z0_1 c0_1 E0
  go_wp2_with fail
  refine upon_add64 (limb x 1) (limb y 1) c0_1 rfl rfl rfl (limb_lt x 1) (limb_lt y 1) E0.c ?_
  intro z1_1 c1_1 E1
  go_wp2_with fail
  refine upon_add64 (limb x 2) (limb y 2) c1_1 rfl rfl rfl (limb_lt x 2) (limb_lt y 2) E1.c ?_
  intro z2_1 c2_1 E2
  go_wp2_with fail
  refine upon_add64 (limb x 3) (limb y 3) c2_1 rfl rfl rfl (limb_lt x 3) (limb_lt y 3) E2.c ?_
  intro z3_1 c3_1 E3
  go_wp2_with fail
  refine upon_add64 z0_1 (38 * c3_1) 0 rfl (neg38 c3_1 E3.c) rfl E0.lt (lt38 E3.c) (by decide) ?_
  intro z0_2 c0_2 E4
  go_wp2_with fail
  refine upon_add64 z1_1 0 c0_2 rfl rfl rfl E1.lt (by decide) E4.c ?_
  intro z1_2 c1_2 E5
  go_wp2_with fail
  refine upon_add64 z2_1 0 c1_2 rfl rfl rfl E2.lt (by decide) E5.c ?_
  intro z2_2 c2_2 E6
  go_wp2_with fail
  refine upon_add64 z3_1 0 c2_2 rfl rfl rfl E3.lt (by decide) E6.c ?_
  intro z3_2 c3_2 E7
  go_wp2_with fail
  refine upon_add64 z0_2 (38 * c3_2) 0 rfl (neg38 c3_2 E7.c) rfl E4.lt (lt38 E7.c) (by decide) ?_
  intro z0_3 u_1 E8
  go_wp2_with fail
  go_still_tail 5, (by kernel_rfl)
  go_wp2_with fail
  refine (put64_at (k := 4 * iz) hz8.drew (by omega) E8.lt (by have := Hz.out; omega)).mono ?_
  rintro e w9 ⟨rfl, hz9, hb9⟩
  have hO9 := hO8.wrote hb9
  clear hz8 hO8 hb9
  go_wp2_with fail
  go_still_tail 5, (by kernel_rfl)
  go_wp2_with fail
  refine (put64_at (k := 4 * iz + 1) hz9.drew (len_set (by omega)) E5.lt (by have := Hz.out; omega)).mono ?_
  rintro e w10 ⟨rfl, hz10, hb10⟩
  have hO10 := hO9.wrote hb10
  clear hz9 hO9 hb10
  go_wp2_with fail
  go_still_tail 5, (by kernel_rfl)
  go_wp2_with fail
  refine (put64_at (k := 4 * iz + 2) hz10.drew (len_set (len_set (by omega))) E6.lt (by have := Hz.out; omega)).mono ?_
  rintro e w11 ⟨rfl, hz11, hb11⟩
  have hO11 := hO10.wrote hb11
  clear hz10 hO10 hb11
  go_wp2_with fail
  go_still_tail 5, (by kernel_rfl)
  go_wp2_with fail
  refine (put64_at (k := 4 * iz + 3) hz11.drew (len_set (len_set (len_set (by omega)))) E7.lt (by have := Hz.out; omega)).mono ?_
  rintro e w12 ⟨rfl, hz12, hb12⟩
  have hO12 := hO11.wrote hb12
  clear hz11 hO11 hb12
  go_wp2_with fail
  go_end0
  obtain ⟨r, hr, hrs, r0, r1, r2, r3⟩ := limb_of z0_3 z1_2 z2_2 z3_2 E8.lt E5.lt E6.lt E7.lt
  have hR := add_law E0 E1 E2 E3 E4 E5 E6 E7 E8
  rw [V4_limb x hx, V4_limb y hy] at hR
  refine ⟨r, hr, ?_, rfl, ?_, hO12⟩
  · rw [hrs]; exact hR
  · unfold putE
    rw [r0, r1, r2, r3]
    exact hz12

set_option maxRecDepth 100000 in
set_option maxHeartbeats 8000000 in
theorem subGeneric_any {bz oz Tz iz bx ox x bY oy y : Nat} {zs : List Nat} {w : World} (hz0 : Blk w bz Tz zs) (hlz : 4 * iz + 3 < zs.length) (hoz : oz = 32 * iz) (hx0 : ElAt w bx ox x) (hx : x < 2 ^ 256) (hy0 : ElAt w bY oy y) (hy : y < 2 ^ 256) :
    Calls Tryd.prog 68 #[.pointer (some ⟨bz, oz, none⟩), .pointer (some ⟨bx, ox, none⟩), .pointer (some ⟨bY, oy, none⟩)] w (ElR bz Tz iz zs (fun r => (r + y) % p25 = x % p25) w) := by
  have Hz := Lib.hid hoz
  have hO0 := Only.refl bz w
  clear hoz
  go_enter Tryd.func68, Tryd.ntmps68
  go_wp2_with fail
  go_still_tail 4, (by kernel_rfl)
  go_wp2_with fail
  refine (u64_any hx0.drew.l0 (limb_lt x 0)).mono ?_
  rintro e w1 ⟨rfl, hb1⟩
  have hx1 := hx0.drew.on hb1
  have hy1 := hy0.drew.on hb1
  have hz1 := hz0.drew.on hb1
  have hO1 := hO0.read hb1
  clear hx0 hy0 hz0 hO0 hb1
  go_wp2_with fail
  go_still_tail 4, (by kernel_rfl)
  go_wp2_with fail
  refine (u64_any hx1.drew.l1 (limb_lt x 1)).mono ?_
  rintro e w2 ⟨rfl, hb2⟩
  have hx2 := hx1.drew.on hb2
  have hy2 := hy1.drew.on hb2
  have hz2 := hz1.drew.on hb2
  have hO2 := hO1.read hb2
  clear hx1 hy1 hz1 hO1 hb2
  go_wp2_with fail
  go_still_tail 4, (by kernel_rfl)
  go_wp2_with fail
  refine (u64_any hx2.drew.l2 (limb_lt x 2)).mono ?_
  rintro e w3 ⟨rfl, hb3⟩
  have hx3 := hx2.drew.on hb3
  have hy3 := hy2.drew.on hb3
  have hz3 := hz2.drew.on hb3
  have hO3 := hO2.read hb3
  clear hx2 hy2 hz2 hO2 hb3
  go_wp2_with fail
  go_still_tail 4, (by kernel_rfl)
  go_wp2_with fail
  refine (u64_any hx3.drew.l3 (limb_lt x 3)).mono ?_
  rintro e w4 ⟨rfl, hb4⟩
  have hx4 := hx3.drew.on hb4
  have hy4 := hy3.drew.on hb4
  have hz4 := hz3.drew.on hb4
  have hO4 := hO3.read hb4
  clear hx3 hy3 hz3 hO3 hb4
  go_wp2_with fail
  go_still_tail 4, (by kernel_rfl)
  go_wp2_with fail
  refine (u64_any hy4.drew.l0 (limb_lt y 0)).mono ?_
  rintro e w5 ⟨rfl, hb5⟩
  have hx5 := hx4.drew.on hb5
  have hy5 := hy4.drew.on hb5
  have hz5 := hz4.drew.on hb5
  have hO5 := hO4.read hb5
  clear hx4 hy4 hz4 hO4 hb5
  go_wp2_with fail
  go_still_tail 4, (by kernel_rfl)
  go_wp2_with fail
  refine (u64_any hy5.drew.l1 (limb_lt y 1)).mono ?_
  rintro e w6 ⟨rfl, hb6⟩
  have hx6 := hx5.drew.on hb6
  have hy6 := hy5.drew.on hb6
  have hz6 := hz5.drew.on hb6
  have hO6 := hO5.read hb6
  clear hx5 hy5 hz5 hO5 hb6
  go_wp2_with fail
  go_still_tail 4, (by kernel_rfl)
  go_wp2_with fail
  refine (u64_any hy6.drew.l2 (limb_lt y 2)).mono ?_
  rintro e w7 ⟨rfl, hb7⟩
  have hx7 := hx6.drew.on hb7
  have hy7 := hy6.drew.on hb7
  have hz7 := hz6.drew.on hb7
  have hO7 := hO6.read hb7
  clear hx6 hy6 hz6 hO6 hb7
  go_wp2_with fail
  go_still_tail 4, (by kernel_rfl)
  go_wp2_with fail
  refine (u64_any hy7.drew.l3 (limb_lt y 3)).mono ?_
  rintro e w8 ⟨rfl, hb8⟩
  have hx8 := hx7.drew.on hb8
  have hy8 := hy7.drew.on hb8
  have hz8 := hz7.drew.on hb8
  have hO8 := hO7.read hb8
  clear hx7 hy7 hz7 hO7 hb8
  go_wp2_with fail
  refine upon_sub64 (limb x 0) (limb y 0) 0 rfl rfl rfl (limb_lt x 0) (limb_lt y 0) (by decide) ?_
  intro z0_1 c0_1 E0
  go_wp2_with fail
  refine upon_sub64 (limb x 1) (limb y 1) c0_1 rfl rfl rfl (limb_lt x 1) (limb_lt y 1) E0.c ?_
  intro z1_1 c1_1 E1
  go_wp2_with fail
  refine upon_sub64 (limb x 2) (limb y 2) c1_1 rfl rfl rfl (limb_lt x 2) (limb_lt y 2) E1.c ?_
  intro z2_1 c2_1 E2
  go_wp2_with fail
  refine upon_sub64 (limb x 3) (limb y 3) c2_1 rfl rfl rfl (limb_lt x 3) (limb_lt y 3) E2.c ?_
  intro z3_1 c3_1 E3
  go_wp2_with fail
  refine upon_sub64 z0_1 (38 * c3_1) 0 rfl (neg38 c3_1 E3.c) rfl E0.lt (lt38 E3.c) (by decide) ?_
  intro z0_2 c0_2 E4
  go_wp2_with fail
  refine upon_sub64 z1_1 0 c0_2 rfl rfl rfl E1.lt (by decide) E4.c ?_
  intro z1_2 c1_2 E5
  go_wp2_with fail
  refine upon_sub64 z2_1 0 c1_2 rfl rfl rfl E2.lt (by decide) E5.c ?_
  intro z2_2 c2_2 E6
  go_wp2_with fail
  refine upon_sub64 z3_1 0 c2_2 rfl rfl rfl E3.lt (by decide) E6.c ?_
  intro z3_2 c3_2 E7
  go_wp2_with fail
  refine upon_sub64 z0_2 (38 * c3_2) 0 rfl (neg38 c3_2 E7.c) rfl E4.lt (lt38 E7.c) (by decide) ?_
  intro z0_3 u_1 E8
  go_wp2_with fail
  go_still_tail 5, (by kernel_rfl)
  go_wp2_with fail
  refine (put64_at (k := 4 * iz) hz8.drew (by omega) E8.lt (by have := Hz.out; omega)).mono ?_
  rintro e w9 ⟨rfl, hz9, hb9⟩
  have hO9 := hO8.wrote hb9
  clear hz8 hO8 hb9
  go_wp2_with fail
  go_still_tail 5, (by kernel_rfl)
  go_wp2_with fail
  refine (put64_at (k := 4 * iz + 1) hz9.drew (len_set (by omega)) E5.lt (by have := Hz.out; omega)).mono ?_
  rintro e w10 ⟨rfl, hz10, hb10⟩
  have hO10 := hO9.wrote hb10
  clear hz9 hO9 hb10
  go_wp2_with fail
  go_still_tail 5, (by kernel_rfl)
  go_wp2_with fail
  refine (put64_at (k := 4 * iz + 2) hz10.drew (len_set (len_set (by omega))) E6.lt (by have := Hz.out; omega)).mono ?_
  rintro e w11 ⟨rfl, hz11, hb11⟩
  have hO11 := hO10.wrote hb11
  clear hz10 hO10 hb11
  go_wp2_with fail
  go_still_tail 5, (by kernel_rfl)
  go_wp2_with fail
  refine (put64_at (k := 4 * iz + 3) hz11.drew (len_set (len_set (len_set (by omega)))) E7.lt (by have := Hz.out; omega)).mono ?_
  rintro e w12 ⟨rfl, hz12, hb12⟩
  have hO12 := hO11.wrote hb12
  clear hz11 hO11 hb12
  go_wp2_with fail
  go_end0
  obtain ⟨r, hr, hrs, r0, r1, r2, r3⟩ := limb_of z0_3 z1_2 z2_2 z3_2 E8.lt E5.lt E6.lt E7.lt
  have hR := sub_law E0 E1 E2 E3 E4 E5 E6 E7 E8
  rw [V4_limb x hx, V4_limb y hy] at hR
  refine ⟨r, hr, ?_, rfl, ?_, hO12⟩
  · rw [hrs]; exact hR
  · unfold putE
    rw [r0, r1, r2, r3]
    exact hz12
end Go.Proofs.YteehdjkmjncehaaDoor
