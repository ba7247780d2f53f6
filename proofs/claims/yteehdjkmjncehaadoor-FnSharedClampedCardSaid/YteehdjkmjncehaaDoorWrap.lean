
/-
  The thin functions of fp_noasm.go and fp.go: what the element functions do, by their names.
-/
import Derived.Test.YteehdjkmjncehaaDoorMul
import Derived.Test.YteehdjkmjncehaaDoorSqr
import Derived.Test.YteehdjkmjncehaaDoorModp
namespace Go.Proofs.YteehdjkmjncehaaDoor
open Go.RowKit

theorem add_any {bz oz Tz iz bx ox x bY oy y : Nat} {zs : List Nat} {w : World} (hz0 : Blk w bz Tz zs) (hlz : 4 * iz + 3 < zs.length) (hoz : oz = 32 * iz) (hx0 : ElAt w bx ox x) (hx : x < 2 ^ 256) (hy0 : ElAt w bY oy y) (hy : y < 2 ^ 256) :
    Calls Tryd.prog 60 #[.pointer (some ⟨bz, oz, none⟩), .pointer (some ⟨bx, ox, none⟩), .pointer (some ⟨bY, oy, none⟩)] w (ElR bz Tz iz zs (fun r => r % p25 = (x + y) % p25) w) := by
  have H := Lib.hid (addGeneric_any hz0 hlz hoz hx0 hx hy0 hy)
  clear hoz hz0 hlz hx0 hx hy0 hy
  go_enter Tryd.func60, Tryd.ntmps60
  go_wp2_with fail
  refine H.out.mono ?_
  rintro e w' ⟨r, hr, hR, rfl, hB, hO⟩
  have hR := Lib.hid hR
  go_wp2_with fail
  go_end0
  exact ⟨r, hr, hR.out, rfl, hB, hO⟩
theorem fpAdd_any {bz oz Tz iz bx ox x bY oy y : Nat} {zs : List Nat} {w : World} (hz0 : Blk w bz Tz zs) (hlz : 4 * iz + 3 < zs.length) (hoz : oz = 32 * iz) (hx0 : ElAt w bx ox x) (hx : x < 2 ^ 256) (hy0 : ElAt w bY oy y) (hy : y < 2 ^ 256) :
    Calls Tryd.prog 46 #[.pointer (some ⟨bz, oz, none⟩), .pointer (some ⟨bx, ox, none⟩), .pointer (some ⟨bY, oy, none⟩)] w (ElR bz Tz iz zs (fun r => r % p25 = (x + y) % p25) w) := by
  have H := Lib.hid (add_any hz0 hlz hoz hx0 hx hy0 hy)
  clear hoz hz0 hlz hx0 hx hy0 hy
  go_enter Tryd.func46, Tryd.ntmps46
  go_wp2_with fail
  refine H.out.mono ?_
  rintro e w' ⟨r, hr, hR, rfl, hB, hO⟩
  have hR := Lib.hid hR
  go_wp2_with fail
  go_end0
  exact ⟨r, hr, hR.out, rfl, hB, hO⟩
theorem sub_any {bz oz Tz iz bx ox x bY oy y : Nat} {zs : List Nat} {w : World} (hz0 : Blk w bz Tz zs) (hlz : 4 * iz + 3 < zs.length) (hoz : oz = 32 * iz) (hx0 : ElAt w bx ox x) (hx : x < 2 ^ 256) (hy0 : ElAt w bY oy y) (hy : y < 2 ^ 256) :
    Calls Tryd.prog 59 #[.pointer (some ⟨bz, oz, none⟩), .pointer (some ⟨bx, ox, none⟩), .pointer (some ⟨bY, oy, none⟩)] w (ElR bz Tz iz zs (fun r => (r + y) % p25 = x % p25) w) := by
  have H := Lib.hid (subGeneric_any hz0 hlz hoz hx0 hx hy0 hy)
  clear hoz hz0 hlz hx0 hx hy0 hy
  go_enter Tryd.func59, Tryd.ntmps59
  go_wp2_with fail
  refine H.out.mono ?_
  rintro e w' ⟨r, hr, hR, rfl, hB, hO⟩
  have hR := Lib.hid hR
  go_wp2_with fail
  go_end0
  exact ⟨r, hr, hR.out, rfl, hB, hO⟩
theorem fpSub_any {bz oz Tz iz bx ox x bY oy y : Nat} {zs : List Nat} {w : World} (hz0 : Blk w bz Tz zs) (hlz : 4 * iz + 3 < zs.length) (hoz : oz = 32 * iz) (hx0 : ElAt w bx ox x) (hx : x < 2 ^ 256) (hy0 : ElAt w bY oy y) (hy : y < 2 ^ 256) :
    Calls Tryd.prog 45 #[.pointer (some ⟨bz, oz, none⟩), .pointer (some ⟨bx, ox, none⟩), .pointer (some ⟨bY, oy, none⟩)] w (ElR bz Tz iz zs (fun r => (r + y) % p25 = x % p25) w) := by
  have H := Lib.hid (sub_any hz0 hlz hoz hx0 hx hy0 hy)
  clear hoz hz0 hlz hx0 hx hy0 hy
  go_enter Tryd.func45, Tryd.ntmps45
  go_wp2_with fail
  refine H.out.mono ?_
  rintro e w' ⟨r, hr, hR, rfl, hB, hO⟩
  have hR := Lib.hid hR
  go_wp2_with fail
  go_end0
  exact ⟨r, hr, hR.out, rfl, hB, hO⟩
theorem mul_any {bz oz Tz iz bx ox x bY oy y : Nat} {zs : List Nat} {w : World} (hz0 : Blk w bz Tz zs) (hlz : 4 * iz + 3 < zs.length) (hoz : oz = 32 * iz) (hx0 : ElAt w bx ox x) (hx : x < 2 ^ 256) (hy0 : ElAt w bY oy y) (hy : y < 2 ^ 256) :
    Calls Tryd.prog 62 #[.pointer (some ⟨bz, oz, none⟩), .pointer (some ⟨bx, ox, none⟩), .pointer (some ⟨bY, oy, none⟩)] w (ElR bz Tz iz zs (fun r => r % p25 = (x * y) % p25) w) := by
  have H := Lib.hid (mulGeneric_any hz0 hlz hoz hx0 hx hy0 hy)
  clear hoz hz0 hlz hx0 hx hy0 hy
  go_enter Tryd.func62, Tryd.ntmps62
  go_wp2_with fail
  refine H.out.mono ?_
  rintro e w' ⟨r, hr, hR, rfl, hB, hO⟩
  have hR := Lib.hid hR
  go_wp2_with fail
  go_end0
  exact ⟨r, hr, hR.out, rfl, hB, hO⟩
theorem fpMul_any {bz oz Tz iz bx ox x bY oy y : Nat} {zs : List Nat} {w : World} (hz0 : Blk w bz Tz zs) (hlz : 4 * iz + 3 < zs.length) (hoz : oz = 32 * iz) (hx0 : ElAt w bx ox x) (hx : x < 2 ^ 256) (hy0 : ElAt w bY oy y) (hy : y < 2 ^ 256) :
    Calls Tryd.prog 48 #[.pointer (some ⟨bz, oz, none⟩), .pointer (some ⟨bx, ox, none⟩), .pointer (some ⟨bY, oy, none⟩)] w (ElR bz Tz iz zs (fun r => r % p25 = (x * y) % p25) w) := by
  have H := Lib.hid (mul_any hz0 hlz hoz hx0 hx hy0 hy)
  clear hoz hz0 hlz hx0 hx hy0 hy
  go_enter Tryd.func48, Tryd.ntmps48
  go_wp2_with fail
  refine H.out.mono ?_
  rintro e w' ⟨r, hr, hR, rfl, hB, hO⟩
  have hR := Lib.hid hR
  go_wp2_with fail
  go_end0
  exact ⟨r, hr, hR.out, rfl, hB, hO⟩
theorem sqr_any {bz oz Tz iz bx ox x : Nat} {zs : List Nat} {w : World} (hz0 : Blk w bz Tz zs) (hlz : 4 * iz + 3 < zs.length) (hoz : oz = 32 * iz) (hx0 : ElAt w bx ox x) (hx : x < 2 ^ 256) :
    Calls Tryd.prog 61 #[.pointer (some ⟨bz, oz, none⟩), .pointer (some ⟨bx, ox, none⟩)] w (ElR bz Tz iz zs (fun r => r % p25 = (x * x) % p25) w) := by
  have H := Lib.hid (sqrGeneric_any hz0 hlz hoz hx0 hx)
  clear hoz hz0 hlz hx0 hx
  go_enter Tryd.func61, Tryd.ntmps61
  go_wp2_with fail
  refine H.out.mono ?_
  rintro e w' ⟨r, hr, hR, rfl, hB, hO⟩
  have hR := Lib.hid hR
  go_wp2_with fail
  go_end0
  exact ⟨r, hr, hR.out, rfl, hB, hO⟩
theorem fpSqr_any {bz oz Tz iz bx ox x : Nat} {zs : List Nat} {w : World} (hz0 : Blk w bz Tz zs) (hlz : 4 * iz + 3 < zs.length) (hoz : oz = 32 * iz) (hx0 : ElAt w bx ox x) (hx : x < 2 ^ 256) :
    Calls Tryd.prog 47 #[.pointer (some ⟨bz, oz, none⟩), .pointer (some ⟨bx, ox, none⟩)] w (ElR bz Tz iz zs (fun r => r % p25 = (x * x) % p25) w) := by
  have H := Lib.hid (sqr_any hz0 hlz hoz hx0 hx)
  clear hoz hz0 hlz hx0 hx
  go_enter Tryd.func47, Tryd.ntmps47
  go_wp2_with fail
  refine H.out.mono ?_
  rintro e w' ⟨r, hr, hR, rfl, hB, hO⟩
  have hR := Lib.hid hR
  go_wp2_with fail
  go_end0
  exact ⟨r, hr, hR.out, rfl, hB, hO⟩
theorem modp_any {bz oz Tz iz x : Nat} {zs : List Nat} {w : World} (hz0 : Blk w bz Tz zs) (hlz : 4 * iz + 3 < zs.length) (hoz : oz = 32 * iz) (hx0 : ElAt w bz oz x) (hx : x < 2 ^ 256) :
    Calls Tryd.prog 63 #[.pointer (some ⟨bz, oz, none⟩)] w (ElR bz Tz iz zs (fun r => r = x % p25) w) := by
  have H := Lib.hid (modpGeneric_any hz0 hlz hoz hx0 hx)
  clear hoz hz0 hlz hx0 hx
  go_enter Tryd.func63, Tryd.ntmps63
  go_wp2_with fail
  refine H.out.mono ?_
  rintro e w' ⟨r, hr, hR, rfl, hB, hO⟩
  have hR := Lib.hid hR
  go_wp2_with fail
  go_end0
  exact ⟨r, hr, hR.out, rfl, hB, hO⟩
theorem fpModp_any {bz oz Tz iz x : Nat} {zs : List Nat} {w : World} (hz0 : Blk w bz Tz zs) (hlz : 4 * iz + 3 < zs.length) (hoz : oz = 32 * iz) (hx0 : ElAt w bz oz x) (hx : x < 2 ^ 256) :
    Calls Tryd.prog 50 #[.pointer (some ⟨bz, oz, none⟩)] w (ElR bz Tz iz zs (fun r => r = x % p25) w) := by
  have H := Lib.hid (modp_any hz0 hlz hoz hx0 hx)
  clear hoz hz0 hlz hx0 hx
  go_enter Tryd.func50, Tryd.ntmps50
  go_wp2_with fail
  refine H.out.mono ?_
  rintro e w' ⟨r, hr, hR, rfl, hB, hO⟩
  have hR := Lib.hid hR
  go_wp2_with fail
  go_end0
  exact ⟨r, hr, hR.out, rfl, hB, hO⟩
end Go.Proofs.YteehdjkmjncehaaDoor
