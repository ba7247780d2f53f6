
/-
  impl.Cmov and impl.Cswap where the number is 0 or 1.
-/
import Derived.Test.YteehdjkmjncehaaDoorMov
import Derived.Test.YteehdjkmjncehaaDoorAddSub3
namespace Go.Proofs.YteehdjkmjncehaaDoor
open Go.RowKit
theorem cmov_any {bz oz Tz iz x bY oy y n : Nat} {zs : List Nat} {w : World} (hz0 : Blk w bz Tz zs) (hlz : 4 * iz + 3 < zs.length) (hoz : oz = 32 * iz) (hx0 : ElAt w bz oz x) (hy0 : ElAt w bY oy y) (hx : x < 2 ^ 256) (hy : y < 2 ^ 256) (hn : n ≤ 1) :
    Calls Tryd.prog 88 #[.pointer (some ⟨bz, oz, none⟩), .pointer (some ⟨bY, oy, none⟩), .int .u64 (n : Nat)] w (ElR bz Tz iz zs (fun r => r = selN n x y) w) := by
  have H := Lib.hid (cmovGeneric_any hz0 hlz hoz hx0 hy0 hx hy hn)
  clear hz0 hlz hoz hx0 hy0 hx hy hn
  go_enter Tryd.func88, Tryd.ntmps88
  go_wp2_with fail
  refine H.out.mono ?_
  rintro e w' ⟨r, hr, hR, rfl, hB, hO⟩
  have hR := Lib.hid hR
  go_wp2_with fail
  go_end0
  exact ⟨r, hr, hR.out, rfl, hB, hO⟩
theorem fpCmov_any {bz oz Tz iz x bY oy y n : Nat} {zs : List Nat} {w : World} (hz0 : Blk w bz Tz zs) (hlz : 4 * iz + 3 < zs.length) (hoz : oz = 32 * iz) (hx0 : ElAt w bz oz x) (hy0 : ElAt w bY oy y) (hx : x < 2 ^ 256) (hy : y < 2 ^ 256) (hn : n ≤ 1) :
    Calls Tryd.prog 84 #[.pointer (some ⟨bz, oz, none⟩), .pointer (some ⟨bY, oy, none⟩), .int .u64 (n : Nat)] w (ElR bz Tz iz zs (fun r => r = selN n x y) w) := by
  have H := Lib.hid (cmov_any hz0 hlz hoz hx0 hy0 hx hy hn)
  clear hz0 hlz hoz hx0 hy0 hx hy hn
  go_enter Tryd.func84, Tryd.ntmps84
  go_wp2_with fail
  refine H.out.mono ?_
  rintro e w' ⟨r, hr, hR, rfl, hB, hO⟩
  have hR := Lib.hid hR
  go_wp2_with fail
  go_end0
  exact ⟨r, hr, hR.out, rfl, hB, hO⟩
end Go.Proofs.YteehdjkmjncehaaDoor
