/-
  DERIVED. GIVEN WITH THE SEED: THE PROGRAM's TIES (one call each: nine closed facts by the kernel) AND EACH ROW's TIE, after the 31st guide's Derived/Test/Toyas{Tie, Card}.lean. No idea stands in it: it is a product of the set-up. Laid BY PROGRAM, IN A SANDBOX (cutbox-door.mjs). By AI agents, Wed Nov 11 2026. No macro, syntax, notation, axiom, sorry.
-/
import Derived.Test.YteehdjkmjncehaaDoorRows
import Derived.LaidByTextLater
import Derived.SevenTiedAt
import Derived.LaidSub
import Derived.LaidOnce
namespace Go.Proofs.YteehdjkmjncehaaDoor
open Go
set_option maxRecDepth 100000
theorem seatTie1 : Tryd.prog.laidByTextLater [("loop.example/pub-g03033/pub/circl/math/fp25519.p", Rows.laid_loop_example_pub_g03033_pub_circl_math_fp25519_p), ("loop.example/pub-g03033/pub/circl/dh/x25519.lowOrderPoints", Rows.laid_loop_example_pub_g03033_pub_circl_dh_x25519_lowOrderPoints)] [.data, .data] true :=
  Program.laidByTextLater_by_one 24 8 161 (by kernel_rfl) (by kernel_rfl) (by kernel_rfl) (by kernel_rfl) (by kernel_rfl) (by kernel_rfl) (fun _ _ => by kernel_rfl)
theorem noOwnUnsafe : Tryd.pinned.checked.prog.headLifts.contains "ownunsafe" = false := by kernel_rfl
theorem tie : Tryd.prog.laidByTextLater [("loop.example/pub-g03033/pub/circl/math/fp25519.p", Rows.laid_loop_example_pub_g03033_pub_circl_math_fp25519_p)] [.data] true :=
  Program.laidByTextLater.sub seatTie1 ["loop.example/pub-g03033/pub/circl/math/fp25519.p"] (by kernel_rfl) (by kernel_rfl)
theorem fnTells_row_tie : Rows.fnTellsRow.laidByTextAt .later Tryd.pinned [.data] true :=
  OpenClaim.laidByTextAt_later rfl rfl tie noOwnUnsafe
theorem fnNegIs_row_tie : Rows.fnNegIsRow.laidByTextAt .later Tryd.pinned [.data] true :=
  OpenClaim.laidByTextAt_later rfl rfl tie noOwnUnsafe
theorem fnRoads_row_tie : Rows.fnRoadsRow.laidByTextAt .later Tryd.pinned [.data] true :=
  OpenClaim.laidByTextAt_later rfl rfl tie noOwnUnsafe
theorem tie2 : Tryd.prog.laidByTextLater [("loop.example/pub-g03033/pub/circl/dh/x25519.lowOrderPoints", Rows.laid_loop_example_pub_g03033_pub_circl_dh_x25519_lowOrderPoints)] [.data] true :=
  Program.laidByTextLater.sub seatTie1 ["loop.example/pub-g03033/pub/circl/dh/x25519.lowOrderPoints"] (by kernel_rfl) (by kernel_rfl)
theorem fnValidIs_row_tie : Rows.fnValidIsRow.laidByTextAt .later Tryd.pinned [.data] true :=
  OpenClaim.laidByTextAt_later rfl rfl tie2 noOwnUnsafe
theorem fnSharedIs_row_tie : Rows.fnSharedIsRow.laidByTextAt .later Tryd.pinned [.data] true :=
  OpenClaim.laidByTextAt_later rfl rfl tie2 noOwnUnsafe
theorem fnSharedClamped_row_tie : Rows.fnSharedClampedRow.laidByTextAt .later Tryd.pinned [.data] true :=
  OpenClaim.laidByTextAt_later rfl rfl tie2 noOwnUnsafe
theorem fnTellsUpto_row_tie : Rows.fnTellsUptoRow.laidByTextAt .later Tryd.pinned [.data] true :=
  OpenClaim.laidByTextAt_later rfl rfl tie noOwnUnsafe
theorem fnValidIsUpto_row_tie : Rows.fnValidIsUptoRow.laidByTextAt .later Tryd.pinned [.data] true :=
  OpenClaim.laidByTextAt_later rfl rfl tie2 noOwnUnsafe
theorem fnSharedIsUpto_row_tie : Rows.fnSharedIsUptoRow.laidByTextAt .later Tryd.pinned [.data] true :=
  OpenClaim.laidByTextAt_later rfl rfl tie2 noOwnUnsafe
theorem fnNegIsUpto_row_tie : Rows.fnNegIsUptoRow.laidByTextAt .later Tryd.pinned [.data] true :=
  OpenClaim.laidByTextAt_later rfl rfl tie noOwnUnsafe
theorem fnRoadsUpto_row_tie : Rows.fnRoadsUptoRow.laidByTextAt .later Tryd.pinned [.data] true :=
  OpenClaim.laidByTextAt_later rfl rfl tie noOwnUnsafe
theorem fnSharedClampedUpto_row_tie : Rows.fnSharedClampedUptoRow.laidByTextAt .later Tryd.pinned [.data] true :=
  OpenClaim.laidByTextAt_later rfl rfl tie2 noOwnUnsafe
end Go.Proofs.YteehdjkmjncehaaDoor
