/-
  NARROWER THAN 'FOR EVERY INPUT', by the rows' own cells (each row's printed sentence says how): FnTells: laid · FnValidIs: laid · FnSharedIs: laid · FnNegIs: laid · FnRoads: laid · FnSharedClamped: laid.
  DERIVED. THE GIVEN ROWS OF THIS SEAT. 6 by the template 'for every input the law returns true; each argument reads behind the call as it read before'; 0 by the template 'total and deterministic' (their statements: YteehdjkmjncehaaDoorTotals.lean).
  GIVEN WITH THE SEED: the statements are not yours to turn. If you find one false, say at which input.
  Laid BY PROGRAM, IN A SANDBOX (cutbox-rows.mjs): the forced cells as the released guide's own fill.sh prints them over the translation 2588b8c0c0778fd4… (all of the seat's roots in one cut). By AI agents, Wed Nov 11 2026. No macro, syntax, notation, axiom, sorry.
-/
import Derived.Test.YteehdjkmjncehaaDoorChecked
import GoSem.Claim
import GoSem.ClaimJoined
import GoSem.ClaimMapViews
import Derived.JoinedTies
import Derived.KernelRfl
namespace Go.Proofs.YteehdjkmjncehaaDoor
/- THE CELL 'sum', in the pinned program and in every row, IS THE sha256 OF THE DUMP (.gsa) THAT YteehdjkmjncehaaDoorProg.lean LOADS. Nothing in Lean hashes anything: it is a label: what it is worth is what the hold of that sum in a sandbox is worth. -/
noncomputable def Tryd.pinned : Pinned := { name := "yteehdjkmjncehaadoor", sum := "2588b8c0c0778fd4825aabf0a0821e815aa44ccea3eb0e6bdb30fcb746df9a97", checked := Tryd.checked }
namespace Rows
def none {H : Type} : Left H := { results := [], args := [] }

/- WHAT THE LISTED PACKAGE-LEVEL VARIABLES READ AS WHEN THE CALL BEGINS. Each datum BY PROGRAM (the guide's laid-datum.mjs) off the statement by which the dump's own 'gosem.cut.vars' lays the variable. In a bare row this is a premise. The card (YteehdjkmjncehaaDoorCards.lean) ties it to the program's text. -/
def laid_loop_example_pub_g03033_pub_circl_math_fp25519_p {H : Type} : DataW H := .agg [.lit (.int .u8 237), .lit (.int .u8 255), .lit (.int .u8 255), .lit (.int .u8 255), .lit (.int .u8 255), .lit (.int .u8 255), .lit (.int .u8 255), .lit (.int .u8 255), .lit (.int .u8 255), .lit (.int .u8 255), .lit (.int .u8 255), .lit (.int .u8 255), .lit (.int .u8 255), .lit (.int .u8 255), .lit (.int .u8 255), .lit (.int .u8 255), .lit (.int .u8 255), .lit (.int .u8 255), .lit (.int .u8 255), .lit (.int .u8 255), .lit (.int .u8 255), .lit (.int .u8 255), .lit (.int .u8 255), .lit (.int .u8 255), .lit (.int .u8 255), .lit (.int .u8 255), .lit (.int .u8 255), .lit (.int .u8 255), .lit (.int .u8 255), .lit (.int .u8 255), .lit (.int .u8 255), .lit (.int .u8 127)]
def laid_loop_example_pub_g03033_pub_circl_dh_x25519_lowOrderPoints {H : Type} : DataW H := .agg [.agg [.lit (.int .u8 0), .lit (.int .u8 0), .lit (.int .u8 0), .lit (.int .u8 0), .lit (.int .u8 0), .lit (.int .u8 0), .lit (.int .u8 0), .lit (.int .u8 0), .lit (.int .u8 0), .lit (.int .u8 0), .lit (.int .u8 0), .lit (.int .u8 0), .lit (.int .u8 0), .lit (.int .u8 0), .lit (.int .u8 0), .lit (.int .u8 0), .lit (.int .u8 0), .lit (.int .u8 0), .lit (.int .u8 0), .lit (.int .u8 0), .lit (.int .u8 0), .lit (.int .u8 0), .lit (.int .u8 0), .lit (.int .u8 0), .lit (.int .u8 0), .lit (.int .u8 0), .lit (.int .u8 0), .lit (.int .u8 0), .lit (.int .u8 0), .lit (.int .u8 0), .lit (.int .u8 0), .lit (.int .u8 0)], .agg [.lit (.int .u8 1), .lit (.int .u8 0), .lit (.int .u8 0), .lit (.int .u8 0), .lit (.int .u8 0), .lit (.int .u8 0), .lit (.int .u8 0), .lit (.int .u8 0), .lit (.int .u8 0), .lit (.int .u8 0), .lit (.int .u8 0), .lit (.int .u8 0), .lit (.int .u8 0), .lit (.int .u8 0), .lit (.int .u8 0), .lit (.int .u8 0), .lit (.int .u8 0), .lit (.int .u8 0), .lit (.int .u8 0), .lit (.int .u8 0), .lit (.int .u8 0), .lit (.int .u8 0), .lit (.int .u8 0), .lit (.int .u8 0), .lit (.int .u8 0), .lit (.int .u8 0), .lit (.int .u8 0), .lit (.int .u8 0), .lit (.int .u8 0), .lit (.int .u8 0), .lit (.int .u8 0), .lit (.int .u8 0)], .agg [.lit (.int .u8 224), .lit (.int .u8 235), .lit (.int .u8 122), .lit (.int .u8 124), .lit (.int .u8 59), .lit (.int .u8 65), .lit (.int .u8 184), .lit (.int .u8 174), .lit (.int .u8 22), .lit (.int .u8 86), .lit (.int .u8 227), .lit (.int .u8 250), .lit (.int .u8 241), .lit (.int .u8 159), .lit (.int .u8 196), .lit (.int .u8 106), .lit (.int .u8 218), .lit (.int .u8 9), .lit (.int .u8 141), .lit (.int .u8 235), .lit (.int .u8 156), .lit (.int .u8 50), .lit (.int .u8 177), .lit (.int .u8 253), .lit (.int .u8 134), .lit (.int .u8 98), .lit (.int .u8 5), .lit (.int .u8 22), .lit (.int .u8 95), .lit (.int .u8 73), .lit (.int .u8 184), .lit (.int .u8 0)], .agg [.lit (.int .u8 95), .lit (.int .u8 156), .lit (.int .u8 149), .lit (.int .u8 188), .lit (.int .u8 163), .lit (.int .u8 80), .lit (.int .u8 140), .lit (.int .u8 36), .lit (.int .u8 177), .lit (.int .u8 208), .lit (.int .u8 177), .lit (.int .u8 85), .lit (.int .u8 156), .lit (.int .u8 131), .lit (.int .u8 239), .lit (.int .u8 91), .lit (.int .u8 4), .lit (.int .u8 68), .lit (.int .u8 92), .lit (.int .u8 196), .lit (.int .u8 88), .lit (.int .u8 28), .lit (.int .u8 142), .lit (.int .u8 134), .lit (.int .u8 216), .lit (.int .u8 34), .lit (.int .u8 78), .lit (.int .u8 221), .lit (.int .u8 208), .lit (.int .u8 159), .lit (.int .u8 17), .lit (.int .u8 87)], .agg [.lit (.int .u8 236), .lit (.int .u8 255), .lit (.int .u8 255), .lit (.int .u8 255), .lit (.int .u8 255), .lit (.int .u8 255), .lit (.int .u8 255), .lit (.int .u8 255), .lit (.int .u8 255), .lit (.int .u8 255), .lit (.int .u8 255), .lit (.int .u8 255), .lit (.int .u8 255), .lit (.int .u8 255), .lit (.int .u8 255), .lit (.int .u8 255), .lit (.int .u8 255), .lit (.int .u8 255), .lit (.int .u8 255), .lit (.int .u8 255), .lit (.int .u8 255), .lit (.int .u8 255), .lit (.int .u8 255), .lit (.int .u8 255), .lit (.int .u8 255), .lit (.int .u8 255), .lit (.int .u8 255), .lit (.int .u8 255), .lit (.int .u8 255), .lit (.int .u8 255), .lit (.int .u8 255), .lit (.int .u8 127)]]

/-- 'laws.FnTells': WHATEVER THE INPUT: true; the input reads as it did. -/
def fnTellsSpec : ChangeSpec := { name := "fnTells", vars := ["loop.example/pub-g03033/pub/circl/math/fp25519.p"], fn := fun _ => fun
  | [d, g1] => { results := [.lit (.bool true)], args := [d], vars := [g1] }
  | _ => none }
def fnTellsRow : OpenClaim := { program := "yteehdjkmjncehaadoor", sum := "2588b8c0c0778fd4825aabf0a0821e815aa44ccea3eb0e6bdb30fcb746df9a97", func := "loop.example/pub-g03033/laws.FnTells", spec := "fnTells", inPlace := ["math/bits.Add64", "math/bits.Sub64"], named := ["encoding/binary.LittleEndian", "loop.example/pub-g03033/pub/circl/math/fp25519.p"], apart := false, laid := [("loop.example/pub-g03033/pub/circl/math/fp25519.p", laid_loop_example_pub_g03033_pub_circl_math_fp25519_p)] }
def FnTellsSaid : Prop := fnTellsRow.holds Tryd.pinned (OpenSpec.ofChange fnTellsSpec)

/-- ITS FALSE NEIGHBOUR: 'it returns false'. Refute it at one input. -/
def fnTellsWrong : ChangeSpec := { name := "fnTells", vars := ["loop.example/pub-g03033/pub/circl/math/fp25519.p"], fn := fun _ => fun
  | [d, g1] => { results := [.lit (.bool false)], args := [d], vars := [g1] }
  | _ => none }
def FnTellsWrongFalsely : Prop := fnTellsRow.holds Tryd.pinned (OpenSpec.ofChange fnTellsWrong)

/-- 'laws.FnValidIs': WHATEVER THE INPUT: true; the input reads as it did. -/
def fnValidIsSpec : ChangeSpec := { name := "fnValidIs", vars := ["loop.example/pub-g03033/pub/circl/dh/x25519.lowOrderPoints"], fn := fun _ => fun
  | [d, g1] => { results := [.lit (.bool true)], args := [d], vars := [g1] }
  | _ => none }
def fnValidIsRow : OpenClaim := { program := "yteehdjkmjncehaadoor", sum := "2588b8c0c0778fd4825aabf0a0821e815aa44ccea3eb0e6bdb30fcb746df9a97", func := "loop.example/pub-g03033/laws.FnValidIs", spec := "fnValidIs", inPlace := ["math/bits.Add64", "math/bits.Sub64", "crypto/internal/constanttime.boolToUint8"], named := ["loop.example/pub-g03033/pub/circl/dh/x25519.lowOrderPoints", "encoding/binary.LittleEndian"], apart := false, laid := [("loop.example/pub-g03033/pub/circl/dh/x25519.lowOrderPoints", laid_loop_example_pub_g03033_pub_circl_dh_x25519_lowOrderPoints)] }
def FnValidIsSaid : Prop := fnValidIsRow.holds Tryd.pinned (OpenSpec.ofChange fnValidIsSpec)

/-- ITS FALSE NEIGHBOUR: 'it returns false'. Refute it at one input. -/
def fnValidIsWrong : ChangeSpec := { name := "fnValidIs", vars := ["loop.example/pub-g03033/pub/circl/dh/x25519.lowOrderPoints"], fn := fun _ => fun
  | [d, g1] => { results := [.lit (.bool false)], args := [d], vars := [g1] }
  | _ => none }
def FnValidIsWrongFalsely : Prop := fnValidIsRow.holds Tryd.pinned (OpenSpec.ofChange fnValidIsWrong)

/-- 'laws.FnSharedIs': WHATEVER THE INPUT: true; the input reads as it did. -/
def fnSharedIsSpec : ChangeSpec := { name := "fnSharedIs", vars := ["loop.example/pub-g03033/pub/circl/dh/x25519.lowOrderPoints"], fn := fun _ => fun
  | [d1, d2, g1] => { results := [.lit (.bool true)], args := [d1, d2], vars := [g1] }
  | _ => none }
def fnSharedIsRow : OpenClaim := { program := "yteehdjkmjncehaadoor", sum := "2588b8c0c0778fd4825aabf0a0821e815aa44ccea3eb0e6bdb30fcb746df9a97", func := "loop.example/pub-g03033/laws.FnSharedIs", spec := "fnSharedIs", inPlace := ["math/bits.Add64", "math/bits.Sub64", "crypto/internal/constanttime.boolToUint8"], named := ["loop.example/pub-g03033/pub/circl/dh/x25519.lowOrderPoints", "encoding/binary.LittleEndian"], apart := false, laid := [("loop.example/pub-g03033/pub/circl/dh/x25519.lowOrderPoints", laid_loop_example_pub_g03033_pub_circl_dh_x25519_lowOrderPoints)] }
def FnSharedIsSaid : Prop := fnSharedIsRow.holds Tryd.pinned (OpenSpec.ofChange fnSharedIsSpec)

/-- ITS FALSE NEIGHBOUR: 'it returns false'. Refute it at one input. -/
def fnSharedIsWrong : ChangeSpec := { name := "fnSharedIs", vars := ["loop.example/pub-g03033/pub/circl/dh/x25519.lowOrderPoints"], fn := fun _ => fun
  | [d1, d2, g1] => { results := [.lit (.bool false)], args := [d1, d2], vars := [g1] }
  | _ => none }
def FnSharedIsWrongFalsely : Prop := fnSharedIsRow.holds Tryd.pinned (OpenSpec.ofChange fnSharedIsWrong)

/-- 'laws.FnNegIs': WHATEVER THE INPUT: true; the input reads as it did. -/
def fnNegIsSpec : ChangeSpec := { name := "fnNegIs", vars := ["loop.example/pub-g03033/pub/circl/math/fp25519.p"], fn := fun _ => fun
  | [d, g1] => { results := [.lit (.bool true)], args := [d], vars := [g1] }
  | _ => none }
def fnNegIsRow : OpenClaim := { program := "yteehdjkmjncehaadoor", sum := "2588b8c0c0778fd4825aabf0a0821e815aa44ccea3eb0e6bdb30fcb746df9a97", func := "loop.example/pub-g03033/laws.FnNegIs", spec := "fnNegIs", inPlace := ["math/bits.Sub64", "math/bits.Add64"], named := ["loop.example/pub-g03033/pub/circl/math/fp25519.p", "encoding/binary.LittleEndian"], apart := false, laid := [("loop.example/pub-g03033/pub/circl/math/fp25519.p", laid_loop_example_pub_g03033_pub_circl_math_fp25519_p)] }
def FnNegIsSaid : Prop := fnNegIsRow.holds Tryd.pinned (OpenSpec.ofChange fnNegIsSpec)

/-- ITS FALSE NEIGHBOUR: 'it returns false'. Refute it at one input. -/
def fnNegIsWrong : ChangeSpec := { name := "fnNegIs", vars := ["loop.example/pub-g03033/pub/circl/math/fp25519.p"], fn := fun _ => fun
  | [d, g1] => { results := [.lit (.bool false)], args := [d], vars := [g1] }
  | _ => none }
def FnNegIsWrongFalsely : Prop := fnNegIsRow.holds Tryd.pinned (OpenSpec.ofChange fnNegIsWrong)

/-- 'laws.FnRoads': WHATEVER THE INPUT: true; the input reads as it did. -/
def fnRoadsSpec : ChangeSpec := { name := "fnRoads", vars := ["loop.example/pub-g03033/pub/circl/math/fp25519.p"], fn := fun _ => fun
  | [d1, d2, g1] => { results := [.lit (.bool true)], args := [d1, d2], vars := [g1] }
  | _ => none }
def fnRoadsRow : OpenClaim := { program := "yteehdjkmjncehaadoor", sum := "2588b8c0c0778fd4825aabf0a0821e815aa44ccea3eb0e6bdb30fcb746df9a97", func := "loop.example/pub-g03033/laws.FnRoads", spec := "fnRoads", inPlace := ["math/bits.Add64", "math/bits.Sub64"], named := ["encoding/binary.LittleEndian", "loop.example/pub-g03033/pub/circl/math/fp25519.p"], apart := false, laid := [("loop.example/pub-g03033/pub/circl/math/fp25519.p", laid_loop_example_pub_g03033_pub_circl_math_fp25519_p)] }
def FnRoadsSaid : Prop := fnRoadsRow.holds Tryd.pinned (OpenSpec.ofChange fnRoadsSpec)

/-- ITS FALSE NEIGHBOUR: 'it returns false'. Refute it at one input. -/
def fnRoadsWrong : ChangeSpec := { name := "fnRoads", vars := ["loop.example/pub-g03033/pub/circl/math/fp25519.p"], fn := fun _ => fun
  | [d1, d2, g1] => { results := [.lit (.bool false)], args := [d1, d2], vars := [g1] }
  | _ => none }
def FnRoadsWrongFalsely : Prop := fnRoadsRow.holds Tryd.pinned (OpenSpec.ofChange fnRoadsWrong)

/-- 'laws.FnSharedClamped': WHATEVER THE INPUT: true; the input reads as it did. -/
def fnSharedClampedSpec : ChangeSpec := { name := "fnSharedClamped", vars := ["loop.example/pub-g03033/pub/circl/dh/x25519.lowOrderPoints"], fn := fun _ => fun
  | [d1, d2, g1] => { results := [.lit (.bool true)], args := [d1, d2], vars := [g1] }
  | _ => none }
def fnSharedClampedRow : OpenClaim := { program := "yteehdjkmjncehaadoor", sum := "2588b8c0c0778fd4825aabf0a0821e815aa44ccea3eb0e6bdb30fcb746df9a97", func := "loop.example/pub-g03033/laws.FnSharedClamped", spec := "fnSharedClamped", inPlace := ["math/bits.Add64", "math/bits.Sub64", "crypto/internal/constanttime.boolToUint8"], named := ["loop.example/pub-g03033/pub/circl/dh/x25519.lowOrderPoints", "encoding/binary.LittleEndian"], apart := false, laid := [("loop.example/pub-g03033/pub/circl/dh/x25519.lowOrderPoints", laid_loop_example_pub_g03033_pub_circl_dh_x25519_lowOrderPoints)] }
def FnSharedClampedSaid : Prop := fnSharedClampedRow.holds Tryd.pinned (OpenSpec.ofChange fnSharedClampedSpec)

/-- ITS FALSE NEIGHBOUR: 'it returns false'. Refute it at one input. -/
def fnSharedClampedWrong : ChangeSpec := { name := "fnSharedClamped", vars := ["loop.example/pub-g03033/pub/circl/dh/x25519.lowOrderPoints"], fn := fun _ => fun
  | [d1, d2, g1] => { results := [.lit (.bool false)], args := [d1, d2], vars := [g1] }
  | _ => none }
def FnSharedClampedWrongFalsely : Prop := fnSharedClampedRow.holds Tryd.pinned (OpenSpec.ofChange fnSharedClampedWrong)

/- THE SECOND FORM. 'bulk': how many values and letters a reading holds, each counted each time it is reached (what is shared counts as often as it is met; a slice's spare places count too). A statement '..UptoSaid' is the law's where the arguments, and the package variables that the reading takes, are together of bulk at most 1048576: NARROWER than '..Said'. Prove '..Said' where nothing that the law and all that it calls make is longer than what came in: it says more and counts as full. Else prove '..UptoSaid'. A law counts once. -/
mutual
def uptoBulk {H : Type} : DataW H → Nat
  | .lit (.string bytes) => bytes.length + 1
  | .lit _ => 1
  | .nil => 1
  | .ptr d => uptoBulk d + 1
  | .slice elems spare => uptoBulkAll elems + uptoBulkAll spare + 1
  | .agg parts => uptoBulkAll parts + 1
  | .iface _ d => uptoBulk d + 1
  | .map entries => uptoBulkEntries entries + 1
  | .held _ => 1
def uptoBulkAll {H : Type} : List (DataW H) → Nat
  | [] => 0
  | d :: r => uptoBulk d + uptoBulkAll r
def uptoBulkEntries {H : Type} : List (Lit × DataW H) → Nat
  | [] => 0
  | x :: r => uptoBulkEntry x + uptoBulkEntries r
def uptoBulkEntry {H : Type} : Lit × DataW H → Nat
  | (.string bytes, d) => bytes.length + uptoBulk d + 1
  | (_, d) => uptoBulk d + 1
 end
def uptoSmall : (H : Type) → List (DataW H) → Bool := fun _ ds => decide (uptoBulkAll ds ≤ 1048576)
def OpenSpec.upto (s : _root_.Go.ChangeSpec) : _root_.Go.OpenSpec := { _root_.Go.OpenSpec.ofChange s with cond := some uptoSmall }

/-- 'laws.FnTells', WHERE WHAT IT READS IS OF BULK AT MOST 1048576: true; the input reads as it did. -/
def fnTellsUptoRow : OpenClaim := { program := "yteehdjkmjncehaadoor", sum := "2588b8c0c0778fd4825aabf0a0821e815aa44ccea3eb0e6bdb30fcb746df9a97", func := "loop.example/pub-g03033/laws.FnTells", spec := "fnTells", inPlace := ["math/bits.Add64", "math/bits.Sub64"], named := ["encoding/binary.LittleEndian", "loop.example/pub-g03033/pub/circl/math/fp25519.p"], apart := false, laid := [("loop.example/pub-g03033/pub/circl/math/fp25519.p", laid_loop_example_pub_g03033_pub_circl_math_fp25519_p)], narrowed := true }
def FnTellsUptoSaid : Prop := fnTellsUptoRow.holds Tryd.pinned (OpenSpec.upto fnTellsSpec)

/-- 'laws.FnValidIs', WHERE WHAT IT READS IS OF BULK AT MOST 1048576: true; the input reads as it did. -/
def fnValidIsUptoRow : OpenClaim := { program := "yteehdjkmjncehaadoor", sum := "2588b8c0c0778fd4825aabf0a0821e815aa44ccea3eb0e6bdb30fcb746df9a97", func := "loop.example/pub-g03033/laws.FnValidIs", spec := "fnValidIs", inPlace := ["math/bits.Add64", "math/bits.Sub64", "crypto/internal/constanttime.boolToUint8"], named := ["loop.example/pub-g03033/pub/circl/dh/x25519.lowOrderPoints", "encoding/binary.LittleEndian"], apart := false, laid := [("loop.example/pub-g03033/pub/circl/dh/x25519.lowOrderPoints", laid_loop_example_pub_g03033_pub_circl_dh_x25519_lowOrderPoints)], narrowed := true }
def FnValidIsUptoSaid : Prop := fnValidIsUptoRow.holds Tryd.pinned (OpenSpec.upto fnValidIsSpec)

/-- 'laws.FnSharedIs', WHERE WHAT IT READS IS OF BULK AT MOST 1048576: true; the input reads as it did. -/
def fnSharedIsUptoRow : OpenClaim := { program := "yteehdjkmjncehaadoor", sum := "2588b8c0c0778fd4825aabf0a0821e815aa44ccea3eb0e6bdb30fcb746df9a97", func := "loop.example/pub-g03033/laws.FnSharedIs", spec := "fnSharedIs", inPlace := ["math/bits.Add64", "math/bits.Sub64", "crypto/internal/constanttime.boolToUint8"], named := ["loop.example/pub-g03033/pub/circl/dh/x25519.lowOrderPoints", "encoding/binary.LittleEndian"], apart := false, laid := [("loop.example/pub-g03033/pub/circl/dh/x25519.lowOrderPoints", laid_loop_example_pub_g03033_pub_circl_dh_x25519_lowOrderPoints)], narrowed := true }
def FnSharedIsUptoSaid : Prop := fnSharedIsUptoRow.holds Tryd.pinned (OpenSpec.upto fnSharedIsSpec)

/-- 'laws.FnNegIs', WHERE WHAT IT READS IS OF BULK AT MOST 1048576: true; the input reads as it did. -/
def fnNegIsUptoRow : OpenClaim := { program := "yteehdjkmjncehaadoor", sum := "2588b8c0c0778fd4825aabf0a0821e815aa44ccea3eb0e6bdb30fcb746df9a97", func := "loop.example/pub-g03033/laws.FnNegIs", spec := "fnNegIs", inPlace := ["math/bits.Sub64", "math/bits.Add64"], named := ["loop.example/pub-g03033/pub/circl/math/fp25519.p", "encoding/binary.LittleEndian"], apart := false, laid := [("loop.example/pub-g03033/pub/circl/math/fp25519.p", laid_loop_example_pub_g03033_pub_circl_math_fp25519_p)], narrowed := true }
def FnNegIsUptoSaid : Prop := fnNegIsUptoRow.holds Tryd.pinned (OpenSpec.upto fnNegIsSpec)

/-- 'laws.FnRoads', WHERE WHAT IT READS IS OF BULK AT MOST 1048576: true; the input reads as it did. -/
def fnRoadsUptoRow : OpenClaim := { program := "yteehdjkmjncehaadoor", sum := "2588b8c0c0778fd4825aabf0a0821e815aa44ccea3eb0e6bdb30fcb746df9a97", func := "loop.example/pub-g03033/laws.FnRoads", spec := "fnRoads", inPlace := ["math/bits.Add64", "math/bits.Sub64"], named := ["encoding/binary.LittleEndian", "loop.example/pub-g03033/pub/circl/math/fp25519.p"], apart := false, laid := [("loop.example/pub-g03033/pub/circl/math/fp25519.p", laid_loop_example_pub_g03033_pub_circl_math_fp25519_p)], narrowed := true }
def FnRoadsUptoSaid : Prop := fnRoadsUptoRow.holds Tryd.pinned (OpenSpec.upto fnRoadsSpec)

/-- 'laws.FnSharedClamped', WHERE WHAT IT READS IS OF BULK AT MOST 1048576: true; the input reads as it did. -/
def fnSharedClampedUptoRow : OpenClaim := { program := "yteehdjkmjncehaadoor", sum := "2588b8c0c0778fd4825aabf0a0821e815aa44ccea3eb0e6bdb30fcb746df9a97", func := "loop.example/pub-g03033/laws.FnSharedClamped", spec := "fnSharedClamped", inPlace := ["math/bits.Add64", "math/bits.Sub64", "crypto/internal/constanttime.boolToUint8"], named := ["loop.example/pub-g03033/pub/circl/dh/x25519.lowOrderPoints", "encoding/binary.LittleEndian"], apart := false, laid := [("loop.example/pub-g03033/pub/circl/dh/x25519.lowOrderPoints", laid_loop_example_pub_g03033_pub_circl_dh_x25519_lowOrderPoints)], narrowed := true }
def FnSharedClampedUptoSaid : Prop := fnSharedClampedUptoRow.holds Tryd.pinned (OpenSpec.upto fnSharedClampedSpec)

end Rows
end Go.Proofs.YteehdjkmjncehaaDoor
