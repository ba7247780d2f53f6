/-
  No cell of these rows narrows 'for every input' (looked for: loops, veiled, ifaces, maps, wideKeys, modest, calm, conditions, laid).
  DERIVED. THE GIVEN ROWS OF THIS SEAT. 15 by the template 'for every input the law returns true; each argument reads behind the call as it read before'; 0 by the template 'total and deterministic' (their statements: YteehdjkmjncehaaTotals.lean).
  GIVEN WITH THE SEED: the statements are not yours to turn. If you find one false, say at which input.
  Laid BY PROGRAM, IN A SANDBOX (cutbox-rows.mjs): the forced cells as the released guide's own fill.sh prints them over the translation e815441bbdf89e3a… (all of the seat's roots in one cut). By AI agents, Wed Nov 11 2026. No macro, syntax, notation, axiom, sorry.
-/
import Derived.Test.YteehdjkmjncehaaChecked
import GoSem.Claim
import GoSem.ClaimJoined
import GoSem.ClaimMapViews
import Derived.JoinedTies
import Derived.KernelRfl
namespace Go.Proofs.Yteehdjkmjncehaa
/- THE CELL 'sum', in the pinned program and in every row, IS THE sha256 OF THE DUMP (.gsa) THAT YteehdjkmjncehaaProg.lean LOADS. Nothing in Lean hashes anything: it is a label: what it is worth is what the hold of that sum in a sandbox is worth. -/
noncomputable def Try.pinned : Pinned := { name := "yteehdjkmjncehaa", sum := "e815441bbdf89e3a95ab04843a4d002bf843077b7dc4f4fce5381d10b8acae7b", checked := Try.checked }
namespace Rows
def none {H : Type} : Left H := { results := [], args := [] }

/-- 'laws.FnClampIs': WHATEVER THE INPUT: true; the input reads as it did. -/
def fnClampIsSpec : ChangeSpec := { name := "fnClampIs", fn := fun _ => fun
  | [d] => { results := [.lit (.bool true)], args := [d] }
  | _ => none }
def fnClampIsRow : OpenClaim := { program := "yteehdjkmjncehaa", sum := "e815441bbdf89e3a95ab04843a4d002bf843077b7dc4f4fce5381d10b8acae7b", func := "loop.example/pub-g03033/laws.FnClampIs", spec := "fnClampIs", apart := false }
def FnClampIsSaid : Prop := fnClampIsRow.holds Try.pinned (OpenSpec.ofChange fnClampIsSpec)

/-- ITS FALSE NEIGHBOUR: 'it returns false'. Refute it at one input. -/
def fnClampIsWrong : ChangeSpec := { name := "fnClampIs", fn := fun _ => fun
  | [d] => { results := [.lit (.bool false)], args := [d] }
  | _ => none }
def FnClampIsWrongFalsely : Prop := fnClampIsRow.holds Try.pinned (OpenSpec.ofChange fnClampIsWrong)

/-- 'laws.FnModpIs': WHATEVER THE INPUT: true; the input reads as it did. -/
def fnModpIsSpec : ChangeSpec := { name := "fnModpIs", fn := fun _ => fun
  | [d] => { results := [.lit (.bool true)], args := [d] }
  | _ => none }
def fnModpIsRow : OpenClaim := { program := "yteehdjkmjncehaa", sum := "e815441bbdf89e3a95ab04843a4d002bf843077b7dc4f4fce5381d10b8acae7b", func := "loop.example/pub-g03033/laws.FnModpIs", spec := "fnModpIs", inPlace := ["math/bits.Add64", "math/bits.Sub64"], named := ["encoding/binary.LittleEndian"], apart := false }
def FnModpIsSaid : Prop := fnModpIsRow.holds Try.pinned (OpenSpec.ofChange fnModpIsSpec)

/-- ITS FALSE NEIGHBOUR: 'it returns false'. Refute it at one input. -/
def fnModpIsWrong : ChangeSpec := { name := "fnModpIs", fn := fun _ => fun
  | [d] => { results := [.lit (.bool false)], args := [d] }
  | _ => none }
def FnModpIsWrongFalsely : Prop := fnModpIsRow.holds Try.pinned (OpenSpec.ofChange fnModpIsWrong)

/-- 'laws.FnToBytes': WHATEVER THE INPUT: true; the input reads as it did. -/
def fnToBytesSpec : ChangeSpec := { name := "fnToBytes", fn := fun _ => fun
  | [d1, d2] => { results := [.lit (.bool true)], args := [d1, d2] }
  | _ => none }
def fnToBytesRow : OpenClaim := { program := "yteehdjkmjncehaa", sum := "e815441bbdf89e3a95ab04843a4d002bf843077b7dc4f4fce5381d10b8acae7b", func := "loop.example/pub-g03033/laws.FnToBytes", spec := "fnToBytes", inPlace := ["math/bits.Add64", "math/bits.Sub64"], named := ["encoding/binary.LittleEndian"], apart := false }
def FnToBytesSaid : Prop := fnToBytesRow.holds Try.pinned (OpenSpec.ofChange fnToBytesSpec)

/-- ITS FALSE NEIGHBOUR: 'it returns false'. Refute it at one input. -/
def fnToBytesWrong : ChangeSpec := { name := "fnToBytes", fn := fun _ => fun
  | [d1, d2] => { results := [.lit (.bool false)], args := [d1, d2] }
  | _ => none }
def FnToBytesWrongFalsely : Prop := fnToBytesRow.holds Try.pinned (OpenSpec.ofChange fnToBytesWrong)

/-- 'laws.FnMove': WHATEVER THE INPUT: true; the input reads as it did. -/
def fnMoveSpec : ChangeSpec := { name := "fnMove", fn := fun _ => fun
  | [d1, d2, d3] => { results := [.lit (.bool true)], args := [d1, d2, d3] }
  | _ => none }
def fnMoveRow : OpenClaim := { program := "yteehdjkmjncehaa", sum := "e815441bbdf89e3a95ab04843a4d002bf843077b7dc4f4fce5381d10b8acae7b", func := "loop.example/pub-g03033/laws.FnMove", spec := "fnMove", named := ["encoding/binary.LittleEndian"], apart := false }
def FnMoveSaid : Prop := fnMoveRow.holds Try.pinned (OpenSpec.ofChange fnMoveSpec)

/-- ITS FALSE NEIGHBOUR: 'it returns false'. Refute it at one input. -/
def fnMoveWrong : ChangeSpec := { name := "fnMove", fn := fun _ => fun
  | [d1, d2, d3] => { results := [.lit (.bool false)], args := [d1, d2, d3] }
  | _ => none }
def FnMoveWrongFalsely : Prop := fnMoveRow.holds Try.pinned (OpenSpec.ofChange fnMoveWrong)

/-- 'laws.FnAddIs': WHATEVER THE INPUT: true; the input reads as it did. -/
def fnAddIsSpec : ChangeSpec := { name := "fnAddIs", fn := fun _ => fun
  | [d1, d2] => { results := [.lit (.bool true)], args := [d1, d2] }
  | _ => none }
def fnAddIsRow : OpenClaim := { program := "yteehdjkmjncehaa", sum := "e815441bbdf89e3a95ab04843a4d002bf843077b7dc4f4fce5381d10b8acae7b", func := "loop.example/pub-g03033/laws.FnAddIs", spec := "fnAddIs", inPlace := ["math/bits.Add64", "math/bits.Sub64"], named := ["encoding/binary.LittleEndian"], apart := false }
def FnAddIsSaid : Prop := fnAddIsRow.holds Try.pinned (OpenSpec.ofChange fnAddIsSpec)

/-- ITS FALSE NEIGHBOUR: 'it returns false'. Refute it at one input. -/
def fnAddIsWrong : ChangeSpec := { name := "fnAddIs", fn := fun _ => fun
  | [d1, d2] => { results := [.lit (.bool false)], args := [d1, d2] }
  | _ => none }
def FnAddIsWrongFalsely : Prop := fnAddIsRow.holds Try.pinned (OpenSpec.ofChange fnAddIsWrong)

/-- 'laws.FnSubIs': WHATEVER THE INPUT: true; the input reads as it did. -/
def fnSubIsSpec : ChangeSpec := { name := "fnSubIs", fn := fun _ => fun
  | [d1, d2] => { results := [.lit (.bool true)], args := [d1, d2] }
  | _ => none }
def fnSubIsRow : OpenClaim := { program := "yteehdjkmjncehaa", sum := "e815441bbdf89e3a95ab04843a4d002bf843077b7dc4f4fce5381d10b8acae7b", func := "loop.example/pub-g03033/laws.FnSubIs", spec := "fnSubIs", inPlace := ["math/bits.Sub64", "math/bits.Add64"], named := ["encoding/binary.LittleEndian"], apart := false }
def FnSubIsSaid : Prop := fnSubIsRow.holds Try.pinned (OpenSpec.ofChange fnSubIsSpec)

/-- ITS FALSE NEIGHBOUR: 'it returns false'. Refute it at one input. -/
def fnSubIsWrong : ChangeSpec := { name := "fnSubIs", fn := fun _ => fun
  | [d1, d2] => { results := [.lit (.bool false)], args := [d1, d2] }
  | _ => none }
def FnSubIsWrongFalsely : Prop := fnSubIsRow.holds Try.pinned (OpenSpec.ofChange fnSubIsWrong)

/-- 'laws.FnMulA24Is': WHATEVER THE INPUT: true; the input reads as it did. -/
def fnMulA24IsSpec : ChangeSpec := { name := "fnMulA24Is", fn := fun _ => fun
  | [d] => { results := [.lit (.bool true)], args := [d] }
  | _ => none }
def fnMulA24IsRow : OpenClaim := { program := "yteehdjkmjncehaa", sum := "e815441bbdf89e3a95ab04843a4d002bf843077b7dc4f4fce5381d10b8acae7b", func := "loop.example/pub-g03033/laws.FnMulA24Is", spec := "fnMulA24Is", inPlace := ["math/bits.Add64", "math/bits.Sub64"], named := ["encoding/binary.LittleEndian"], apart := false }
def FnMulA24IsSaid : Prop := fnMulA24IsRow.holds Try.pinned (OpenSpec.ofChange fnMulA24IsSpec)

/-- ITS FALSE NEIGHBOUR: 'it returns false'. Refute it at one input. -/
def fnMulA24IsWrong : ChangeSpec := { name := "fnMulA24Is", fn := fun _ => fun
  | [d] => { results := [.lit (.bool false)], args := [d] }
  | _ => none }
def FnMulA24IsWrongFalsely : Prop := fnMulA24IsRow.holds Try.pinned (OpenSpec.ofChange fnMulA24IsWrong)

/-- 'laws.FnAddSubIs': WHATEVER THE INPUT: true; the input reads as it did. -/
def fnAddSubIsSpec : ChangeSpec := { name := "fnAddSubIs", fn := fun _ => fun
  | [d1, d2] => { results := [.lit (.bool true)], args := [d1, d2] }
  | _ => none }
def fnAddSubIsRow : OpenClaim := { program := "yteehdjkmjncehaa", sum := "e815441bbdf89e3a95ab04843a4d002bf843077b7dc4f4fce5381d10b8acae7b", func := "loop.example/pub-g03033/laws.FnAddSubIs", spec := "fnAddSubIs", inPlace := ["math/bits.Add64", "math/bits.Sub64"], named := ["encoding/binary.LittleEndian"], apart := false }
def FnAddSubIsSaid : Prop := fnAddSubIsRow.holds Try.pinned (OpenSpec.ofChange fnAddSubIsSpec)

/-- ITS FALSE NEIGHBOUR: 'it returns false'. Refute it at one input. -/
def fnAddSubIsWrong : ChangeSpec := { name := "fnAddSubIs", fn := fun _ => fun
  | [d1, d2] => { results := [.lit (.bool false)], args := [d1, d2] }
  | _ => none }
def FnAddSubIsWrongFalsely : Prop := fnAddSubIsRow.holds Try.pinned (OpenSpec.ofChange fnAddSubIsWrong)

/-- 'laws.FnSqrIs': WHATEVER THE INPUT: true; the input reads as it did. -/
def fnSqrIsSpec : ChangeSpec := { name := "fnSqrIs", fn := fun _ => fun
  | [d] => { results := [.lit (.bool true)], args := [d] }
  | _ => none }
def fnSqrIsRow : OpenClaim := { program := "yteehdjkmjncehaa", sum := "e815441bbdf89e3a95ab04843a4d002bf843077b7dc4f4fce5381d10b8acae7b", func := "loop.example/pub-g03033/laws.FnSqrIs", spec := "fnSqrIs", inPlace := ["math/bits.Add64", "math/bits.Sub64"], named := ["encoding/binary.LittleEndian"], apart := false }
def FnSqrIsSaid : Prop := fnSqrIsRow.holds Try.pinned (OpenSpec.ofChange fnSqrIsSpec)

/-- ITS FALSE NEIGHBOUR: 'it returns false'. Refute it at one input. -/
def fnSqrIsWrong : ChangeSpec := { name := "fnSqrIs", fn := fun _ => fun
  | [d] => { results := [.lit (.bool false)], args := [d] }
  | _ => none }
def FnSqrIsWrongFalsely : Prop := fnSqrIsRow.holds Try.pinned (OpenSpec.ofChange fnSqrIsWrong)

/-- 'laws.FnMulIs': WHATEVER THE INPUT: true; the input reads as it did. -/
def fnMulIsSpec : ChangeSpec := { name := "fnMulIs", fn := fun _ => fun
  | [d1, d2] => { results := [.lit (.bool true)], args := [d1, d2] }
  | _ => none }
def fnMulIsRow : OpenClaim := { program := "yteehdjkmjncehaa", sum := "e815441bbdf89e3a95ab04843a4d002bf843077b7dc4f4fce5381d10b8acae7b", func := "loop.example/pub-g03033/laws.FnMulIs", spec := "fnMulIs", inPlace := ["math/bits.Add64", "math/bits.Sub64"], named := ["encoding/binary.LittleEndian"], apart := false }
def FnMulIsSaid : Prop := fnMulIsRow.holds Try.pinned (OpenSpec.ofChange fnMulIsSpec)

/-- ITS FALSE NEIGHBOUR: 'it returns false'. Refute it at one input. -/
def fnMulIsWrong : ChangeSpec := { name := "fnMulIs", fn := fun _ => fun
  | [d1, d2] => { results := [.lit (.bool false)], args := [d1, d2] }
  | _ => none }
def FnMulIsWrongFalsely : Prop := fnMulIsRow.holds Try.pinned (OpenSpec.ofChange fnMulIsWrong)

/-- 'laws.FnRing': WHATEVER THE INPUT: true; the input reads as it did. -/
def fnRingSpec : ChangeSpec := { name := "fnRing", fn := fun _ => fun
  | [d1, d2, d3] => { results := [.lit (.bool true)], args := [d1, d2, d3] }
  | _ => none }
def fnRingRow : OpenClaim := { program := "yteehdjkmjncehaa", sum := "e815441bbdf89e3a95ab04843a4d002bf843077b7dc4f4fce5381d10b8acae7b", func := "loop.example/pub-g03033/laws.FnRing", spec := "fnRing", inPlace := ["math/bits.Add64", "math/bits.Sub64"], named := ["encoding/binary.LittleEndian"], apart := false }
def FnRingSaid : Prop := fnRingRow.holds Try.pinned (OpenSpec.ofChange fnRingSpec)

/-- ITS FALSE NEIGHBOUR: 'it returns false'. Refute it at one input. -/
def fnRingWrong : ChangeSpec := { name := "fnRing", fn := fun _ => fun
  | [d1, d2, d3] => { results := [.lit (.bool false)], args := [d1, d2, d3] }
  | _ => none }
def FnRingWrongFalsely : Prop := fnRingRow.holds Try.pinned (OpenSpec.ofChange fnRingWrong)

/-- 'laws.FnInv': WHATEVER THE INPUT: true; the input reads as it did. -/
def fnInvSpec : ChangeSpec := { name := "fnInv", fn := fun _ => fun
  | [d] => { results := [.lit (.bool true)], args := [d] }
  | _ => none }
def fnInvRow : OpenClaim := { program := "yteehdjkmjncehaa", sum := "e815441bbdf89e3a95ab04843a4d002bf843077b7dc4f4fce5381d10b8acae7b", func := "loop.example/pub-g03033/laws.FnInv", spec := "fnInv", inPlace := ["math/bits.Add64", "math/bits.Sub64"], named := ["encoding/binary.LittleEndian"], apart := false }
def FnInvSaid : Prop := fnInvRow.holds Try.pinned (OpenSpec.ofChange fnInvSpec)

/-- ITS FALSE NEIGHBOUR: 'it returns false'. Refute it at one input. -/
def fnInvWrong : ChangeSpec := { name := "fnInv", fn := fun _ => fun
  | [d] => { results := [.lit (.bool false)], args := [d] }
  | _ => none }
def FnInvWrongFalsely : Prop := fnInvRow.holds Try.pinned (OpenSpec.ofChange fnInvWrong)

/-- 'laws.FnDoubleIs': WHATEVER THE INPUT: true; the input reads as it did. -/
def fnDoubleIsSpec : ChangeSpec := { name := "fnDoubleIs", fn := fun _ => fun
  | [d1, d2] => { results := [.lit (.bool true)], args := [d1, d2] }
  | _ => none }
def fnDoubleIsRow : OpenClaim := { program := "yteehdjkmjncehaa", sum := "e815441bbdf89e3a95ab04843a4d002bf843077b7dc4f4fce5381d10b8acae7b", func := "loop.example/pub-g03033/laws.FnDoubleIs", spec := "fnDoubleIs", inPlace := ["math/bits.Add64", "math/bits.Sub64"], named := ["encoding/binary.LittleEndian"], apart := false }
def FnDoubleIsSaid : Prop := fnDoubleIsRow.holds Try.pinned (OpenSpec.ofChange fnDoubleIsSpec)

/-- ITS FALSE NEIGHBOUR: 'it returns false'. Refute it at one input. -/
def fnDoubleIsWrong : ChangeSpec := { name := "fnDoubleIs", fn := fun _ => fun
  | [d1, d2] => { results := [.lit (.bool false)], args := [d1, d2] }
  | _ => none }
def FnDoubleIsWrongFalsely : Prop := fnDoubleIsRow.holds Try.pinned (OpenSpec.ofChange fnDoubleIsWrong)

/-- 'laws.FnStepIs': WHATEVER THE INPUT: true; the input reads as it did. -/
def fnStepIsSpec : ChangeSpec := { name := "fnStepIs", fn := fun _ => fun
  | [d1, d2] => { results := [.lit (.bool true)], args := [d1, d2] }
  | _ => none }
def fnStepIsRow : OpenClaim := { program := "yteehdjkmjncehaa", sum := "e815441bbdf89e3a95ab04843a4d002bf843077b7dc4f4fce5381d10b8acae7b", func := "loop.example/pub-g03033/laws.FnStepIs", spec := "fnStepIs", inPlace := ["math/bits.Add64", "math/bits.Sub64"], named := ["encoding/binary.LittleEndian"], apart := false }
def FnStepIsSaid : Prop := fnStepIsRow.holds Try.pinned (OpenSpec.ofChange fnStepIsSpec)

/-- ITS FALSE NEIGHBOUR: 'it returns false'. Refute it at one input. -/
def fnStepIsWrong : ChangeSpec := { name := "fnStepIs", fn := fun _ => fun
  | [d1, d2] => { results := [.lit (.bool false)], args := [d1, d2] }
  | _ => none }
def FnStepIsWrongFalsely : Prop := fnStepIsRow.holds Try.pinned (OpenSpec.ofChange fnStepIsWrong)

/-- 'laws.FnInvSqrt': WHATEVER THE INPUT: true; the input reads as it did. -/
def fnInvSqrtSpec : ChangeSpec := { name := "fnInvSqrt", fn := fun _ => fun
  | [d1, d2] => { results := [.lit (.bool true)], args := [d1, d2] }
  | _ => none }
def fnInvSqrtRow : OpenClaim := { program := "yteehdjkmjncehaa", sum := "e815441bbdf89e3a95ab04843a4d002bf843077b7dc4f4fce5381d10b8acae7b", func := "loop.example/pub-g03033/laws.FnInvSqrt", spec := "fnInvSqrt", inPlace := ["math/bits.Add64", "math/bits.Sub64"], named := ["encoding/binary.LittleEndian"], apart := false }
def FnInvSqrtSaid : Prop := fnInvSqrtRow.holds Try.pinned (OpenSpec.ofChange fnInvSqrtSpec)

/-- ITS FALSE NEIGHBOUR: 'it returns false'. Refute it at one input. -/
def fnInvSqrtWrong : ChangeSpec := { name := "fnInvSqrt", fn := fun _ => fun
  | [d1, d2] => { results := [.lit (.bool false)], args := [d1, d2] }
  | _ => none }
def FnInvSqrtWrongFalsely : Prop := fnInvSqrtRow.holds Try.pinned (OpenSpec.ofChange fnInvSqrtWrong)

/- THE SECOND FORM. 'bulk': how many values and letters a reading holds, each counted each time it is reached (what is shared counts as often as it is met; a slice's spare places count too). A statement '..UptoSaid' is the law's where the arguments, and the package variables that the reading takes, are together of bulk at most 1048576: NARROWER than '..Said'. Prove '..Said' where nothing that the law and all that it calls make is longer than what came in: it says more and counts as full. Else prove '..UptoSaid'. A law counts once. -/
mutual
def uptoBulk {H : Type} : DataW H → Nat
  | .lit (.string bytes) => bytes.length + 1
  | .lit _ => 1
  | .nil => 1
  | .ptr d => uptoBulk d + 1
  | .slice elems spare => uptoBulkAll elems + uptoBulkAll spare + 1
  | .agg parts => uptoBulkAll parts + 1
  | .iface _ d => uptoBulk d + 1
  | .map entries => uptoBulkEntries entries + 1
  | .held _ => 1
def uptoBulkAll {H : Type} : List (DataW H) → Nat
  | [] => 0
  | d :: r => uptoBulk d + uptoBulkAll r
def uptoBulkEntries {H : Type} : List (Lit × DataW H) → Nat
  | [] => 0
  | x :: r => uptoBulkEntry x + uptoBulkEntries r
def uptoBulkEntry {H : Type} : Lit × DataW H → Nat
  | (.string bytes, d) => bytes.length + uptoBulk d + 1
  | (_, d) => uptoBulk d + 1
 end
def uptoSmall : (H : Type) → List (DataW H) → Bool := fun _ ds => decide (uptoBulkAll ds ≤ 1048576)
def OpenSpec.upto (s : _root_.Go.ChangeSpec) : _root_.Go.OpenSpec := { _root_.Go.OpenSpec.ofChange s with cond := some uptoSmall }

/-- 'laws.FnClampIs', WHERE WHAT IT READS IS OF BULK AT MOST 1048576: true; the input reads as it did. -/
def fnClampIsUptoRow : OpenClaim := { program := "yteehdjkmjncehaa", sum := "e815441bbdf89e3a95ab04843a4d002bf843077b7dc4f4fce5381d10b8acae7b", func := "loop.example/pub-g03033/laws.FnClampIs", spec := "fnClampIs", apart := false, narrowed := true }
def FnClampIsUptoSaid : Prop := fnClampIsUptoRow.holds Try.pinned (OpenSpec.upto fnClampIsSpec)

/-- 'laws.FnModpIs', WHERE WHAT IT READS IS OF BULK AT MOST 1048576: true; the input reads as it did. -/
def fnModpIsUptoRow : OpenClaim := { program := "yteehdjkmjncehaa", sum := "e815441bbdf89e3a95ab04843a4d002bf843077b7dc4f4fce5381d10b8acae7b", func := "loop.example/pub-g03033/laws.FnModpIs", spec := "fnModpIs", inPlace := ["math/bits.Add64", "math/bits.Sub64"], named := ["encoding/binary.LittleEndian"], apart := false, narrowed := true }
def FnModpIsUptoSaid : Prop := fnModpIsUptoRow.holds Try.pinned (OpenSpec.upto fnModpIsSpec)

/-- 'laws.FnToBytes', WHERE WHAT IT READS IS OF BULK AT MOST 1048576: true; the input reads as it did. -/
def fnToBytesUptoRow : OpenClaim := { program := "yteehdjkmjncehaa", sum := "e815441bbdf89e3a95ab04843a4d002bf843077b7dc4f4fce5381d10b8acae7b", func := "loop.example/pub-g03033/laws.FnToBytes", spec := "fnToBytes", inPlace := ["math/bits.Add64", "math/bits.Sub64"], named := ["encoding/binary.LittleEndian"], apart := false, narrowed := true }
def FnToBytesUptoSaid : Prop := fnToBytesUptoRow.holds Try.pinned (OpenSpec.upto fnToBytesSpec)

/-- 'laws.FnMove', WHERE WHAT IT READS IS OF BULK AT MOST 1048576: true; the input reads as it did. -/
def fnMoveUptoRow : OpenClaim := { program := "yteehdjkmjncehaa", sum := "e815441bbdf89e3a95ab04843a4d002bf843077b7dc4f4fce5381d10b8acae7b", func := "loop.example/pub-g03033/laws.FnMove", spec := "fnMove", named := ["encoding/binary.LittleEndian"], apart := false, narrowed := true }
def FnMoveUptoSaid : Prop := fnMoveUptoRow.holds Try.pinned (OpenSpec.upto fnMoveSpec)

/-- 'laws.FnAddIs', WHERE WHAT IT READS IS OF BULK AT MOST 1048576: true; the input reads as it did. -/
def fnAddIsUptoRow : OpenClaim := { program := "yteehdjkmjncehaa", sum := "e815441bbdf89e3a95ab04843a4d002bf843077b7dc4f4fce5381d10b8acae7b", func := "loop.example/pub-g03033/laws.FnAddIs", spec := "fnAddIs", inPlace := ["math/bits.Add64", "math/bits.Sub64"], named := ["encoding/binary.LittleEndian"], apart := false, narrowed := true }
def FnAddIsUptoSaid : Prop := fnAddIsUptoRow.holds Try.pinned (OpenSpec.upto fnAddIsSpec)

/-- 'laws.FnSubIs', WHERE WHAT IT READS IS OF BULK AT MOST 1048576: true; the input reads as it did. -/
def fnSubIsUptoRow : OpenClaim := { program := "yteehdjkmjncehaa", sum := "e815441bbdf89e3a95ab04843a4d002bf843077b7dc4f4fce5381d10b8acae7b", func := "loop.example/pub-g03033/laws.FnSubIs", spec := "fnSubIs", inPlace := ["math/bits.Sub64", "math/bits.Add64"], named := ["encoding/binary.LittleEndian"], apart := false, narrowed := true }
def FnSubIsUptoSaid : Prop := fnSubIsUptoRow.holds Try.pinned (OpenSpec.upto fnSubIsSpec)

/-- 'laws.FnMulA24Is', WHERE WHAT IT READS IS OF BULK AT MOST 1048576: true; the input reads as it did. -/
def fnMulA24IsUptoRow : OpenClaim := { program := "yteehdjkmjncehaa", sum := "e815441bbdf89e3a95ab04843a4d002bf843077b7dc4f4fce5381d10b8acae7b", func := "loop.example/pub-g03033/laws.FnMulA24Is", spec := "fnMulA24Is", inPlace := ["math/bits.Add64", "math/bits.Sub64"], named := ["encoding/binary.LittleEndian"], apart := false, narrowed := true }
def FnMulA24IsUptoSaid : Prop := fnMulA24IsUptoRow.holds Try.pinned (OpenSpec.upto fnMulA24IsSpec)

/-- 'laws.FnAddSubIs', WHERE WHAT IT READS IS OF BULK AT MOST 1048576: true; the input reads as it did. -/
def fnAddSubIsUptoRow : OpenClaim := { program := "yteehdjkmjncehaa", sum := "e815441bbdf89e3a95ab04843a4d002bf843077b7dc4f4fce5381d10b8acae7b", func := "loop.example/pub-g03033/laws.FnAddSubIs", spec := "fnAddSubIs", inPlace := ["math/bits.Add64", "math/bits.Sub64"], named := ["encoding/binary.LittleEndian"], apart := false, narrowed := true }
def FnAddSubIsUptoSaid : Prop := fnAddSubIsUptoRow.holds Try.pinned (OpenSpec.upto fnAddSubIsSpec)

/-- 'laws.FnSqrIs', WHERE WHAT IT READS IS OF BULK AT MOST 1048576: true; the input reads as it did. -/
def fnSqrIsUptoRow : OpenClaim := { program := "yteehdjkmjncehaa", sum := "e815441bbdf89e3a95ab04843a4d002bf843077b7dc4f4fce5381d10b8acae7b", func := "loop.example/pub-g03033/laws.FnSqrIs", spec := "fnSqrIs", inPlace := ["math/bits.Add64", "math/bits.Sub64"], named := ["encoding/binary.LittleEndian"], apart := false, narrowed := true }
def FnSqrIsUptoSaid : Prop := fnSqrIsUptoRow.holds Try.pinned (OpenSpec.upto fnSqrIsSpec)

/-- 'laws.FnMulIs', WHERE WHAT IT READS IS OF BULK AT MOST 1048576: true; the input reads as it did. -/
def fnMulIsUptoRow : OpenClaim := { program := "yteehdjkmjncehaa", sum := "e815441bbdf89e3a95ab04843a4d002bf843077b7dc4f4fce5381d10b8acae7b", func := "loop.example/pub-g03033/laws.FnMulIs", spec := "fnMulIs", inPlace := ["math/bits.Add64", "math/bits.Sub64"], named := ["encoding/binary.LittleEndian"], apart := false, narrowed := true }
def FnMulIsUptoSaid : Prop := fnMulIsUptoRow.holds Try.pinned (OpenSpec.upto fnMulIsSpec)

/-- 'laws.FnRing', WHERE WHAT IT READS IS OF BULK AT MOST 1048576: true; the input reads as it did. -/
def fnRingUptoRow : OpenClaim := { program := "yteehdjkmjncehaa", sum := "e815441bbdf89e3a95ab04843a4d002bf843077b7dc4f4fce5381d10b8acae7b", func := "loop.example/pub-g03033/laws.FnRing", spec := "fnRing", inPlace := ["math/bits.Add64", "math/bits.Sub64"], named := ["encoding/binary.LittleEndian"], apart := false, narrowed := true }
def FnRingUptoSaid : Prop := fnRingUptoRow.holds Try.pinned (OpenSpec.upto fnRingSpec)

/-- 'laws.FnInv', WHERE WHAT IT READS IS OF BULK AT MOST 1048576: true; the input reads as it did. -/
def fnInvUptoRow : OpenClaim := { program := "yteehdjkmjncehaa", sum := "e815441bbdf89e3a95ab04843a4d002bf843077b7dc4f4fce5381d10b8acae7b", func := "loop.example/pub-g03033/laws.FnInv", spec := "fnInv", inPlace := ["math/bits.Add64", "math/bits.Sub64"], named := ["encoding/binary.LittleEndian"], apart := false, narrowed := true }
def FnInvUptoSaid : Prop := fnInvUptoRow.holds Try.pinned (OpenSpec.upto fnInvSpec)

/-- 'laws.FnDoubleIs', WHERE WHAT IT READS IS OF BULK AT MOST 1048576: true; the input reads as it did. -/
def fnDoubleIsUptoRow : OpenClaim := { program := "yteehdjkmjncehaa", sum := "e815441bbdf89e3a95ab04843a4d002bf843077b7dc4f4fce5381d10b8acae7b", func := "loop.example/pub-g03033/laws.FnDoubleIs", spec := "fnDoubleIs", inPlace := ["math/bits.Add64", "math/bits.Sub64"], named := ["encoding/binary.LittleEndian"], apart := false, narrowed := true }
def FnDoubleIsUptoSaid : Prop := fnDoubleIsUptoRow.holds Try.pinned (OpenSpec.upto fnDoubleIsSpec)

/-- 'laws.FnStepIs', WHERE WHAT IT READS IS OF BULK AT MOST 1048576: true; the input reads as it did. -/
def fnStepIsUptoRow : OpenClaim := { program := "yteehdjkmjncehaa", sum := "e815441bbdf89e3a95ab04843a4d002bf843077b7dc4f4fce5381d10b8acae7b", func := "loop.example/pub-g03033/laws.FnStepIs", spec := "fnStepIs", inPlace := ["math/bits.Add64", "math/bits.Sub64"], named := ["encoding/binary.LittleEndian"], apart := false, narrowed := true }
def FnStepIsUptoSaid : Prop := fnStepIsUptoRow.holds Try.pinned (OpenSpec.upto fnStepIsSpec)

/-- 'laws.FnInvSqrt', WHERE WHAT IT READS IS OF BULK AT MOST 1048576: true; the input reads as it did. -/
def fnInvSqrtUptoRow : OpenClaim := { program := "yteehdjkmjncehaa", sum := "e815441bbdf89e3a95ab04843a4d002bf843077b7dc4f4fce5381d10b8acae7b", func := "loop.example/pub-g03033/laws.FnInvSqrt", spec := "fnInvSqrt", inPlace := ["math/bits.Add64", "math/bits.Sub64"], named := ["encoding/binary.LittleEndian"], apart := false, narrowed := true }
def FnInvSqrtUptoSaid : Prop := fnInvSqrtUptoRow.holds Try.pinned (OpenSpec.upto fnInvSqrtSpec)

end Rows
end Go.Proofs.Yteehdjkmjncehaa
