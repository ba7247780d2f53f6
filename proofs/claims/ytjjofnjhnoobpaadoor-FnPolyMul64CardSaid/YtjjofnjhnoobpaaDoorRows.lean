/-
  NARROWER THAN 'FOR EVERY INPUT', by the rows' own cells (each row's printed sentence says how): FnRoot64: ifaces, laid · FnTells64: laid · FnOf64: ifaces, laid · FnRing64: laid · FnMul64Is: laid · FnEvaluate64: laid · FnAdd64Is: laid · FnStrip64: laid · FnOrder64: laid · FnRootRoad64: ifaces, laid · FnJoin64Is: ifaces, laid · FnInvOf64: ifaces, laid · FnInv64: laid · FnPolySqr64: ifaces, laid · FnBits64: ifaces, laid · FnVec64Is: ifaces, laid · FnNTT64Is: ifaces, laid · FnPolyMul64: ifaces, laid.
  DERIVED. THE GIVEN ROWS OF THIS SEAT. 18 by the template 'for every input the law returns true; each argument reads behind the call as it read before'; 0 by the template 'total and deterministic' (their statements: YtjjofnjhnoobpaaDoorTotals.lean).
  GIVEN WITH THE SEED: the statements are not yours to turn. If you find one false, say at which input.
  Laid BY PROGRAM, IN A SANDBOX (cutbox-rows.mjs): the forced cells as the released guide's own fill.sh prints them over the translation 8152651604b2863a… (all of the seat's roots in one cut). By AI agents, Wed Nov 11 2026. No macro, syntax, notation, axiom, sorry.
-/
import Derived.Test.YtjjofnjhnoobpaaDoorChecked
import GoSem.Claim
import GoSem.ClaimJoined
import GoSem.ClaimMapViews
import Derived.JoinedTies
import Derived.KernelRfl
namespace Go.Proofs.YtjjofnjhnoobpaaDoor
/- THE CELL 'sum', in the pinned program and in every row, IS THE sha256 OF THE DUMP (.gsa) THAT YtjjofnjhnoobpaaDoorProg.lean LOADS. Nothing in Lean hashes anything: it is a label: what it is worth is what the hold of that sum in a sandbox is worth. -/
noncomputable def Tryd.pinned : Pinned := { name := "ytjjofnjhnoobpaadoor", sum := "8152651604b2863a542dfd0cff143329881fac6f2ea5dcd2407ecc1136e48b89", checked := Tryd.checked }
namespace Rows
def none {H : Type} : Left H := { results := [], args := [] }

/- WHAT THE LISTED PACKAGE-LEVEL VARIABLES READ AS WHEN THE CALL BEGINS. Each datum BY PROGRAM (the guide's laid-datum.mjs) off the statement by which the dump's own 'gosem.cut.vars' lays the variable. In a bare row this is a premise. The card (YtjjofnjhnoobpaaDoorCards.lean) ties it to the program's text. -/
def laid_loop_example_pub_g03033_pub_circl_vdaf_fp64_rootOfUnityTwoN {H : Type} : DataW H := .agg [.agg [.lit (.int .u64 4294967295)], .agg [.lit (.int .u64 18446744065119617026)], .agg [.lit (.int .u64 18446744069414518785)], .agg [.lit (.int .u64 18374686475393433601)], .agg [.lit (.int .u64 268435456)], .agg [.lit (.int .u64 18446673700670406657)], .agg [.lit (.int .u64 18446744069414584193)], .agg [.lit (.int .u64 576460752303421440)], .agg [.lit (.int .u64 16576810576923738718)], .agg [.lit (.int .u64 6647628942875889800)], .agg [.lit (.int .u64 10087739294013848503)], .agg [.lit (.int .u64 2135208489130820273)], .agg [.lit (.int .u64 10781050935026037169)], .agg [.lit (.int .u64 3878014442329970502)], .agg [.lit (.int .u64 1205735313231991947)], .agg [.lit (.int .u64 2523909884358325590)], .agg [.lit (.int .u64 13797134855221748930)], .agg [.lit (.int .u64 12267112747022536458)], .agg [.lit (.int .u64 430584883067102937)], .agg [.lit (.int .u64 10135969988448727187)], .agg [.lit (.int .u64 6815045114074884550)], .agg [.lit (.int .u64 3616995587998296759)], .agg [.lit (.int .u64 16605412514144166046)], .agg [.lit (.int .u64 3961981891181468770)], .agg [.lit (.int .u64 14053449032146768478)], .agg [.lit (.int .u64 7984864372213488273)], .agg [.lit (.int .u64 8707395988713065759)], .agg [.lit (.int .u64 10473709294003837707)], .agg [.lit (.int .u64 20904484799587963)], .agg [.lit (.int .u64 11848168407699165279)], .agg [.lit (.int .u64 13288442737737738162)], .agg [.lit (.int .u64 6163429357473536562)], .agg [.lit (.int .u64 15733474329512464024)]]
def laid_loop_example_pub_g03033_pub_circl_vdaf_fp64_ErrRootsOfUnity {H : Type} : DataW H := .iface "*errors.errorString" (.ptr (.agg [.lit (.string [70, 112, 32, 104, 97, 115, 32, 110, 111, 32, 114, 111, 111, 116, 115, 32, 111, 102, 32, 117, 110, 105, 116, 121, 32, 111, 102, 32, 111, 114, 100, 101, 114, 32, 108, 97, 114, 103, 101, 114, 32, 116, 104, 97, 110, 32, 50, 94, 51, 50])]))
def laid_loop_example_pub_g03033_pub_circl_vdaf_fp64_rSquare {H : Type} : DataW H := .agg [.lit (.int .u64 18446744065119617025)]
def laid_loop_example_pub_g03033_pub_circl_vdaf_fp64_ErrFieldEltDecode {H : Type} : DataW H := .iface "*errors.errorString" (.ptr (.agg [.lit (.string [105, 110, 99, 111, 114, 114, 101, 99, 116, 32, 102, 105, 101, 108, 100, 32, 101, 108, 101, 109, 101, 110, 116, 32, 118, 97, 108, 117, 101])]))
def laid_loop_example_pub_g03033_pub_circl_vdaf_fp64_half {H : Type} : DataW H := .agg [.lit (.int .u64 9223372036854775808)]
def laid_loop_example_pub_g03033_pub_circl_vdaf_fp64_inverseInt {H : Type} : DataW H := .agg [.agg [.lit (.int .u64 4294967295)], .agg [.lit (.int .u64 9223372036854775808)], .agg [.lit (.int .u64 1431655765)], .agg [.lit (.int .u64 4611686018427387904)], .agg [.lit (.int .u64 858993459)], .agg [.lit (.int .u64 9223372035423120043)], .agg [.lit (.int .u64 7905747458934102894)], .agg [.lit (.int .u64 2305843009213693952)]]
def laid_loop_example_pub_g03033_pub_circl_vdaf_fp64_ErrMatchLen {H : Type} : DataW H := .iface "*errors.errorString" (.ptr (.agg [.lit (.string [105, 110, 112, 117, 116, 115, 32, 109, 105, 115, 109, 97, 116, 99, 104, 101, 100, 32, 108, 101, 110, 103, 116, 104])]))
def laid_loop_example_pub_g03033_pub_circl_vdaf_fp64_ErrNumberTooLarge {H : Type} : DataW H := .iface "*errors.errorString" (.ptr (.agg [.lit (.string [110, 117, 109, 98, 101, 114, 32, 111, 102, 32, 98, 105, 116, 115, 32, 105, 115, 32, 110, 111, 116, 32, 101, 110, 111, 117, 103, 104, 32, 116, 111, 32, 114, 101, 112, 114, 101, 115, 101, 110, 116, 32, 116, 104, 101, 32, 110, 117, 109, 98, 101, 114])]))
def laid_math_bits_deBruijn32tab {H : Type} : DataW H := .agg [.lit (.int .u8 0), .lit (.int .u8 1), .lit (.int .u8 28), .lit (.int .u8 2), .lit (.int .u8 29), .lit (.int .u8 14), .lit (.int .u8 24), .lit (.int .u8 3), .lit (.int .u8 30), .lit (.int .u8 22), .lit (.int .u8 20), .lit (.int .u8 15), .lit (.int .u8 25), .lit (.int .u8 17), .lit (.int .u8 4), .lit (.int .u8 8), .lit (.int .u8 31), .lit (.int .u8 27), .lit (.int .u8 13), .lit (.int .u8 23), .lit (.int .u8 21), .lit (.int .u8 19), .lit (.int .u8 16), .lit (.int .u8 7), .lit (.int .u8 26), .lit (.int .u8 12), .lit (.int .u8 18), .lit (.int .u8 6), .lit (.int .u8 11), .lit (.int .u8 5), .lit (.int .u8 10), .lit (.int .u8 9)]
def laid_math_bits_deBruijn64tab {H : Type} : DataW H := .agg [.lit (.int .u8 0), .lit (.int .u8 1), .lit (.int .u8 56), .lit (.int .u8 2), .lit (.int .u8 57), .lit (.int .u8 49), .lit (.int .u8 28), .lit (.int .u8 3), .lit (.int .u8 61), .lit (.int .u8 58), .lit (.int .u8 42), .lit (.int .u8 50), .lit (.int .u8 38), .lit (.int .u8 29), .lit (.int .u8 17), .lit (.int .u8 4), .lit (.int .u8 62), .lit (.int .u8 47), .lit (.int .u8 59), .lit (.int .u8 36), .lit (.int .u8 45), .lit (.int .u8 43), .lit (.int .u8 51), .lit (.int .u8 22), .lit (.int .u8 53), .lit (.int .u8 39), .lit (.int .u8 33), .lit (.int .u8 30), .lit (.int .u8 24), .lit (.int .u8 18), .lit (.int .u8 12), .lit (.int .u8 5), .lit (.int .u8 63), .lit (.int .u8 55), .lit (.int .u8 48), .lit (.int .u8 27), .lit (.int .u8 60), .lit (.int .u8 41), .lit (.int .u8 37), .lit (.int .u8 16), .lit (.int .u8 46), .lit (.int .u8 35), .lit (.int .u8 44), .lit (.int .u8 21), .lit (.int .u8 52), .lit (.int .u8 32), .lit (.int .u8 23), .lit (.int .u8 11), .lit (.int .u8 54), .lit (.int .u8 26), .lit (.int .u8 40), .lit (.int .u8 15), .lit (.int .u8 34), .lit (.int .u8 20), .lit (.int .u8 31), .lit (.int .u8 10), .lit (.int .u8 25), .lit (.int .u8 14), .lit (.int .u8 19), .lit (.int .u8 9), .lit (.int .u8 13), .lit (.int .u8 8), .lit (.int .u8 7), .lit (.int .u8 6)]

/-- 'laws.FnRoot64': WHATEVER THE INPUT: true; the input reads as it did. -/
def fnRoot64Spec : ChangeSpec := { name := "fnRoot64", vars := ["loop.example/pub-g03033/pub/circl/vdaf/fp64.ErrRootsOfUnity", "loop.example/pub-g03033/pub/circl/vdaf/fp64.rootOfUnityTwoN"], fn := fun _ => fun
  | [d, g1, g2] => { results := [.lit (.bool true)], args := [d], vars := [g1, g2] }
  | _ => none }
def fnRoot64Row : OpenClaim := { program := "ytjjofnjhnoobpaadoor", sum := "8152651604b2863a542dfd0cff143329881fac6f2ea5dcd2407ecc1136e48b89", func := "loop.example/pub-g03033/laws.FnRoot64", spec := "fnRoot64", inPlace := ["math/bits.Add64", "math/bits.Sub64"], named := ["loop.example/pub-g03033/pub/circl/vdaf/fp64.ErrRootsOfUnity", "loop.example/pub-g03033/pub/circl/vdaf/fp64.rootOfUnityTwoN", "encoding/binary.LittleEndian"], ifaces := true, apart := false, laid := [("loop.example/pub-g03033/pub/circl/vdaf/fp64.rootOfUnityTwoN", laid_loop_example_pub_g03033_pub_circl_vdaf_fp64_rootOfUnityTwoN), ("loop.example/pub-g03033/pub/circl/vdaf/fp64.ErrRootsOfUnity", laid_loop_example_pub_g03033_pub_circl_vdaf_fp64_ErrRootsOfUnity)] }
def FnRoot64Said : Prop := fnRoot64Row.holds Tryd.pinned (OpenSpec.ofChange fnRoot64Spec)

/-- ITS FALSE NEIGHBOUR: 'it returns false'. Refute it at one input. -/
def fnRoot64Wrong : ChangeSpec := { name := "fnRoot64", vars := ["loop.example/pub-g03033/pub/circl/vdaf/fp64.ErrRootsOfUnity", "loop.example/pub-g03033/pub/circl/vdaf/fp64.rootOfUnityTwoN"], fn := fun _ => fun
  | [d, g1, g2] => { results := [.lit (.bool false)], args := [d], vars := [g1, g2] }
  | _ => none }
def FnRoot64WrongFalsely : Prop := fnRoot64Row.holds Tryd.pinned (OpenSpec.ofChange fnRoot64Wrong)

/-- 'laws.FnTells64': WHATEVER THE INPUT: true; the input reads as it did. -/
def fnTells64Spec : ChangeSpec := { name := "fnTells64", vars := ["loop.example/pub-g03033/pub/circl/vdaf/fp64.rSquare", "loop.example/pub-g03033/pub/circl/vdaf/fp64.rootOfUnityTwoN"], fn := fun _ => fun
  | [d1, d2, g1, g2] => { results := [.lit (.bool true)], args := [d1, d2], vars := [g1, g2] }
  | _ => none }
def fnTells64Row : OpenClaim := { program := "ytjjofnjhnoobpaadoor", sum := "8152651604b2863a542dfd0cff143329881fac6f2ea5dcd2407ecc1136e48b89", func := "loop.example/pub-g03033/laws.FnTells64", spec := "fnTells64", inPlace := ["math/bits.Add64", "math/bits.Sub64", "crypto/internal/constanttime.boolToUint8"], named := ["encoding/binary.LittleEndian", "loop.example/pub-g03033/pub/circl/vdaf/fp64.rSquare", "loop.example/pub-g03033/pub/circl/vdaf/fp64.rootOfUnityTwoN"], apart := false, laid := [("loop.example/pub-g03033/pub/circl/vdaf/fp64.rSquare", laid_loop_example_pub_g03033_pub_circl_vdaf_fp64_rSquare), ("loop.example/pub-g03033/pub/circl/vdaf/fp64.rootOfUnityTwoN", laid_loop_example_pub_g03033_pub_circl_vdaf_fp64_rootOfUnityTwoN)] }
def FnTells64Said : Prop := fnTells64Row.holds Tryd.pinned (OpenSpec.ofChange fnTells64Spec)

/-- ITS FALSE NEIGHBOUR: 'it returns false'. Refute it at one input. -/
def fnTells64Wrong : ChangeSpec := { name := "fnTells64", vars := ["loop.example/pub-g03033/pub/circl/vdaf/fp64.rSquare", "loop.example/pub-g03033/pub/circl/vdaf/fp64.rootOfUnityTwoN"], fn := fun _ => fun
  | [d1, d2, g1, g2] => { results := [.lit (.bool false)], args := [d1, d2], vars := [g1, g2] }
  | _ => none }
def FnTells64WrongFalsely : Prop := fnTells64Row.holds Tryd.pinned (OpenSpec.ofChange fnTells64Wrong)

/-- 'laws.FnOf64': WHATEVER THE INPUT: true; the input reads as it did. -/
def fnOf64Spec : ChangeSpec := { name := "fnOf64", vars := ["loop.example/pub-g03033/pub/circl/vdaf/fp64.ErrFieldEltDecode", "loop.example/pub-g03033/pub/circl/vdaf/fp64.rSquare"], fn := fun _ => fun
  | [d1, d2, g1, g2] => { results := [.lit (.bool true)], args := [d1, d2], vars := [g1, g2] }
  | _ => none }
def fnOf64Row : OpenClaim := { program := "ytjjofnjhnoobpaadoor", sum := "8152651604b2863a542dfd0cff143329881fac6f2ea5dcd2407ecc1136e48b89", func := "loop.example/pub-g03033/laws.FnOf64", spec := "fnOf64", inPlace := ["math/bits.Add64", "math/bits.Sub64"], named := ["loop.example/pub-g03033/pub/circl/vdaf/fp64.ErrFieldEltDecode", "loop.example/pub-g03033/pub/circl/vdaf/fp64.rSquare", "encoding/binary.LittleEndian"], ifaces := true, apart := false, laid := [("loop.example/pub-g03033/pub/circl/vdaf/fp64.rSquare", laid_loop_example_pub_g03033_pub_circl_vdaf_fp64_rSquare), ("loop.example/pub-g03033/pub/circl/vdaf/fp64.ErrFieldEltDecode", laid_loop_example_pub_g03033_pub_circl_vdaf_fp64_ErrFieldEltDecode)] }
def FnOf64Said : Prop := fnOf64Row.holds Tryd.pinned (OpenSpec.ofChange fnOf64Spec)

/-- ITS FALSE NEIGHBOUR: 'it returns false'. Refute it at one input. -/
def fnOf64Wrong : ChangeSpec := { name := "fnOf64", vars := ["loop.example/pub-g03033/pub/circl/vdaf/fp64.ErrFieldEltDecode", "loop.example/pub-g03033/pub/circl/vdaf/fp64.rSquare"], fn := fun _ => fun
  | [d1, d2, g1, g2] => { results := [.lit (.bool false)], args := [d1, d2], vars := [g1, g2] }
  | _ => none }
def FnOf64WrongFalsely : Prop := fnOf64Row.holds Tryd.pinned (OpenSpec.ofChange fnOf64Wrong)

/-- 'laws.FnRing64': WHATEVER THE INPUT: true; the input reads as it did. -/
def fnRing64Spec : ChangeSpec := { name := "fnRing64", vars := ["loop.example/pub-g03033/pub/circl/vdaf/fp64.rSquare"], fn := fun _ => fun
  | [d1, d2, d3, g1] => { results := [.lit (.bool true)], args := [d1, d2, d3], vars := [g1] }
  | _ => none }
def fnRing64Row : OpenClaim := { program := "ytjjofnjhnoobpaadoor", sum := "8152651604b2863a542dfd0cff143329881fac6f2ea5dcd2407ecc1136e48b89", func := "loop.example/pub-g03033/laws.FnRing64", spec := "fnRing64", inPlace := ["math/bits.Add64", "math/bits.Sub64"], named := ["encoding/binary.LittleEndian", "loop.example/pub-g03033/pub/circl/vdaf/fp64.rSquare"], apart := false, laid := [("loop.example/pub-g03033/pub/circl/vdaf/fp64.rSquare", laid_loop_example_pub_g03033_pub_circl_vdaf_fp64_rSquare)] }
def FnRing64Said : Prop := fnRing64Row.holds Tryd.pinned (OpenSpec.ofChange fnRing64Spec)

/-- ITS FALSE NEIGHBOUR: 'it returns false'. Refute it at one input. -/
def fnRing64Wrong : ChangeSpec := { name := "fnRing64", vars := ["loop.example/pub-g03033/pub/circl/vdaf/fp64.rSquare"], fn := fun _ => fun
  | [d1, d2, d3, g1] => { results := [.lit (.bool false)], args := [d1, d2, d3], vars := [g1] }
  | _ => none }
def FnRing64WrongFalsely : Prop := fnRing64Row.holds Tryd.pinned (OpenSpec.ofChange fnRing64Wrong)

/-- 'laws.FnMul64Is': WHATEVER THE INPUT: true; the input reads as it did. -/
def fnMul64IsSpec : ChangeSpec := { name := "fnMul64Is", vars := ["loop.example/pub-g03033/pub/circl/vdaf/fp64.rSquare"], fn := fun _ => fun
  | [d1, d2, g1] => { results := [.lit (.bool true)], args := [d1, d2], vars := [g1] }
  | _ => none }
def fnMul64IsRow : OpenClaim := { program := "ytjjofnjhnoobpaadoor", sum := "8152651604b2863a542dfd0cff143329881fac6f2ea5dcd2407ecc1136e48b89", func := "loop.example/pub-g03033/laws.FnMul64Is", spec := "fnMul64Is", inPlace := ["math/bits.Add64", "math/bits.Sub64"], named := ["encoding/binary.LittleEndian", "loop.example/pub-g03033/pub/circl/vdaf/fp64.rSquare"], apart := false, laid := [("loop.example/pub-g03033/pub/circl/vdaf/fp64.rSquare", laid_loop_example_pub_g03033_pub_circl_vdaf_fp64_rSquare)] }
def FnMul64IsSaid : Prop := fnMul64IsRow.holds Tryd.pinned (OpenSpec.ofChange fnMul64IsSpec)

/-- ITS FALSE NEIGHBOUR: 'it returns false'. Refute it at one input. -/
def fnMul64IsWrong : ChangeSpec := { name := "fnMul64Is", vars := ["loop.example/pub-g03033/pub/circl/vdaf/fp64.rSquare"], fn := fun _ => fun
  | [d1, d2, g1] => { results := [.lit (.bool false)], args := [d1, d2], vars := [g1] }
  | _ => none }
def FnMul64IsWrongFalsely : Prop := fnMul64IsRow.holds Tryd.pinned (OpenSpec.ofChange fnMul64IsWrong)

/-- 'laws.FnEvaluate64': WHATEVER THE INPUT: true; the input reads as it did. -/
def fnEvaluate64Spec : ChangeSpec := { name := "fnEvaluate64", vars := ["loop.example/pub-g03033/pub/circl/vdaf/fp64.rSquare"], fn := fun _ => fun
  | [d1, d2, g1] => { results := [.lit (.bool true)], args := [d1, d2], vars := [g1] }
  | _ => none }
def fnEvaluate64Row : OpenClaim := { program := "ytjjofnjhnoobpaadoor", sum := "8152651604b2863a542dfd0cff143329881fac6f2ea5dcd2407ecc1136e48b89", func := "loop.example/pub-g03033/laws.FnEvaluate64", spec := "fnEvaluate64", inPlace := ["math/bits.Add64", "math/bits.Sub64"], named := ["encoding/binary.LittleEndian", "loop.example/pub-g03033/pub/circl/vdaf/fp64.rSquare"], apart := false, laid := [("loop.example/pub-g03033/pub/circl/vdaf/fp64.rSquare", laid_loop_example_pub_g03033_pub_circl_vdaf_fp64_rSquare)] }
def FnEvaluate64Said : Prop := fnEvaluate64Row.holds Tryd.pinned (OpenSpec.ofChange fnEvaluate64Spec)

/-- ITS FALSE NEIGHBOUR: 'it returns false'. Refute it at one input. -/
def fnEvaluate64Wrong : ChangeSpec := { name := "fnEvaluate64", vars := ["loop.example/pub-g03033/pub/circl/vdaf/fp64.rSquare"], fn := fun _ => fun
  | [d1, d2, g1] => { results := [.lit (.bool false)], args := [d1, d2], vars := [g1] }
  | _ => none }
def FnEvaluate64WrongFalsely : Prop := fnEvaluate64Row.holds Tryd.pinned (OpenSpec.ofChange fnEvaluate64Wrong)

/-- 'laws.FnAdd64Is': WHATEVER THE INPUT: true; the input reads as it did. -/
def fnAdd64IsSpec : ChangeSpec := { name := "fnAdd64Is", vars := ["loop.example/pub-g03033/pub/circl/vdaf/fp64.rSquare"], fn := fun _ => fun
  | [d1, d2, g1] => { results := [.lit (.bool true)], args := [d1, d2], vars := [g1] }
  | _ => none }
def fnAdd64IsRow : OpenClaim := { program := "ytjjofnjhnoobpaadoor", sum := "8152651604b2863a542dfd0cff143329881fac6f2ea5dcd2407ecc1136e48b89", func := "loop.example/pub-g03033/laws.FnAdd64Is", spec := "fnAdd64Is", inPlace := ["math/bits.Add64", "math/bits.Sub64"], named := ["encoding/binary.LittleEndian", "loop.example/pub-g03033/pub/circl/vdaf/fp64.rSquare"], apart := false, laid := [("loop.example/pub-g03033/pub/circl/vdaf/fp64.rSquare", laid_loop_example_pub_g03033_pub_circl_vdaf_fp64_rSquare)] }
def FnAdd64IsSaid : Prop := fnAdd64IsRow.holds Tryd.pinned (OpenSpec.ofChange fnAdd64IsSpec)

/-- ITS FALSE NEIGHBOUR: 'it returns false'. Refute it at one input. -/
def fnAdd64IsWrong : ChangeSpec := { name := "fnAdd64Is", vars := ["loop.example/pub-g03033/pub/circl/vdaf/fp64.rSquare"], fn := fun _ => fun
  | [d1, d2, g1] => { results := [.lit (.bool false)], args := [d1, d2], vars := [g1] }
  | _ => none }
def FnAdd64IsWrongFalsely : Prop := fnAdd64IsRow.holds Tryd.pinned (OpenSpec.ofChange fnAdd64IsWrong)

/-- 'laws.FnStrip64': WHATEVER THE INPUT: true; the input reads as it did. -/
def fnStrip64Spec : ChangeSpec := { name := "fnStrip64", vars := ["loop.example/pub-g03033/pub/circl/vdaf/fp64.rSquare"], fn := fun _ => fun
  | [d, g1] => { results := [.lit (.bool true)], args := [d], vars := [g1] }
  | _ => none }
def fnStrip64Row : OpenClaim := { program := "ytjjofnjhnoobpaadoor", sum := "8152651604b2863a542dfd0cff143329881fac6f2ea5dcd2407ecc1136e48b89", func := "loop.example/pub-g03033/laws.FnStrip64", spec := "fnStrip64", inPlace := ["math/bits.Add64", "math/bits.Sub64", "crypto/internal/constanttime.boolToUint8"], named := ["encoding/binary.LittleEndian", "loop.example/pub-g03033/pub/circl/vdaf/fp64.rSquare"], apart := false, laid := [("loop.example/pub-g03033/pub/circl/vdaf/fp64.rSquare", laid_loop_example_pub_g03033_pub_circl_vdaf_fp64_rSquare)] }
def FnStrip64Said : Prop := fnStrip64Row.holds Tryd.pinned (OpenSpec.ofChange fnStrip64Spec)

/-- ITS FALSE NEIGHBOUR: 'it returns false'. Refute it at one input. -/
def fnStrip64Wrong : ChangeSpec := { name := "fnStrip64", vars := ["loop.example/pub-g03033/pub/circl/vdaf/fp64.rSquare"], fn := fun _ => fun
  | [d, g1] => { results := [.lit (.bool false)], args := [d], vars := [g1] }
  | _ => none }
def FnStrip64WrongFalsely : Prop := fnStrip64Row.holds Tryd.pinned (OpenSpec.ofChange fnStrip64Wrong)

/-- 'laws.FnOrder64': WHATEVER THE INPUT: true; the input reads as it did. -/
def fnOrder64Spec : ChangeSpec := { name := "fnOrder64", vars := ["loop.example/pub-g03033/pub/circl/vdaf/fp64.rSquare"], fn := fun _ => fun
  | [d, g1] => { results := [.lit (.bool true)], args := [d], vars := [g1] }
  | _ => none }
def fnOrder64Row : OpenClaim := { program := "ytjjofnjhnoobpaadoor", sum := "8152651604b2863a542dfd0cff143329881fac6f2ea5dcd2407ecc1136e48b89", func := "loop.example/pub-g03033/laws.FnOrder64", spec := "fnOrder64", inPlace := ["math/bits.Add64", "math/bits.Sub64"], named := ["encoding/binary.BigEndian", "encoding/binary.LittleEndian", "loop.example/pub-g03033/pub/circl/vdaf/fp64.rSquare"], apart := false, laid := [("loop.example/pub-g03033/pub/circl/vdaf/fp64.rSquare", laid_loop_example_pub_g03033_pub_circl_vdaf_fp64_rSquare)] }
def FnOrder64Said : Prop := fnOrder64Row.holds Tryd.pinned (OpenSpec.ofChange fnOrder64Spec)

/-- ITS FALSE NEIGHBOUR: 'it returns false'. Refute it at one input. -/
def fnOrder64Wrong : ChangeSpec := { name := "fnOrder64", vars := ["loop.example/pub-g03033/pub/circl/vdaf/fp64.rSquare"], fn := fun _ => fun
  | [d, g1] => { results := [.lit (.bool false)], args := [d], vars := [g1] }
  | _ => none }
def FnOrder64WrongFalsely : Prop := fnOrder64Row.holds Tryd.pinned (OpenSpec.ofChange fnOrder64Wrong)

/-- 'laws.FnRootRoad64': WHATEVER THE INPUT: true; the input reads as it did. -/
def fnRootRoad64Spec : ChangeSpec := { name := "fnRootRoad64", vars := ["loop.example/pub-g03033/pub/circl/vdaf/fp64.ErrRootsOfUnity", "loop.example/pub-g03033/pub/circl/vdaf/fp64.rootOfUnityTwoN", "loop.example/pub-g03033/pub/circl/vdaf/fp64.rSquare"], fn := fun _ => fun
  | [d, g1, g2, g3] => { results := [.lit (.bool true)], args := [d], vars := [g1, g2, g3] }
  | _ => none }
def fnRootRoad64Row : OpenClaim := { program := "ytjjofnjhnoobpaadoor", sum := "8152651604b2863a542dfd0cff143329881fac6f2ea5dcd2407ecc1136e48b89", func := "loop.example/pub-g03033/laws.FnRootRoad64", spec := "fnRootRoad64", inPlace := ["math/bits.Add64", "math/bits.Sub64"], named := ["loop.example/pub-g03033/pub/circl/vdaf/fp64.ErrRootsOfUnity", "loop.example/pub-g03033/pub/circl/vdaf/fp64.rootOfUnityTwoN", "encoding/binary.LittleEndian", "loop.example/pub-g03033/pub/circl/vdaf/fp64.rSquare"], ifaces := true, apart := false, laid := [("loop.example/pub-g03033/pub/circl/vdaf/fp64.rSquare", laid_loop_example_pub_g03033_pub_circl_vdaf_fp64_rSquare), ("loop.example/pub-g03033/pub/circl/vdaf/fp64.rootOfUnityTwoN", laid_loop_example_pub_g03033_pub_circl_vdaf_fp64_rootOfUnityTwoN), ("loop.example/pub-g03033/pub/circl/vdaf/fp64.ErrRootsOfUnity", laid_loop_example_pub_g03033_pub_circl_vdaf_fp64_ErrRootsOfUnity)] }
def FnRootRoad64Said : Prop := fnRootRoad64Row.holds Tryd.pinned (OpenSpec.ofChange fnRootRoad64Spec)

/-- ITS FALSE NEIGHBOUR: 'it returns false'. Refute it at one input. -/
def fnRootRoad64Wrong : ChangeSpec := { name := "fnRootRoad64", vars := ["loop.example/pub-g03033/pub/circl/vdaf/fp64.ErrRootsOfUnity", "loop.example/pub-g03033/pub/circl/vdaf/fp64.rootOfUnityTwoN", "loop.example/pub-g03033/pub/circl/vdaf/fp64.rSquare"], fn := fun _ => fun
  | [d, g1, g2, g3] => { results := [.lit (.bool false)], args := [d], vars := [g1, g2, g3] }
  | _ => none }
def FnRootRoad64WrongFalsely : Prop := fnRootRoad64Row.holds Tryd.pinned (OpenSpec.ofChange fnRootRoad64Wrong)

/-- 'laws.FnJoin64Is': WHATEVER THE INPUT: true; the input reads as it did. -/
def fnJoin64IsSpec : ChangeSpec := { name := "fnJoin64Is", vars := ["loop.example/pub-g03033/pub/circl/vdaf/fp64.rSquare", "loop.example/pub-g03033/pub/circl/vdaf/fp64.ErrFieldEltDecode"], fn := fun _ => fun
  | [d, g1, g2] => { results := [.lit (.bool true)], args := [d], vars := [g1, g2] }
  | _ => none }
def fnJoin64IsRow : OpenClaim := { program := "ytjjofnjhnoobpaadoor", sum := "8152651604b2863a542dfd0cff143329881fac6f2ea5dcd2407ecc1136e48b89", func := "loop.example/pub-g03033/laws.FnJoin64Is", spec := "fnJoin64Is", inPlace := ["math/bits.Add64", "math/bits.Sub64"], named := ["encoding/binary.LittleEndian", "loop.example/pub-g03033/pub/circl/vdaf/fp64.rSquare", "loop.example/pub-g03033/pub/circl/vdaf/fp64.ErrFieldEltDecode"], ifaces := true, apart := false, laid := [("loop.example/pub-g03033/pub/circl/vdaf/fp64.rSquare", laid_loop_example_pub_g03033_pub_circl_vdaf_fp64_rSquare), ("loop.example/pub-g03033/pub/circl/vdaf/fp64.ErrFieldEltDecode", laid_loop_example_pub_g03033_pub_circl_vdaf_fp64_ErrFieldEltDecode)] }
def FnJoin64IsSaid : Prop := fnJoin64IsRow.holds Tryd.pinned (OpenSpec.ofChange fnJoin64IsSpec)

/-- ITS FALSE NEIGHBOUR: 'it returns false'. Refute it at one input. -/
def fnJoin64IsWrong : ChangeSpec := { name := "fnJoin64Is", vars := ["loop.example/pub-g03033/pub/circl/vdaf/fp64.rSquare", "loop.example/pub-g03033/pub/circl/vdaf/fp64.ErrFieldEltDecode"], fn := fun _ => fun
  | [d, g1, g2] => { results := [.lit (.bool false)], args := [d], vars := [g1, g2] }
  | _ => none }
def FnJoin64IsWrongFalsely : Prop := fnJoin64IsRow.holds Tryd.pinned (OpenSpec.ofChange fnJoin64IsWrong)

/-- 'laws.FnInvOf64': WHATEVER THE INPUT: true; the input reads as it did. -/
def fnInvOf64Spec : ChangeSpec := { name := "fnInvOf64", vars := ["loop.example/pub-g03033/pub/circl/vdaf/fp64.inverseInt", "loop.example/pub-g03033/pub/circl/vdaf/fp64.ErrFieldEltDecode", "loop.example/pub-g03033/pub/circl/vdaf/fp64.rSquare", "loop.example/pub-g03033/pub/circl/vdaf/fp64.half", "loop.example/pub-g03033/pub/circl/vdaf/fp64.rootOfUnityTwoN"], fn := fun _ => fun
  | [d1, d2, g1, g2, g3, g4, g5] => { results := [.lit (.bool true)], args := [d1, d2], vars := [g1, g2, g3, g4, g5] }
  | _ => none }
def fnInvOf64Row : OpenClaim := { program := "ytjjofnjhnoobpaadoor", sum := "8152651604b2863a542dfd0cff143329881fac6f2ea5dcd2407ecc1136e48b89", func := "loop.example/pub-g03033/laws.FnInvOf64", spec := "fnInvOf64", inPlace := ["math/bits.Add64", "math/bits.Sub64"], named := ["loop.example/pub-g03033/pub/circl/vdaf/fp64.inverseInt", "loop.example/pub-g03033/pub/circl/vdaf/fp64.ErrFieldEltDecode", "loop.example/pub-g03033/pub/circl/vdaf/fp64.rSquare", "encoding/binary.LittleEndian", "loop.example/pub-g03033/pub/circl/vdaf/fp64.half", "loop.example/pub-g03033/pub/circl/vdaf/fp64.rootOfUnityTwoN"], ifaces := true, apart := false, laid := [("loop.example/pub-g03033/pub/circl/vdaf/fp64.rSquare", laid_loop_example_pub_g03033_pub_circl_vdaf_fp64_rSquare), ("loop.example/pub-g03033/pub/circl/vdaf/fp64.half", laid_loop_example_pub_g03033_pub_circl_vdaf_fp64_half), ("loop.example/pub-g03033/pub/circl/vdaf/fp64.rootOfUnityTwoN", laid_loop_example_pub_g03033_pub_circl_vdaf_fp64_rootOfUnityTwoN), ("loop.example/pub-g03033/pub/circl/vdaf/fp64.inverseInt", laid_loop_example_pub_g03033_pub_circl_vdaf_fp64_inverseInt), ("loop.example/pub-g03033/pub/circl/vdaf/fp64.ErrFieldEltDecode", laid_loop_example_pub_g03033_pub_circl_vdaf_fp64_ErrFieldEltDecode)] }
def FnInvOf64Said : Prop := fnInvOf64Row.holds Tryd.pinned (OpenSpec.ofChange fnInvOf64Spec)

/-- ITS FALSE NEIGHBOUR: 'it returns false'. Refute it at one input. -/
def fnInvOf64Wrong : ChangeSpec := { name := "fnInvOf64", vars := ["loop.example/pub-g03033/pub/circl/vdaf/fp64.inverseInt", "loop.example/pub-g03033/pub/circl/vdaf/fp64.ErrFieldEltDecode", "loop.example/pub-g03033/pub/circl/vdaf/fp64.rSquare", "loop.example/pub-g03033/pub/circl/vdaf/fp64.half", "loop.example/pub-g03033/pub/circl/vdaf/fp64.rootOfUnityTwoN"], fn := fun _ => fun
  | [d1, d2, g1, g2, g3, g4, g5] => { results := [.lit (.bool false)], args := [d1, d2], vars := [g1, g2, g3, g4, g5] }
  | _ => none }
def FnInvOf64WrongFalsely : Prop := fnInvOf64Row.holds Tryd.pinned (OpenSpec.ofChange fnInvOf64Wrong)

/-- 'laws.FnInv64': WHATEVER THE INPUT: true; the input reads as it did. -/
def fnInv64Spec : ChangeSpec := { name := "fnInv64", vars := ["loop.example/pub-g03033/pub/circl/vdaf/fp64.rSquare", "loop.example/pub-g03033/pub/circl/vdaf/fp64.rootOfUnityTwoN"], fn := fun _ => fun
  | [d, g1, g2] => { results := [.lit (.bool true)], args := [d], vars := [g1, g2] }
  | _ => none }
def fnInv64Row : OpenClaim := { program := "ytjjofnjhnoobpaadoor", sum := "8152651604b2863a542dfd0cff143329881fac6f2ea5dcd2407ecc1136e48b89", func := "loop.example/pub-g03033/laws.FnInv64", spec := "fnInv64", inPlace := ["math/bits.Add64", "math/bits.Sub64"], named := ["encoding/binary.LittleEndian", "loop.example/pub-g03033/pub/circl/vdaf/fp64.rSquare", "loop.example/pub-g03033/pub/circl/vdaf/fp64.rootOfUnityTwoN"], apart := false, laid := [("loop.example/pub-g03033/pub/circl/vdaf/fp64.rSquare", laid_loop_example_pub_g03033_pub_circl_vdaf_fp64_rSquare), ("loop.example/pub-g03033/pub/circl/vdaf/fp64.rootOfUnityTwoN", laid_loop_example_pub_g03033_pub_circl_vdaf_fp64_rootOfUnityTwoN)] }
def FnInv64Said : Prop := fnInv64Row.holds Tryd.pinned (OpenSpec.ofChange fnInv64Spec)

/-- ITS FALSE NEIGHBOUR: 'it returns false'. Refute it at one input. -/
def fnInv64Wrong : ChangeSpec := { name := "fnInv64", vars := ["loop.example/pub-g03033/pub/circl/vdaf/fp64.rSquare", "loop.example/pub-g03033/pub/circl/vdaf/fp64.rootOfUnityTwoN"], fn := fun _ => fun
  | [d, g1, g2] => { results := [.lit (.bool false)], args := [d], vars := [g1, g2] }
  | _ => none }
def FnInv64WrongFalsely : Prop := fnInv64Row.holds Tryd.pinned (OpenSpec.ofChange fnInv64Wrong)

/-- 'laws.FnPolySqr64': WHATEVER THE INPUT: true; the input reads as it did. -/
def fnPolySqr64Spec : ChangeSpec := { name := "fnPolySqr64", vars := ["loop.example/pub-g03033/pub/circl/vdaf/fp64.rSquare", "loop.example/pub-g03033/pub/circl/vdaf/fp64.ErrMatchLen"], fn := fun _ => fun
  | [d, g1, g2] => { results := [.lit (.bool true)], args := [d], vars := [g1, g2] }
  | _ => none }
def fnPolySqr64Row : OpenClaim := { program := "ytjjofnjhnoobpaadoor", sum := "8152651604b2863a542dfd0cff143329881fac6f2ea5dcd2407ecc1136e48b89", func := "loop.example/pub-g03033/laws.FnPolySqr64", spec := "fnPolySqr64", inPlace := ["math/bits.Add64", "math/bits.Sub64"], named := ["encoding/binary.LittleEndian", "loop.example/pub-g03033/pub/circl/vdaf/fp64.rSquare", "loop.example/pub-g03033/pub/circl/vdaf/fp64.ErrMatchLen"], ifaces := true, apart := false, laid := [("loop.example/pub-g03033/pub/circl/vdaf/fp64.rSquare", laid_loop_example_pub_g03033_pub_circl_vdaf_fp64_rSquare), ("loop.example/pub-g03033/pub/circl/vdaf/fp64.ErrMatchLen", laid_loop_example_pub_g03033_pub_circl_vdaf_fp64_ErrMatchLen)] }
def FnPolySqr64Said : Prop := fnPolySqr64Row.holds Tryd.pinned (OpenSpec.ofChange fnPolySqr64Spec)

/-- ITS FALSE NEIGHBOUR: 'it returns false'. Refute it at one input. -/
def fnPolySqr64Wrong : ChangeSpec := { name := "fnPolySqr64", vars := ["loop.example/pub-g03033/pub/circl/vdaf/fp64.rSquare", "loop.example/pub-g03033/pub/circl/vdaf/fp64.ErrMatchLen"], fn := fun _ => fun
  | [d, g1, g2] => { results := [.lit (.bool false)], args := [d], vars := [g1, g2] }
  | _ => none }
def FnPolySqr64WrongFalsely : Prop := fnPolySqr64Row.holds Tryd.pinned (OpenSpec.ofChange fnPolySqr64Wrong)

/-- 'laws.FnBits64': WHATEVER THE INPUT: true; the input reads as it did. -/
def fnBits64Spec : ChangeSpec := { name := "fnBits64", vars := ["loop.example/pub-g03033/pub/circl/vdaf/fp64.ErrNumberTooLarge", "loop.example/pub-g03033/pub/circl/vdaf/fp64.rootOfUnityTwoN", "loop.example/pub-g03033/pub/circl/vdaf/fp64.rSquare", "loop.example/pub-g03033/pub/circl/vdaf/fp64.ErrFieldEltDecode"], fn := fun _ => fun
  | [d1, d2, g1, g2, g3, g4] => { results := [.lit (.bool true)], args := [d1, d2], vars := [g1, g2, g3, g4] }
  | _ => none }
def fnBits64Row : OpenClaim := { program := "ytjjofnjhnoobpaadoor", sum := "8152651604b2863a542dfd0cff143329881fac6f2ea5dcd2407ecc1136e48b89", func := "loop.example/pub-g03033/laws.FnBits64", spec := "fnBits64", inPlace := ["math/bits.Add64", "math/bits.Sub64"], named := ["loop.example/pub-g03033/pub/circl/vdaf/fp64.ErrNumberTooLarge", "loop.example/pub-g03033/pub/circl/vdaf/fp64.rootOfUnityTwoN", "encoding/binary.LittleEndian", "loop.example/pub-g03033/pub/circl/vdaf/fp64.rSquare", "loop.example/pub-g03033/pub/circl/vdaf/fp64.ErrFieldEltDecode"], ifaces := true, apart := false, laid := [("loop.example/pub-g03033/pub/circl/vdaf/fp64.rSquare", laid_loop_example_pub_g03033_pub_circl_vdaf_fp64_rSquare), ("loop.example/pub-g03033/pub/circl/vdaf/fp64.rootOfUnityTwoN", laid_loop_example_pub_g03033_pub_circl_vdaf_fp64_rootOfUnityTwoN), ("loop.example/pub-g03033/pub/circl/vdaf/fp64.ErrFieldEltDecode", laid_loop_example_pub_g03033_pub_circl_vdaf_fp64_ErrFieldEltDecode), ("loop.example/pub-g03033/pub/circl/vdaf/fp64.ErrNumberTooLarge", laid_loop_example_pub_g03033_pub_circl_vdaf_fp64_ErrNumberTooLarge)] }
def FnBits64Said : Prop := fnBits64Row.holds Tryd.pinned (OpenSpec.ofChange fnBits64Spec)

/-- ITS FALSE NEIGHBOUR: 'it returns false'. Refute it at one input. -/
def fnBits64Wrong : ChangeSpec := { name := "fnBits64", vars := ["loop.example/pub-g03033/pub/circl/vdaf/fp64.ErrNumberTooLarge", "loop.example/pub-g03033/pub/circl/vdaf/fp64.rootOfUnityTwoN", "loop.example/pub-g03033/pub/circl/vdaf/fp64.rSquare", "loop.example/pub-g03033/pub/circl/vdaf/fp64.ErrFieldEltDecode"], fn := fun _ => fun
  | [d1, d2, g1, g2, g3, g4] => { results := [.lit (.bool false)], args := [d1, d2], vars := [g1, g2, g3, g4] }
  | _ => none }
def FnBits64WrongFalsely : Prop := fnBits64Row.holds Tryd.pinned (OpenSpec.ofChange fnBits64Wrong)

/-- 'laws.FnVec64Is': WHATEVER THE INPUT: true; the input reads as it did. -/
def fnVec64IsSpec : ChangeSpec := { name := "fnVec64Is", vars := ["loop.example/pub-g03033/pub/circl/vdaf/fp64.rSquare", "loop.example/pub-g03033/pub/circl/vdaf/fp64.ErrMatchLen"], fn := fun _ => fun
  | [d1, d2, d3, g1, g2] => { results := [.lit (.bool true)], args := [d1, d2, d3], vars := [g1, g2] }
  | _ => none }
def fnVec64IsRow : OpenClaim := { program := "ytjjofnjhnoobpaadoor", sum := "8152651604b2863a542dfd0cff143329881fac6f2ea5dcd2407ecc1136e48b89", func := "loop.example/pub-g03033/laws.FnVec64Is", spec := "fnVec64Is", inPlace := ["math/bits.Add64", "math/bits.Sub64"], named := ["encoding/binary.LittleEndian", "loop.example/pub-g03033/pub/circl/vdaf/fp64.rSquare", "loop.example/pub-g03033/pub/circl/vdaf/fp64.ErrMatchLen"], ifaces := true, apart := false, laid := [("loop.example/pub-g03033/pub/circl/vdaf/fp64.rSquare", laid_loop_example_pub_g03033_pub_circl_vdaf_fp64_rSquare), ("loop.example/pub-g03033/pub/circl/vdaf/fp64.ErrMatchLen", laid_loop_example_pub_g03033_pub_circl_vdaf_fp64_ErrMatchLen)] }
def FnVec64IsSaid : Prop := fnVec64IsRow.holds Tryd.pinned (OpenSpec.ofChange fnVec64IsSpec)

/-- ITS FALSE NEIGHBOUR: 'it returns false'. Refute it at one input. -/
def fnVec64IsWrong : ChangeSpec := { name := "fnVec64Is", vars := ["loop.example/pub-g03033/pub/circl/vdaf/fp64.rSquare", "loop.example/pub-g03033/pub/circl/vdaf/fp64.ErrMatchLen"], fn := fun _ => fun
  | [d1, d2, d3, g1, g2] => { results := [.lit (.bool false)], args := [d1, d2, d3], vars := [g1, g2] }
  | _ => none }
def FnVec64IsWrongFalsely : Prop := fnVec64IsRow.holds Tryd.pinned (OpenSpec.ofChange fnVec64IsWrong)

/-- 'laws.FnNTT64Is': WHATEVER THE INPUT: true; the input reads as it did. -/
def fnNTT64IsSpec : ChangeSpec := { name := "fnNTT64Is", vars := ["loop.example/pub-g03033/pub/circl/vdaf/fp64.rSquare", "loop.example/pub-g03033/pub/circl/vdaf/fp64.rootOfUnityTwoN", "loop.example/pub-g03033/pub/circl/vdaf/fp64.ErrRootsOfUnity"], fn := fun _ => fun
  | [d, g1, g2, g3] => { results := [.lit (.bool true)], args := [d], vars := [g1, g2, g3] }
  | _ => none }
def fnNTT64IsRow : OpenClaim := { program := "ytjjofnjhnoobpaadoor", sum := "8152651604b2863a542dfd0cff143329881fac6f2ea5dcd2407ecc1136e48b89", func := "loop.example/pub-g03033/laws.FnNTT64Is", spec := "fnNTT64Is", inPlace := ["math/bits.Add64", "math/bits.Sub64"], named := ["encoding/binary.LittleEndian", "loop.example/pub-g03033/pub/circl/vdaf/fp64.rSquare", "math/bits.deBruijn32tab", "math/bits.deBruijn64tab", "loop.example/pub-g03033/pub/circl/vdaf/fp64.rootOfUnityTwoN", "loop.example/pub-g03033/pub/circl/vdaf/fp64.ErrRootsOfUnity"], ifaces := true, apart := false, laid := [("math/bits.deBruijn32tab", laid_math_bits_deBruijn32tab), ("math/bits.deBruijn64tab", laid_math_bits_deBruijn64tab), ("loop.example/pub-g03033/pub/circl/vdaf/fp64.rSquare", laid_loop_example_pub_g03033_pub_circl_vdaf_fp64_rSquare), ("loop.example/pub-g03033/pub/circl/vdaf/fp64.rootOfUnityTwoN", laid_loop_example_pub_g03033_pub_circl_vdaf_fp64_rootOfUnityTwoN), ("loop.example/pub-g03033/pub/circl/vdaf/fp64.ErrRootsOfUnity", laid_loop_example_pub_g03033_pub_circl_vdaf_fp64_ErrRootsOfUnity)] }
def FnNTT64IsSaid : Prop := fnNTT64IsRow.holds Tryd.pinned (OpenSpec.ofChange fnNTT64IsSpec)

/-- ITS FALSE NEIGHBOUR: 'it returns false'. Refute it at one input. -/
def fnNTT64IsWrong : ChangeSpec := { name := "fnNTT64Is", vars := ["loop.example/pub-g03033/pub/circl/vdaf/fp64.rSquare", "loop.example/pub-g03033/pub/circl/vdaf/fp64.rootOfUnityTwoN", "loop.example/pub-g03033/pub/circl/vdaf/fp64.ErrRootsOfUnity"], fn := fun _ => fun
  | [d, g1, g2, g3] => { results := [.lit (.bool false)], args := [d], vars := [g1, g2, g3] }
  | _ => none }
def FnNTT64IsWrongFalsely : Prop := fnNTT64IsRow.holds Tryd.pinned (OpenSpec.ofChange fnNTT64IsWrong)

/-- 'laws.FnPolyMul64': WHATEVER THE INPUT: true; the input reads as it did. -/
def fnPolyMul64Spec : ChangeSpec := { name := "fnPolyMul64", vars := ["loop.example/pub-g03033/pub/circl/vdaf/fp64.rSquare", "loop.example/pub-g03033/pub/circl/vdaf/fp64.ErrMatchLen", "loop.example/pub-g03033/pub/circl/vdaf/fp64.rootOfUnityTwoN", "loop.example/pub-g03033/pub/circl/vdaf/fp64.ErrRootsOfUnity", "loop.example/pub-g03033/pub/circl/vdaf/fp64.half"], fn := fun _ => fun
  | [d1, d2, d3, g1, g2, g3, g4, g5] => { results := [.lit (.bool true)], args := [d1, d2, d3], vars := [g1, g2, g3, g4, g5] }
  | _ => none }
def fnPolyMul64Row : OpenClaim := { program := "ytjjofnjhnoobpaadoor", sum := "8152651604b2863a542dfd0cff143329881fac6f2ea5dcd2407ecc1136e48b89", func := "loop.example/pub-g03033/laws.FnPolyMul64", spec := "fnPolyMul64", inPlace := ["math/bits.Add64", "math/bits.Sub64"], named := ["encoding/binary.LittleEndian", "loop.example/pub-g03033/pub/circl/vdaf/fp64.rSquare", "loop.example/pub-g03033/pub/circl/vdaf/fp64.ErrMatchLen", "math/bits.deBruijn32tab", "math/bits.deBruijn64tab", "loop.example/pub-g03033/pub/circl/vdaf/fp64.rootOfUnityTwoN", "loop.example/pub-g03033/pub/circl/vdaf/fp64.ErrRootsOfUnity", "loop.example/pub-g03033/pub/circl/vdaf/fp64.half"], ifaces := true, apart := false, laid := [("math/bits.deBruijn32tab", laid_math_bits_deBruijn32tab), ("math/bits.deBruijn64tab", laid_math_bits_deBruijn64tab), ("loop.example/pub-g03033/pub/circl/vdaf/fp64.rSquare", laid_loop_example_pub_g03033_pub_circl_vdaf_fp64_rSquare), ("loop.example/pub-g03033/pub/circl/vdaf/fp64.half", laid_loop_example_pub_g03033_pub_circl_vdaf_fp64_half), ("loop.example/pub-g03033/pub/circl/vdaf/fp64.rootOfUnityTwoN", laid_loop_example_pub_g03033_pub_circl_vdaf_fp64_rootOfUnityTwoN), ("loop.example/pub-g03033/pub/circl/vdaf/fp64.ErrMatchLen", laid_loop_example_pub_g03033_pub_circl_vdaf_fp64_ErrMatchLen), ("loop.example/pub-g03033/pub/circl/vdaf/fp64.ErrRootsOfUnity", laid_loop_example_pub_g03033_pub_circl_vdaf_fp64_ErrRootsOfUnity)] }
def FnPolyMul64Said : Prop := fnPolyMul64Row.holds Tryd.pinned (OpenSpec.ofChange fnPolyMul64Spec)

/-- ITS FALSE NEIGHBOUR: 'it returns false'. Refute it at one input. -/
def fnPolyMul64Wrong : ChangeSpec := { name := "fnPolyMul64", vars := ["loop.example/pub-g03033/pub/circl/vdaf/fp64.rSquare", "loop.example/pub-g03033/pub/circl/vdaf/fp64.ErrMatchLen", "loop.example/pub-g03033/pub/circl/vdaf/fp64.rootOfUnityTwoN", "loop.example/pub-g03033/pub/circl/vdaf/fp64.ErrRootsOfUnity", "loop.example/pub-g03033/pub/circl/vdaf/fp64.half"], fn := fun _ => fun
  | [d1, d2, d3, g1, g2, g3, g4, g5] => { results := [.lit (.bool false)], args := [d1, d2, d3], vars := [g1, g2, g3, g4, g5] }
  | _ => none }
def FnPolyMul64WrongFalsely : Prop := fnPolyMul64Row.holds Tryd.pinned (OpenSpec.ofChange fnPolyMul64Wrong)

/- THE SECOND FORM. 'bulk': how many values and letters a reading holds, each counted each time it is reached (what is shared counts as often as it is met; a slice's spare places count too). A statement '..UptoSaid' is the law's where the arguments, and the package variables that the reading takes, are together of bulk at most 1048576: NARROWER than '..Said'. Prove '..Said' where nothing that the law and all that it calls make is longer than what came in: it says more and counts as full. Else prove '..UptoSaid'. A law counts once. -/
mutual
def uptoBulk {H : Type} : DataW H → Nat
  | .lit (.string bytes) => bytes.length + 1
  | .lit _ => 1
  | .nil => 1
  | .ptr d => uptoBulk d + 1
  | .slice elems spare => uptoBulkAll elems + uptoBulkAll spare + 1
  | .agg parts => uptoBulkAll parts + 1
  | .iface _ d => uptoBulk d + 1
  | .map entries => uptoBulkEntries entries + 1
  | .held _ => 1
def uptoBulkAll {H : Type} : List (DataW H) → Nat
  | [] => 0
  | d :: r => uptoBulk d + uptoBulkAll r
def uptoBulkEntries {H : Type} : List (Lit × DataW H) → Nat
  | [] => 0
  | x :: r => uptoBulkEntry x + uptoBulkEntries r
def uptoBulkEntry {H : Type} : Lit × DataW H → Nat
  | (.string bytes, d) => bytes.length + uptoBulk d + 1
  | (_, d) => uptoBulk d + 1
 end
def uptoSmall : (H : Type) → List (DataW H) → Bool := fun _ ds => decide (uptoBulkAll ds ≤ 1048576)
def OpenSpec.upto (s : _root_.Go.ChangeSpec) : _root_.Go.OpenSpec := { _root_.Go.OpenSpec.ofChange s with cond := some uptoSmall }

/-- 'laws.FnRoot64', WHERE WHAT IT READS IS OF BULK AT MOST 1048576: true; the input reads as it did. -/
def fnRoot64UptoRow : OpenClaim := { program := "ytjjofnjhnoobpaadoor", sum := "8152651604b2863a542dfd0cff143329881fac6f2ea5dcd2407ecc1136e48b89", func := "loop.example/pub-g03033/laws.FnRoot64", spec := "fnRoot64", inPlace := ["math/bits.Add64", "math/bits.Sub64"], named := ["loop.example/pub-g03033/pub/circl/vdaf/fp64.ErrRootsOfUnity", "loop.example/pub-g03033/pub/circl/vdaf/fp64.rootOfUnityTwoN", "encoding/binary.LittleEndian"], ifaces := true, apart := false, laid := [("loop.example/pub-g03033/pub/circl/vdaf/fp64.rootOfUnityTwoN", laid_loop_example_pub_g03033_pub_circl_vdaf_fp64_rootOfUnityTwoN), ("loop.example/pub-g03033/pub/circl/vdaf/fp64.ErrRootsOfUnity", laid_loop_example_pub_g03033_pub_circl_vdaf_fp64_ErrRootsOfUnity)], narrowed := true }
def FnRoot64UptoSaid : Prop := fnRoot64UptoRow.holds Tryd.pinned (OpenSpec.upto fnRoot64Spec)

/-- 'laws.FnTells64', WHERE WHAT IT READS IS OF BULK AT MOST 1048576: true; the input reads as it did. -/
def fnTells64UptoRow : OpenClaim := { program := "ytjjofnjhnoobpaadoor", sum := "8152651604b2863a542dfd0cff143329881fac6f2ea5dcd2407ecc1136e48b89", func := "loop.example/pub-g03033/laws.FnTells64", spec := "fnTells64", inPlace := ["math/bits.Add64", "math/bits.Sub64", "crypto/internal/constanttime.boolToUint8"], named := ["encoding/binary.LittleEndian", "loop.example/pub-g03033/pub/circl/vdaf/fp64.rSquare", "loop.example/pub-g03033/pub/circl/vdaf/fp64.rootOfUnityTwoN"], apart := false, laid := [("loop.example/pub-g03033/pub/circl/vdaf/fp64.rSquare", laid_loop_example_pub_g03033_pub_circl_vdaf_fp64_rSquare), ("loop.example/pub-g03033/pub/circl/vdaf/fp64.rootOfUnityTwoN", laid_loop_example_pub_g03033_pub_circl_vdaf_fp64_rootOfUnityTwoN)], narrowed := true }
def FnTells64UptoSaid : Prop := fnTells64UptoRow.holds Tryd.pinned (OpenSpec.upto fnTells64Spec)

/-- 'laws.FnOf64', WHERE WHAT IT READS IS OF BULK AT MOST 1048576: true; the input reads as it did. -/
def fnOf64UptoRow : OpenClaim := { program := "ytjjofnjhnoobpaadoor", sum := "8152651604b2863a542dfd0cff143329881fac6f2ea5dcd2407ecc1136e48b89", func := "loop.example/pub-g03033/laws.FnOf64", spec := "fnOf64", inPlace := ["math/bits.Add64", "math/bits.Sub64"], named := ["loop.example/pub-g03033/pub/circl/vdaf/fp64.ErrFieldEltDecode", "loop.example/pub-g03033/pub/circl/vdaf/fp64.rSquare", "encoding/binary.LittleEndian"], ifaces := true, apart := false, laid := [("loop.example/pub-g03033/pub/circl/vdaf/fp64.rSquare", laid_loop_example_pub_g03033_pub_circl_vdaf_fp64_rSquare), ("loop.example/pub-g03033/pub/circl/vdaf/fp64.ErrFieldEltDecode", laid_loop_example_pub_g03033_pub_circl_vdaf_fp64_ErrFieldEltDecode)], narrowed := true }
def FnOf64UptoSaid : Prop := fnOf64UptoRow.holds Tryd.pinned (OpenSpec.upto fnOf64Spec)

/-- 'laws.FnRing64', WHERE WHAT IT READS IS OF BULK AT MOST 1048576: true; the input reads as it did. -/
def fnRing64UptoRow : OpenClaim := { program := "ytjjofnjhnoobpaadoor", sum := "8152651604b2863a542dfd0cff143329881fac6f2ea5dcd2407ecc1136e48b89", func := "loop.example/pub-g03033/laws.FnRing64", spec := "fnRing64", inPlace := ["math/bits.Add64", "math/bits.Sub64"], named := ["encoding/binary.LittleEndian", "loop.example/pub-g03033/pub/circl/vdaf/fp64.rSquare"], apart := false, laid := [("loop.example/pub-g03033/pub/circl/vdaf/fp64.rSquare", laid_loop_example_pub_g03033_pub_circl_vdaf_fp64_rSquare)], narrowed := true }
def FnRing64UptoSaid : Prop := fnRing64UptoRow.holds Tryd.pinned (OpenSpec.upto fnRing64Spec)

/-- 'laws.FnMul64Is', WHERE WHAT IT READS IS OF BULK AT MOST 1048576: true; the input reads as it did. -/
def fnMul64IsUptoRow : OpenClaim := { program := "ytjjofnjhnoobpaadoor", sum := "8152651604b2863a542dfd0cff143329881fac6f2ea5dcd2407ecc1136e48b89", func := "loop.example/pub-g03033/laws.FnMul64Is", spec := "fnMul64Is", inPlace := ["math/bits.Add64", "math/bits.Sub64"], named := ["encoding/binary.LittleEndian", "loop.example/pub-g03033/pub/circl/vdaf/fp64.rSquare"], apart := false, laid := [("loop.example/pub-g03033/pub/circl/vdaf/fp64.rSquare", laid_loop_example_pub_g03033_pub_circl_vdaf_fp64_rSquare)], narrowed := true }
def FnMul64IsUptoSaid : Prop := fnMul64IsUptoRow.holds Tryd.pinned (OpenSpec.upto fnMul64IsSpec)

/-- 'laws.FnEvaluate64', WHERE WHAT IT READS IS OF BULK AT MOST 1048576: true; the input reads as it did. -/
def fnEvaluate64UptoRow : OpenClaim := { program := "ytjjofnjhnoobpaadoor", sum := "8152651604b2863a542dfd0cff143329881fac6f2ea5dcd2407ecc1136e48b89", func := "loop.example/pub-g03033/laws.FnEvaluate64", spec := "fnEvaluate64", inPlace := ["math/bits.Add64", "math/bits.Sub64"], named := ["encoding/binary.LittleEndian", "loop.example/pub-g03033/pub/circl/vdaf/fp64.rSquare"], apart := false, laid := [("loop.example/pub-g03033/pub/circl/vdaf/fp64.rSquare", laid_loop_example_pub_g03033_pub_circl_vdaf_fp64_rSquare)], narrowed := true }
def FnEvaluate64UptoSaid : Prop := fnEvaluate64UptoRow.holds Tryd.pinned (OpenSpec.upto fnEvaluate64Spec)

/-- 'laws.FnAdd64Is', WHERE WHAT IT READS IS OF BULK AT MOST 1048576: true; the input reads as it did. -/
def fnAdd64IsUptoRow : OpenClaim := { program := "ytjjofnjhnoobpaadoor", sum := "8152651604b2863a542dfd0cff143329881fac6f2ea5dcd2407ecc1136e48b89", func := "loop.example/pub-g03033/laws.FnAdd64Is", spec := "fnAdd64Is", inPlace := ["math/bits.Add64", "math/bits.Sub64"], named := ["encoding/binary.LittleEndian", "loop.example/pub-g03033/pub/circl/vdaf/fp64.rSquare"], apart := false, laid := [("loop.example/pub-g03033/pub/circl/vdaf/fp64.rSquare", laid_loop_example_pub_g03033_pub_circl_vdaf_fp64_rSquare)], narrowed := true }
def FnAdd64IsUptoSaid : Prop := fnAdd64IsUptoRow.holds Tryd.pinned (OpenSpec.upto fnAdd64IsSpec)

/-- 'laws.FnStrip64', WHERE WHAT IT READS IS OF BULK AT MOST 1048576: true; the input reads as it did. -/
def fnStrip64UptoRow : OpenClaim := { program := "ytjjofnjhnoobpaadoor", sum := "8152651604b2863a542dfd0cff143329881fac6f2ea5dcd2407ecc1136e48b89", func := "loop.example/pub-g03033/laws.FnStrip64", spec := "fnStrip64", inPlace := ["math/bits.Add64", "math/bits.Sub64", "crypto/internal/constanttime.boolToUint8"], named := ["encoding/binary.LittleEndian", "loop.example/pub-g03033/pub/circl/vdaf/fp64.rSquare"], apart := false, laid := [("loop.example/pub-g03033/pub/circl/vdaf/fp64.rSquare", laid_loop_example_pub_g03033_pub_circl_vdaf_fp64_rSquare)], narrowed := true }
def FnStrip64UptoSaid : Prop := fnStrip64UptoRow.holds Tryd.pinned (OpenSpec.upto fnStrip64Spec)

/-- 'laws.FnOrder64', WHERE WHAT IT READS IS OF BULK AT MOST 1048576: true; the input reads as it did. -/
def fnOrder64UptoRow : OpenClaim := { program := "ytjjofnjhnoobpaadoor", sum := "8152651604b2863a542dfd0cff143329881fac6f2ea5dcd2407ecc1136e48b89", func := "loop.example/pub-g03033/laws.FnOrder64", spec := "fnOrder64", inPlace := ["math/bits.Add64", "math/bits.Sub64"], named := ["encoding/binary.BigEndian", "encoding/binary.LittleEndian", "loop.example/pub-g03033/pub/circl/vdaf/fp64.rSquare"], apart := false, laid := [("loop.example/pub-g03033/pub/circl/vdaf/fp64.rSquare", laid_loop_example_pub_g03033_pub_circl_vdaf_fp64_rSquare)], narrowed := true }
def FnOrder64UptoSaid : Prop := fnOrder64UptoRow.holds Tryd.pinned (OpenSpec.upto fnOrder64Spec)

/-- 'laws.FnRootRoad64', WHERE WHAT IT READS IS OF BULK AT MOST 1048576: true; the input reads as it did. -/
def fnRootRoad64UptoRow : OpenClaim := { program := "ytjjofnjhnoobpaadoor", sum := "8152651604b2863a542dfd0cff143329881fac6f2ea5dcd2407ecc1136e48b89", func := "loop.example/pub-g03033/laws.FnRootRoad64", spec := "fnRootRoad64", inPlace := ["math/bits.Add64", "math/bits.Sub64"], named := ["loop.example/pub-g03033/pub/circl/vdaf/fp64.ErrRootsOfUnity", "loop.example/pub-g03033/pub/circl/vdaf/fp64.rootOfUnityTwoN", "encoding/binary.LittleEndian", "loop.example/pub-g03033/pub/circl/vdaf/fp64.rSquare"], ifaces := true, apart := false, laid := [("loop.example/pub-g03033/pub/circl/vdaf/fp64.rSquare", laid_loop_example_pub_g03033_pub_circl_vdaf_fp64_rSquare), ("loop.example/pub-g03033/pub/circl/vdaf/fp64.rootOfUnityTwoN", laid_loop_example_pub_g03033_pub_circl_vdaf_fp64_rootOfUnityTwoN), ("loop.example/pub-g03033/pub/circl/vdaf/fp64.ErrRootsOfUnity", laid_loop_example_pub_g03033_pub_circl_vdaf_fp64_ErrRootsOfUnity)], narrowed := true }
def FnRootRoad64UptoSaid : Prop := fnRootRoad64UptoRow.holds Tryd.pinned (OpenSpec.upto fnRootRoad64Spec)

/-- 'laws.FnJoin64Is', WHERE WHAT IT READS IS OF BULK AT MOST 1048576: true; the input reads as it did. -/
def fnJoin64IsUptoRow : OpenClaim := { program := "ytjjofnjhnoobpaadoor", sum := "8152651604b2863a542dfd0cff143329881fac6f2ea5dcd2407ecc1136e48b89", func := "loop.example/pub-g03033/laws.FnJoin64Is", spec := "fnJoin64Is", inPlace := ["math/bits.Add64", "math/bits.Sub64"], named := ["encoding/binary.LittleEndian", "loop.example/pub-g03033/pub/circl/vdaf/fp64.rSquare", "loop.example/pub-g03033/pub/circl/vdaf/fp64.ErrFieldEltDecode"], ifaces := true, apart := false, laid := [("loop.example/pub-g03033/pub/circl/vdaf/fp64.rSquare", laid_loop_example_pub_g03033_pub_circl_vdaf_fp64_rSquare), ("loop.example/pub-g03033/pub/circl/vdaf/fp64.ErrFieldEltDecode", laid_loop_example_pub_g03033_pub_circl_vdaf_fp64_ErrFieldEltDecode)], narrowed := true }
def FnJoin64IsUptoSaid : Prop := fnJoin64IsUptoRow.holds Tryd.pinned (OpenSpec.upto fnJoin64IsSpec)

/-- 'laws.FnInvOf64', WHERE WHAT IT READS IS OF BULK AT MOST 1048576: true; the input reads as it did. -/
def fnInvOf64UptoRow : OpenClaim := { program := "ytjjofnjhnoobpaadoor", sum := "8152651604b2863a542dfd0cff143329881fac6f2ea5dcd2407ecc1136e48b89", func := "loop.example/pub-g03033/laws.FnInvOf64", spec := "fnInvOf64", inPlace := ["math/bits.Add64", "math/bits.Sub64"], named := ["loop.example/pub-g03033/pub/circl/vdaf/fp64.inverseInt", "loop.example/pub-g03033/pub/circl/vdaf/fp64.ErrFieldEltDecode", "loop.example/pub-g03033/pub/circl/vdaf/fp64.rSquare", "encoding/binary.LittleEndian", "loop.example/pub-g03033/pub/circl/vdaf/fp64.half", "loop.example/pub-g03033/pub/circl/vdaf/fp64.rootOfUnityTwoN"], ifaces := true, apart := false, laid := [("loop.example/pub-g03033/pub/circl/vdaf/fp64.rSquare", laid_loop_example_pub_g03033_pub_circl_vdaf_fp64_rSquare), ("loop.example/pub-g03033/pub/circl/vdaf/fp64.half", laid_loop_example_pub_g03033_pub_circl_vdaf_fp64_half), ("loop.example/pub-g03033/pub/circl/vdaf/fp64.rootOfUnityTwoN", laid_loop_example_pub_g03033_pub_circl_vdaf_fp64_rootOfUnityTwoN), ("loop.example/pub-g03033/pub/circl/vdaf/fp64.inverseInt", laid_loop_example_pub_g03033_pub_circl_vdaf_fp64_inverseInt), ("loop.example/pub-g03033/pub/circl/vdaf/fp64.ErrFieldEltDecode", laid_loop_example_pub_g03033_pub_circl_vdaf_fp64_ErrFieldEltDecode)], narrowed := true }
def FnInvOf64UptoSaid : Prop := fnInvOf64UptoRow.holds Tryd.pinned (OpenSpec.upto fnInvOf64Spec)

/-- 'laws.FnInv64', WHERE WHAT IT READS IS OF BULK AT MOST 1048576: true; the input reads as it did. -/
def fnInv64UptoRow : OpenClaim := { program := "ytjjofnjhnoobpaadoor", sum := "8152651604b2863a542dfd0cff143329881fac6f2ea5dcd2407ecc1136e48b89", func := "loop.example/pub-g03033/laws.FnInv64", spec := "fnInv64", inPlace := ["math/bits.Add64", "math/bits.Sub64"], named := ["encoding/binary.LittleEndian", "loop.example/pub-g03033/pub/circl/vdaf/fp64.rSquare", "loop.example/pub-g03033/pub/circl/vdaf/fp64.rootOfUnityTwoN"], apart := false, laid := [("loop.example/pub-g03033/pub/circl/vdaf/fp64.rSquare", laid_loop_example_pub_g03033_pub_circl_vdaf_fp64_rSquare), ("loop.example/pub-g03033/pub/circl/vdaf/fp64.rootOfUnityTwoN", laid_loop_example_pub_g03033_pub_circl_vdaf_fp64_rootOfUnityTwoN)], narrowed := true }
def FnInv64UptoSaid : Prop := fnInv64UptoRow.holds Tryd.pinned (OpenSpec.upto fnInv64Spec)

/-- 'laws.FnPolySqr64', WHERE WHAT IT READS IS OF BULK AT MOST 1048576: true; the input reads as it did. -/
def fnPolySqr64UptoRow : OpenClaim := { program := "ytjjofnjhnoobpaadoor", sum := "8152651604b2863a542dfd0cff143329881fac6f2ea5dcd2407ecc1136e48b89", func := "loop.example/pub-g03033/laws.FnPolySqr64", spec := "fnPolySqr64", inPlace := ["math/bits.Add64", "math/bits.Sub64"], named := ["encoding/binary.LittleEndian", "loop.example/pub-g03033/pub/circl/vdaf/fp64.rSquare", "loop.example/pub-g03033/pub/circl/vdaf/fp64.ErrMatchLen"], ifaces := true, apart := false, laid := [("loop.example/pub-g03033/pub/circl/vdaf/fp64.rSquare", laid_loop_example_pub_g03033_pub_circl_vdaf_fp64_rSquare), ("loop.example/pub-g03033/pub/circl/vdaf/fp64.ErrMatchLen", laid_loop_example_pub_g03033_pub_circl_vdaf_fp64_ErrMatchLen)], narrowed := true }
def FnPolySqr64UptoSaid : Prop := fnPolySqr64UptoRow.holds Tryd.pinned (OpenSpec.upto fnPolySqr64Spec)

/-- 'laws.FnBits64', WHERE WHAT IT READS IS OF BULK AT MOST 1048576: true; the input reads as it did. -/
def fnBits64UptoRow : OpenClaim := { program := "ytjjofnjhnoobpaadoor", sum := "8152651604b2863a542dfd0cff143329881fac6f2ea5dcd2407ecc1136e48b89", func := "loop.example/pub-g03033/laws.FnBits64", spec := "fnBits64", inPlace := ["math/bits.Add64", "math/bits.Sub64"], named := ["loop.example/pub-g03033/pub/circl/vdaf/fp64.ErrNumberTooLarge", "loop.example/pub-g03033/pub/circl/vdaf/fp64.rootOfUnityTwoN", "encoding/binary.LittleEndian", "loop.example/pub-g03033/pub/circl/vdaf/fp64.rSquare", "loop.example/pub-g03033/pub/circl/vdaf/fp64.ErrFieldEltDecode"], ifaces := true, apart := false, laid := [("loop.example/pub-g03033/pub/circl/vdaf/fp64.rSquare", laid_loop_example_pub_g03033_pub_circl_vdaf_fp64_rSquare), ("loop.example/pub-g03033/pub/circl/vdaf/fp64.rootOfUnityTwoN", laid_loop_example_pub_g03033_pub_circl_vdaf_fp64_rootOfUnityTwoN), ("loop.example/pub-g03033/pub/circl/vdaf/fp64.ErrFieldEltDecode", laid_loop_example_pub_g03033_pub_circl_vdaf_fp64_ErrFieldEltDecode), ("loop.example/pub-g03033/pub/circl/vdaf/fp64.ErrNumberTooLarge", laid_loop_example_pub_g03033_pub_circl_vdaf_fp64_ErrNumberTooLarge)], narrowed := true }
def FnBits64UptoSaid : Prop := fnBits64UptoRow.holds Tryd.pinned (OpenSpec.upto fnBits64Spec)

/-- 'laws.FnVec64Is', WHERE WHAT IT READS IS OF BULK AT MOST 1048576: true; the input reads as it did. -/
def fnVec64IsUptoRow : OpenClaim := { program := "ytjjofnjhnoobpaadoor", sum := "8152651604b2863a542dfd0cff143329881fac6f2ea5dcd2407ecc1136e48b89", func := "loop.example/pub-g03033/laws.FnVec64Is", spec := "fnVec64Is", inPlace := ["math/bits.Add64", "math/bits.Sub64"], named := ["encoding/binary.LittleEndian", "loop.example/pub-g03033/pub/circl/vdaf/fp64.rSquare", "loop.example/pub-g03033/pub/circl/vdaf/fp64.ErrMatchLen"], ifaces := true, apart := false, laid := [("loop.example/pub-g03033/pub/circl/vdaf/fp64.rSquare", laid_loop_example_pub_g03033_pub_circl_vdaf_fp64_rSquare), ("loop.example/pub-g03033/pub/circl/vdaf/fp64.ErrMatchLen", laid_loop_example_pub_g03033_pub_circl_vdaf_fp64_ErrMatchLen)], narrowed := true }
def FnVec64IsUptoSaid : Prop := fnVec64IsUptoRow.holds Tryd.pinned (OpenSpec.upto fnVec64IsSpec)

/-- 'laws.FnNTT64Is', WHERE WHAT IT READS IS OF BULK AT MOST 1048576: true; the input reads as it did. -/
def fnNTT64IsUptoRow : OpenClaim := { program := "ytjjofnjhnoobpaadoor", sum := "8152651604b2863a542dfd0cff143329881fac6f2ea5dcd2407ecc1136e48b89", func := "loop.example/pub-g03033/laws.FnNTT64Is", spec := "fnNTT64Is", inPlace := ["math/bits.Add64", "math/bits.Sub64"], named := ["encoding/binary.LittleEndian", "loop.example/pub-g03033/pub/circl/vdaf/fp64.rSquare", "math/bits.deBruijn32tab", "math/bits.deBruijn64tab", "loop.example/pub-g03033/pub/circl/vdaf/fp64.rootOfUnityTwoN", "loop.example/pub-g03033/pub/circl/vdaf/fp64.ErrRootsOfUnity"], ifaces := true, apart := false, laid := [("math/bits.deBruijn32tab", laid_math_bits_deBruijn32tab), ("math/bits.deBruijn64tab", laid_math_bits_deBruijn64tab), ("loop.example/pub-g03033/pub/circl/vdaf/fp64.rSquare", laid_loop_example_pub_g03033_pub_circl_vdaf_fp64_rSquare), ("loop.example/pub-g03033/pub/circl/vdaf/fp64.rootOfUnityTwoN", laid_loop_example_pub_g03033_pub_circl_vdaf_fp64_rootOfUnityTwoN), ("loop.example/pub-g03033/pub/circl/vdaf/fp64.ErrRootsOfUnity", laid_loop_example_pub_g03033_pub_circl_vdaf_fp64_ErrRootsOfUnity)], narrowed := true }
def FnNTT64IsUptoSaid : Prop := fnNTT64IsUptoRow.holds Tryd.pinned (OpenSpec.upto fnNTT64IsSpec)

/-- 'laws.FnPolyMul64', WHERE WHAT IT READS IS OF BULK AT MOST 1048576: true; the input reads as it did. -/
def fnPolyMul64UptoRow : OpenClaim := { program := "ytjjofnjhnoobpaadoor", sum := "8152651604b2863a542dfd0cff143329881fac6f2ea5dcd2407ecc1136e48b89", func := "loop.example/pub-g03033/laws.FnPolyMul64", spec := "fnPolyMul64", inPlace := ["math/bits.Add64", "math/bits.Sub64"], named := ["encoding/binary.LittleEndian", "loop.example/pub-g03033/pub/circl/vdaf/fp64.rSquare", "loop.example/pub-g03033/pub/circl/vdaf/fp64.ErrMatchLen", "math/bits.deBruijn32tab", "math/bits.deBruijn64tab", "loop.example/pub-g03033/pub/circl/vdaf/fp64.rootOfUnityTwoN", "loop.example/pub-g03033/pub/circl/vdaf/fp64.ErrRootsOfUnity", "loop.example/pub-g03033/pub/circl/vdaf/fp64.half"], ifaces := true, apart := false, laid := [("math/bits.deBruijn32tab", laid_math_bits_deBruijn32tab), ("math/bits.deBruijn64tab", laid_math_bits_deBruijn64tab), ("loop.example/pub-g03033/pub/circl/vdaf/fp64.rSquare", laid_loop_example_pub_g03033_pub_circl_vdaf_fp64_rSquare), ("loop.example/pub-g03033/pub/circl/vdaf/fp64.half", laid_loop_example_pub_g03033_pub_circl_vdaf_fp64_half), ("loop.example/pub-g03033/pub/circl/vdaf/fp64.rootOfUnityTwoN", laid_loop_example_pub_g03033_pub_circl_vdaf_fp64_rootOfUnityTwoN), ("loop.example/pub-g03033/pub/circl/vdaf/fp64.ErrMatchLen", laid_loop_example_pub_g03033_pub_circl_vdaf_fp64_ErrMatchLen), ("loop.example/pub-g03033/pub/circl/vdaf/fp64.ErrRootsOfUnity", laid_loop_example_pub_g03033_pub_circl_vdaf_fp64_ErrRootsOfUnity)], narrowed := true }
def FnPolyMul64UptoSaid : Prop := fnPolyMul64UptoRow.holds Tryd.pinned (OpenSpec.upto fnPolyMul64Spec)

end Rows
end Go.Proofs.YtjjofnjhnoobpaaDoor
