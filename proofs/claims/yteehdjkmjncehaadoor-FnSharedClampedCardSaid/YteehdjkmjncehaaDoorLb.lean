/-
  What the tied laws share: the frame's facts, and what the condition on the package variables gives (written by genlbd.py).
-/
import Derived.Test.YteehdjkmjncehaaDoorRows
import Derived.Test.YteehdjkmjncehaaDoorSb
import Derived.Test.YteehdjkmjncehaaDoorHQ
import Derived.ProofKit
import Derived.LaidMore
import Derived.OpenShut
import Derived.OpenVars
import Derived.MakeChecks
namespace Go.Proofs.YteehdjkmjncehaaDoor
open Go.ChangeShapes Go.WideShapes Go.ChangeAt Go.WideElems Go.RowKit
theorem own1 : ownKnob Tryd.prog.godebug = none := by kernel_rfl
theorem laidOut1 : laidOutB Tryd.prog = true := by kernel_rfl
theorem ioStr : Tryd.pinned.checked.prog.initOrder = "harness 1e2a837e88b1bf37852abfa4cf25b8c5f42dfa19b3c2ac3719484b0189576229 cut at loop.example/pub-g03033/laws.FnTells loop.example/pub-g03033/laws.FnValidIs loop.example/pub-g03033/laws.FnSharedIs loop.example/pub-g03033/laws.FnNegIs loop.example/pub-g03033/laws.FnRoads loop.example/pub-g03033/laws.FnSharedClamped" := by kernel_rfl
set_option maxRecDepth 100000 in
theorem ioChars : ("harness 1e2a837e88b1bf37852abfa4cf25b8c5f42dfa19b3c2ac3719484b0189576229 cut at loop.example/pub-g03033/laws.FnTells loop.example/pub-g03033/laws.FnValidIs loop.example/pub-g03033/laws.FnSharedIs loop.example/pub-g03033/laws.FnNegIs loop.example/pub-g03033/laws.FnRoads loop.example/pub-g03033/laws.FnSharedClamped" : String) = String.ofList [Char.ofNat 104, Char.ofNat 97, Char.ofNat 114, Char.ofNat 110, Char.ofNat 101, Char.ofNat 115, Char.ofNat 115, Char.ofNat 32, Char.ofNat 49, Char.ofNat 101, Char.ofNat 50, Char.ofNat 97, Char.ofNat 56, Char.ofNat 51, Char.ofNat 55, Char.ofNat 101, Char.ofNat 56, Char.ofNat 56, Char.ofNat 98, Char.ofNat 49, Char.ofNat 98, Char.ofNat 102, Char.ofNat 51, Char.ofNat 55, Char.ofNat 56, Char.ofNat 53, Char.ofNat 50, Char.ofNat 97, Char.ofNat 98, Char.ofNat 102, Char.ofNat 97, Char.ofNat 52, Char.ofNat 99, Char.ofNat 102, Char.ofNat 50, Char.ofNat 53, Char.ofNat 98, Char.ofNat 56, Char.ofNat 99, Char.ofNat 53, Char.ofNat 102, Char.ofNat 52, Char.ofNat 50, Char.ofNat 100, Char.ofNat 102, Char.ofNat 97, Char.ofNat 49, Char.ofNat 57, Char.ofNat 98, Char.ofNat 51, Char.ofNat 99, Char.ofNat 50, Char.ofNat 97, Char.ofNat 99, Char.ofNat 51, Char.ofNat 55, Char.ofNat 49, Char.ofNat 57, Char.ofNat 52, Char.ofNat 56, Char.ofNat 52, Char.ofNat 98, Char.ofNat 48, Char.ofNat 49, Char.ofNat 56, Char.ofNat 57, Char.ofNat 53, Char.ofNat 55, Char.ofNat 54, Char.ofNat 50, Char.ofNat 50, Char.ofNat 57, Char.ofNat 32, Char.ofNat 99, Char.ofNat 117, Char.ofNat 116, Char.ofNat 32, Char.ofNat 97, Char.ofNat 116, Char.ofNat 32, Char.ofNat 108, Char.ofNat 111, Char.ofNat 111, Char.ofNat 112, Char.ofNat 46, Char.ofNat 101, Char.ofNat 120, Char.ofNat 97, Char.ofNat 109, Char.ofNat 112, Char.ofNat 108, Char.ofNat 101, Char.ofNat 47, Char.ofNat 112, Char.ofNat 117, Char.ofNat 98, Char.ofNat 45, Char.ofNat 103, Char.ofNat 48, Char.ofNat 51, Char.ofNat 48, Char.ofNat 51, Char.ofNat 51, Char.ofNat 47, Char.ofNat 108, Char.ofNat 97, Char.ofNat 119, Char.ofNat 115, Char.ofNat 46, Char.ofNat 70, Char.ofNat 110, Char.ofNat 84, Char.ofNat 101, Char.ofNat 108, Char.ofNat 108, Char.ofNat 115, Char.ofNat 32, Char.ofNat 108, Char.ofNat 111, Char.ofNat 111, Char.ofNat 112, Char.ofNat 46, Char.ofNat 101, Char.ofNat 120, Char.ofNat 97, Char.ofNat 109, Char.ofNat 112, Char.ofNat 108, Char.ofNat 101, Char.ofNat 47, Char.ofNat 112, Char.ofNat 117, Char.ofNat 98, Char.ofNat 45, Char.ofNat 103, Char.ofNat 48, Char.ofNat 51, Char.ofNat 48, Char.ofNat 51, Char.ofNat 51, Char.ofNat 47, Char.ofNat 108, Char.ofNat 97, Char.ofNat 119, Char.ofNat 115, Char.ofNat 46, Char.ofNat 70, Char.ofNat 110, Char.ofNat 86, Char.ofNat 97, Char.ofNat 108, Char.ofNat 105, Char.ofNat 100, Char.ofNat 73, Char.ofNat 115, Char.ofNat 32, Char.ofNat 108, Char.ofNat 111, Char.ofNat 111, Char.ofNat 112, Char.ofNat 46, Char.ofNat 101, Char.ofNat 120, Char.ofNat 97, Char.ofNat 109, Char.ofNat 112, Char.ofNat 108, Char.ofNat 101, Char.ofNat 47, Char.ofNat 112, Char.ofNat 117, Char.ofNat 98, Char.ofNat 45, Char.ofNat 103, Char.ofNat 48, Char.ofNat 51, Char.ofNat 48, Char.ofNat 51, Char.ofNat 51, Char.ofNat 47, Char.ofNat 108, Char.ofNat 97, Char.ofNat 119, Char.ofNat 115, Char.ofNat 46, Char.ofNat 70, Char.ofNat 110, Char.ofNat 83, Char.ofNat 104, Char.ofNat 97, Char.ofNat 114, Char.ofNat 101, Char.ofNat 100, Char.ofNat 73, Char.ofNat 115, Char.ofNat 32, Char.ofNat 108, Char.ofNat 111, Char.ofNat 111, Char.ofNat 112, Char.ofNat 46, Char.ofNat 101, Char.ofNat 120, Char.ofNat 97, Char.ofNat 109, Char.ofNat 112, Char.ofNat 108, Char.ofNat 101, Char.ofNat 47, Char.ofNat 112, Char.ofNat 117, Char.ofNat 98, Char.ofNat 45, Char.ofNat 103, Char.ofNat 48, Char.ofNat 51, Char.ofNat 48, Char.ofNat 51, Char.ofNat 51, Char.ofNat 47, Char.ofNat 108, Char.ofNat 97, Char.ofNat 119, Char.ofNat 115, Char.ofNat 46, Char.ofNat 70, Char.ofNat 110, Char.ofNat 78, Char.ofNat 101, Char.ofNat 103, Char.ofNat 73, Char.ofNat 115, Char.ofNat 32, Char.ofNat 108, Char.ofNat 111, Char.ofNat 111, Char.ofNat 112, Char.ofNat 46, Char.ofNat 101, Char.ofNat 120, Char.ofNat 97, Char.ofNat 109, Char.ofNat 112, Char.ofNat 108, Char.ofNat 101, Char.ofNat 47, Char.ofNat 112, Char.ofNat 117, Char.ofNat 98, Char.ofNat 45, Char.ofNat 103, Char.ofNat 48, Char.ofNat 51, Char.ofNat 48, Char.ofNat 51, Char.ofNat 51, Char.ofNat 47, Char.ofNat 108, Char.ofNat 97, Char.ofNat 119, Char.ofNat 115, Char.ofNat 46, Char.ofNat 70, Char.ofNat 110, Char.ofNat 82, Char.ofNat 111, Char.ofNat 97, Char.ofNat 100, Char.ofNat 115, Char.ofNat 32, Char.ofNat 108, Char.ofNat 111, Char.ofNat 111, Char.ofNat 112, Char.ofNat 46, Char.ofNat 101, Char.ofNat 120, Char.ofNat 97, Char.ofNat 109, Char.ofNat 112, Char.ofNat 108, Char.ofNat 101, Char.ofNat 47, Char.ofNat 112, Char.ofNat 117, Char.ofNat 98, Char.ofNat 45, Char.ofNat 103, Char.ofNat 48, Char.ofNat 51, Char.ofNat 48, Char.ofNat 51, Char.ofNat 51, Char.ofNat 47, Char.ofNat 108, Char.ofNat 97, Char.ofNat 119, Char.ofNat 115, Char.ofNat 46, Char.ofNat 70, Char.ofNat 110, Char.ofNat 83, Char.ofNat 104, Char.ofNat 97, Char.ofNat 114, Char.ofNat 101, Char.ofNat 100, Char.ofNat 67, Char.ofNat 108, Char.ofNat 97, Char.ofNat 109, Char.ofNat 112, Char.ofNat 101, Char.ofNat 100] := by kernel_rfl
set_option maxRecDepth 100000 in
theorem ioWords : wordsSigns [Char.ofNat 104, Char.ofNat 97, Char.ofNat 114, Char.ofNat 110, Char.ofNat 101, Char.ofNat 115, Char.ofNat 115, Char.ofNat 32, Char.ofNat 49, Char.ofNat 101, Char.ofNat 50, Char.ofNat 97, Char.ofNat 56, Char.ofNat 51, Char.ofNat 55, Char.ofNat 101, Char.ofNat 56, Char.ofNat 56, Char.ofNat 98, Char.ofNat 49, Char.ofNat 98, Char.ofNat 102, Char.ofNat 51, Char.ofNat 55, Char.ofNat 56, Char.ofNat 53, Char.ofNat 50, Char.ofNat 97, Char.ofNat 98, Char.ofNat 102, Char.ofNat 97, Char.ofNat 52, Char.ofNat 99, Char.ofNat 102, Char.ofNat 50, Char.ofNat 53, Char.ofNat 98, Char.ofNat 56, Char.ofNat 99, Char.ofNat 53, Char.ofNat 102, Char.ofNat 52, Char.ofNat 50, Char.ofNat 100, Char.ofNat 102, Char.ofNat 97, Char.ofNat 49, Char.ofNat 57, Char.ofNat 98, Char.ofNat 51, Char.ofNat 99, Char.ofNat 50, Char.ofNat 97, Char.ofNat 99, Char.ofNat 51, Char.ofNat 55, Char.ofNat 49, Char.ofNat 57, Char.ofNat 52, Char.ofNat 56, Char.ofNat 52, Char.ofNat 98, Char.ofNat 48, Char.ofNat 49, Char.ofNat 56, Char.ofNat 57, Char.ofNat 53, Char.ofNat 55, Char.ofNat 54, Char.ofNat 50, Char.ofNat 50, Char.ofNat 57, Char.ofNat 32, Char.ofNat 99, Char.ofNat 117, Char.ofNat 116, Char.ofNat 32, Char.ofNat 97, Char.ofNat 116, Char.ofNat 32, Char.ofNat 108, Char.ofNat 111, Char.ofNat 111, Char.ofNat 112, Char.ofNat 46, Char.ofNat 101, Char.ofNat 120, Char.ofNat 97, Char.ofNat 109, Char.ofNat 112, Char.ofNat 108, Char.ofNat 101, Char.ofNat 47, Char.ofNat 112, Char.ofNat 117, Char.ofNat 98, Char.ofNat 45, Char.ofNat 103, Char.ofNat 48, Char.ofNat 51, Char.ofNat 48, Char.ofNat 51, Char.ofNat 51, Char.ofNat 47, Char.ofNat 108, Char.ofNat 97, Char.ofNat 119, Char.ofNat 115, Char.ofNat 46, Char.ofNat 70, Char.ofNat 110, Char.ofNat 84, Char.ofNat 101, Char.ofNat 108, Char.ofNat 108, Char.ofNat 115, Char.ofNat 32, Char.ofNat 108, Char.ofNat 111, Char.ofNat 111, Char.ofNat 112, Char.ofNat 46, Char.ofNat 101, Char.ofNat 120, Char.ofNat 97, Char.ofNat 109, Char.ofNat 112, Char.ofNat 108, Char.ofNat 101, Char.ofNat 47, Char.ofNat 112, Char.ofNat 117, Char.ofNat 98, Char.ofNat 45, Char.ofNat 103, Char.ofNat 48, Char.ofNat 51, Char.ofNat 48, Char.ofNat 51, Char.ofNat 51, Char.ofNat 47, Char.ofNat 108, Char.ofNat 97, Char.ofNat 119, Char.ofNat 115, Char.ofNat 46, Char.ofNat 70, Char.ofNat 110, Char.ofNat 86, Char.ofNat 97, Char.ofNat 108, Char.ofNat 105, Char.ofNat 100, Char.ofNat 73, Char.ofNat 115, Char.ofNat 32, Char.ofNat 108, Char.ofNat 111, Char.ofNat 111, Char.ofNat 112, Char.ofNat 46, Char.ofNat 101, Char.ofNat 120, Char.ofNat 97, Char.ofNat 109, Char.ofNat 112, Char.ofNat 108, Char.ofNat 101, Char.ofNat 47, Char.ofNat 112, Char.ofNat 117, Char.ofNat 98, Char.ofNat 45, Char.ofNat 103, Char.ofNat 48, Char.ofNat 51, Char.ofNat 48, Char.ofNat 51, Char.ofNat 51, Char.ofNat 47, Char.ofNat 108, Char.ofNat 97, Char.ofNat 119, Char.ofNat 115, Char.ofNat 46, Char.ofNat 70, Char.ofNat 110, Char.ofNat 83, Char.ofNat 104, Char.ofNat 97, Char.ofNat 114, Char.ofNat 101, Char.ofNat 100, Char.ofNat 73, Char.ofNat 115, Char.ofNat 32, Char.ofNat 108, Char.ofNat 111, Char.ofNat 111, Char.ofNat 112, Char.ofNat 46, Char.ofNat 101, Char.ofNat 120, Char.ofNat 97, Char.ofNat 109, Char.ofNat 112, Char.ofNat 108, Char.ofNat 101, Char.ofNat 47, Char.ofNat 112, Char.ofNat 117, Char.ofNat 98, Char.ofNat 45, Char.ofNat 103, Char.ofNat 48, Char.ofNat 51, Char.ofNat 48, Char.ofNat 51, Char.ofNat 51, Char.ofNat 47, Char.ofNat 108, Char.ofNat 97, Char.ofNat 119, Char.ofNat 115, Char.ofNat 46, Char.ofNat 70, Char.ofNat 110, Char.ofNat 78, Char.ofNat 101, Char.ofNat 103, Char.ofNat 73, Char.ofNat 115, Char.ofNat 32, Char.ofNat 108, Char.ofNat 111, Char.ofNat 111, Char.ofNat 112, Char.ofNat 46, Char.ofNat 101, Char.ofNat 120, Char.ofNat 97, Char.ofNat 109, Char.ofNat 112, Char.ofNat 108, Char.ofNat 101, Char.ofNat 47, Char.ofNat 112, Char.ofNat 117, Char.ofNat 98, Char.ofNat 45, Char.ofNat 103, Char.ofNat 48, Char.ofNat 51, Char.ofNat 48, Char.ofNat 51, Char.ofNat 51, Char.ofNat 47, Char.ofNat 108, Char.ofNat 97, Char.ofNat 119, Char.ofNat 115, Char.ofNat 46, Char.ofNat 70, Char.ofNat 110, Char.ofNat 82, Char.ofNat 111, Char.ofNat 97, Char.ofNat 100, Char.ofNat 115, Char.ofNat 32, Char.ofNat 108, Char.ofNat 111, Char.ofNat 111, Char.ofNat 112, Char.ofNat 46, Char.ofNat 101, Char.ofNat 120, Char.ofNat 97, Char.ofNat 109, Char.ofNat 112, Char.ofNat 108, Char.ofNat 101, Char.ofNat 47, Char.ofNat 112, Char.ofNat 117, Char.ofNat 98, Char.ofNat 45, Char.ofNat 103, Char.ofNat 48, Char.ofNat 51, Char.ofNat 48, Char.ofNat 51, Char.ofNat 51, Char.ofNat 47, Char.ofNat 108, Char.ofNat 97, Char.ofNat 119, Char.ofNat 115, Char.ofNat 46, Char.ofNat 70, Char.ofNat 110, Char.ofNat 83, Char.ofNat 104, Char.ofNat 97, Char.ofNat 114, Char.ofNat 101, Char.ofNat 100, Char.ofNat 67, Char.ofNat 108, Char.ofNat 97, Char.ofNat 109, Char.ofNat 112, Char.ofNat 101, Char.ofNat 100] = [[Char.ofNat 104, Char.ofNat 97, Char.ofNat 114, Char.ofNat 110, Char.ofNat 101, Char.ofNat 115, Char.ofNat 115], [Char.ofNat 49, Char.ofNat 101, Char.ofNat 50, Char.ofNat 97, Char.ofNat 56, Char.ofNat 51, Char.ofNat 55, Char.ofNat 101, Char.ofNat 56, Char.ofNat 56, Char.ofNat 98, Char.ofNat 49, Char.ofNat 98, Char.ofNat 102, Char.ofNat 51, Char.ofNat 55, Char.ofNat 56, Char.ofNat 53, Char.ofNat 50, Char.ofNat 97, Char.ofNat 98, Char.ofNat 102, Char.ofNat 97, Char.ofNat 52, Char.ofNat 99, Char.ofNat 102, Char.ofNat 50, Char.ofNat 53, Char.ofNat 98, Char.ofNat 56, Char.ofNat 99, Char.ofNat 53, Char.ofNat 102, Char.ofNat 52, Char.ofNat 50, Char.ofNat 100, Char.ofNat 102, Char.ofNat 97, Char.ofNat 49, Char.ofNat 57, Char.ofNat 98, Char.ofNat 51, Char.ofNat 99, Char.ofNat 50, Char.ofNat 97, Char.ofNat 99, Char.ofNat 51, Char.ofNat 55, Char.ofNat 49, Char.ofNat 57, Char.ofNat 52, Char.ofNat 56, Char.ofNat 52, Char.ofNat 98, Char.ofNat 48, Char.ofNat 49, Char.ofNat 56, Char.ofNat 57, Char.ofNat 53, Char.ofNat 55, Char.ofNat 54, Char.ofNat 50, Char.ofNat 50, Char.ofNat 57], [Char.ofNat 99, Char.ofNat 117, Char.ofNat 116], [Char.ofNat 97, Char.ofNat 116], [Char.ofNat 108, Char.ofNat 111, Char.ofNat 111, Char.ofNat 112, Char.ofNat 46, Char.ofNat 101, Char.ofNat 120, Char.ofNat 97, Char.ofNat 109, Char.ofNat 112, Char.ofNat 108, Char.ofNat 101, Char.ofNat 47, Char.ofNat 112, Char.ofNat 117, Char.ofNat 98, Char.ofNat 45, Char.ofNat 103, Char.ofNat 48, Char.ofNat 51, Char.ofNat 48, Char.ofNat 51, Char.ofNat 51, Char.ofNat 47, Char.ofNat 108, Char.ofNat 97, Char.ofNat 119, Char.ofNat 115, Char.ofNat 46, Char.ofNat 70, Char.ofNat 110, Char.ofNat 84, Char.ofNat 101, Char.ofNat 108, Char.ofNat 108, Char.ofNat 115], [Char.ofNat 108, Char.ofNat 111, Char.ofNat 111, Char.ofNat 112, Char.ofNat 46, Char.ofNat 101, Char.ofNat 120, Char.ofNat 97, Char.ofNat 109, Char.ofNat 112, Char.ofNat 108, Char.ofNat 101, Char.ofNat 47, Char.ofNat 112, Char.ofNat 117, Char.ofNat 98, Char.ofNat 45, Char.ofNat 103, Char.ofNat 48, Char.ofNat 51, Char.ofNat 48, Char.ofNat 51, Char.ofNat 51, Char.ofNat 47, Char.ofNat 108, Char.ofNat 97, Char.ofNat 119, Char.ofNat 115, Char.ofNat 46, Char.ofNat 70, Char.ofNat 110, Char.ofNat 86, Char.ofNat 97, Char.ofNat 108, Char.ofNat 105, Char.ofNat 100, Char.ofNat 73, Char.ofNat 115], [Char.ofNat 108, Char.ofNat 111, Char.ofNat 111, Char.ofNat 112, Char.ofNat 46, Char.ofNat 101, Char.ofNat 120, Char.ofNat 97, Char.ofNat 109, Char.ofNat 112, Char.ofNat 108, Char.ofNat 101, Char.ofNat 47, Char.ofNat 112, Char.ofNat 117, Char.ofNat 98, Char.ofNat 45, Char.ofNat 103, Char.ofNat 48, Char.ofNat 51, Char.ofNat 48, Char.ofNat 51, Char.ofNat 51, Char.ofNat 47, Char.ofNat 108, Char.ofNat 97, Char.ofNat 119, Char.ofNat 115, Char.ofNat 46, Char.ofNat 70, Char.ofNat 110, Char.ofNat 83, Char.ofNat 104, Char.ofNat 97, Char.ofNat 114, Char.ofNat 101, Char.ofNat 100, Char.ofNat 73, Char.ofNat 115], [Char.ofNat 108, Char.ofNat 111, Char.ofNat 111, Char.ofNat 112, Char.ofNat 46, Char.ofNat 101, Char.ofNat 120, Char.ofNat 97, Char.ofNat 109, Char.ofNat 112, Char.ofNat 108, Char.ofNat 101, Char.ofNat 47, Char.ofNat 112, Char.ofNat 117, Char.ofNat 98, Char.ofNat 45, Char.ofNat 103, Char.ofNat 48, Char.ofNat 51, Char.ofNat 48, Char.ofNat 51, Char.ofNat 51, Char.ofNat 47, Char.ofNat 108, Char.ofNat 97, Char.ofNat 119, Char.ofNat 115, Char.ofNat 46, Char.ofNat 70, Char.ofNat 110, Char.ofNat 78, Char.ofNat 101, Char.ofNat 103, Char.ofNat 73, Char.ofNat 115], [Char.ofNat 108, Char.ofNat 111, Char.ofNat 111, Char.ofNat 112, Char.ofNat 46, Char.ofNat 101, Char.ofNat 120, Char.ofNat 97, Char.ofNat 109, Char.ofNat 112, Char.ofNat 108, Char.ofNat 101, Char.ofNat 47, Char.ofNat 112, Char.ofNat 117, Char.ofNat 98, Char.ofNat 45, Char.ofNat 103, Char.ofNat 48, Char.ofNat 51, Char.ofNat 48, Char.ofNat 51, Char.ofNat 51, Char.ofNat 47, Char.ofNat 108, Char.ofNat 97, Char.ofNat 119, Char.ofNat 115, Char.ofNat 46, Char.ofNat 70, Char.ofNat 110, Char.ofNat 82, Char.ofNat 111, Char.ofNat 97, Char.ofNat 100, Char.ofNat 115], [Char.ofNat 108, Char.ofNat 111, Char.ofNat 111, Char.ofNat 112, Char.ofNat 46, Char.ofNat 101, Char.ofNat 120, Char.ofNat 97, Char.ofNat 109, Char.ofNat 112, Char.ofNat 108, Char.ofNat 101, Char.ofNat 47, Char.ofNat 112, Char.ofNat 117, Char.ofNat 98, Char.ofNat 45, Char.ofNat 103, Char.ofNat 48, Char.ofNat 51, Char.ofNat 48, Char.ofNat 51, Char.ofNat 51, Char.ofNat 47, Char.ofNat 108, Char.ofNat 97, Char.ofNat 119, Char.ofNat 115, Char.ofNat 46, Char.ofNat 70, Char.ofNat 110, Char.ofNat 83, Char.ofNat 104, Char.ofNat 97, Char.ofNat 114, Char.ofNat 101, Char.ofNat 100, Char.ofNat 67, Char.ofNat 108, Char.ofNat 97, Char.ofNat 109, Char.ofNat 112, Char.ofNat 101, Char.ofNat 100]] := by kernel_rfl
theorem words0 : wordsSigns Tryd.pinned.checked.prog.initOrder.toList = [[Char.ofNat 104, Char.ofNat 97, Char.ofNat 114, Char.ofNat 110, Char.ofNat 101, Char.ofNat 115, Char.ofNat 115], [Char.ofNat 49, Char.ofNat 101, Char.ofNat 50, Char.ofNat 97, Char.ofNat 56, Char.ofNat 51, Char.ofNat 55, Char.ofNat 101, Char.ofNat 56, Char.ofNat 56, Char.ofNat 98, Char.ofNat 49, Char.ofNat 98, Char.ofNat 102, Char.ofNat 51, Char.ofNat 55, Char.ofNat 56, Char.ofNat 53, Char.ofNat 50, Char.ofNat 97, Char.ofNat 98, Char.ofNat 102, Char.ofNat 97, Char.ofNat 52, Char.ofNat 99, Char.ofNat 102, Char.ofNat 50, Char.ofNat 53, Char.ofNat 98, Char.ofNat 56, Char.ofNat 99, Char.ofNat 53, Char.ofNat 102, Char.ofNat 52, Char.ofNat 50, Char.ofNat 100, Char.ofNat 102, Char.ofNat 97, Char.ofNat 49, Char.ofNat 57, Char.ofNat 98, Char.ofNat 51, Char.ofNat 99, Char.ofNat 50, Char.ofNat 97, Char.ofNat 99, Char.ofNat 51, Char.ofNat 55, Char.ofNat 49, Char.ofNat 57, Char.ofNat 52, Char.ofNat 56, Char.ofNat 52, Char.ofNat 98, Char.ofNat 48, Char.ofNat 49, Char.ofNat 56, Char.ofNat 57, Char.ofNat 53, Char.ofNat 55, Char.ofNat 54, Char.ofNat 50, Char.ofNat 50, Char.ofNat 57], [Char.ofNat 99, Char.ofNat 117, Char.ofNat 116], [Char.ofNat 97, Char.ofNat 116], [Char.ofNat 108, Char.ofNat 111, Char.ofNat 111, Char.ofNat 112, Char.ofNat 46, Char.ofNat 101, Char.ofNat 120, Char.ofNat 97, Char.ofNat 109, Char.ofNat 112, Char.ofNat 108, Char.ofNat 101, Char.ofNat 47, Char.ofNat 112, Char.ofNat 117, Char.ofNat 98, Char.ofNat 45, Char.ofNat 103, Char.ofNat 48, Char.ofNat 51, Char.ofNat 48, Char.ofNat 51, Char.ofNat 51, Char.ofNat 47, Char.ofNat 108, Char.ofNat 97, Char.ofNat 119, Char.ofNat 115, Char.ofNat 46, Char.ofNat 70, Char.ofNat 110, Char.ofNat 84, Char.ofNat 101, Char.ofNat 108, Char.ofNat 108, Char.ofNat 115], [Char.ofNat 108, Char.ofNat 111, Char.ofNat 111, Char.ofNat 112, Char.ofNat 46, Char.ofNat 101, Char.ofNat 120, Char.ofNat 97, Char.ofNat 109, Char.ofNat 112, Char.ofNat 108, Char.ofNat 101, Char.ofNat 47, Char.ofNat 112, Char.ofNat 117, Char.ofNat 98, Char.ofNat 45, Char.ofNat 103, Char.ofNat 48, Char.ofNat 51, Char.ofNat 48, Char.ofNat 51, Char.ofNat 51, Char.ofNat 47, Char.ofNat 108, Char.ofNat 97, Char.ofNat 119, Char.ofNat 115, Char.ofNat 46, Char.ofNat 70, Char.ofNat 110, Char.ofNat 86, Char.ofNat 97, Char.ofNat 108, Char.ofNat 105, Char.ofNat 100, Char.ofNat 73, Char.ofNat 115], [Char.ofNat 108, Char.ofNat 111, Char.ofNat 111, Char.ofNat 112, Char.ofNat 46, Char.ofNat 101, Char.ofNat 120, Char.ofNat 97, Char.ofNat 109, Char.ofNat 112, Char.ofNat 108, Char.ofNat 101, Char.ofNat 47, Char.ofNat 112, Char.ofNat 117, Char.ofNat 98, Char.ofNat 45, Char.ofNat 103, Char.ofNat 48, Char.ofNat 51, Char.ofNat 48, Char.ofNat 51, Char.ofNat 51, Char.ofNat 47, Char.ofNat 108, Char.ofNat 97, Char.ofNat 119, Char.ofNat 115, Char.ofNat 46, Char.ofNat 70, Char.ofNat 110, Char.ofNat 83, Char.ofNat 104, Char.ofNat 97, Char.ofNat 114, Char.ofNat 101, Char.ofNat 100, Char.ofNat 73, Char.ofNat 115], [Char.ofNat 108, Char.ofNat 111, Char.ofNat 111, Char.ofNat 112, Char.ofNat 46, Char.ofNat 101, Char.ofNat 120, Char.ofNat 97, Char.ofNat 109, Char.ofNat 112, Char.ofNat 108, Char.ofNat 101, Char.ofNat 47, Char.ofNat 112, Char.ofNat 117, Char.ofNat 98, Char.ofNat 45, Char.ofNat 103, Char.ofNat 48, Char.ofNat 51, Char.ofNat 48, Char.ofNat 51, Char.ofNat 51, Char.ofNat 47, Char.ofNat 108, Char.ofNat 97, Char.ofNat 119, Char.ofNat 115, Char.ofNat 46, Char.ofNat 70, Char.ofNat 110, Char.ofNat 78, Char.ofNat 101, Char.ofNat 103, Char.ofNat 73, Char.ofNat 115], [Char.ofNat 108, Char.ofNat 111, Char.ofNat 111, Char.ofNat 112, Char.ofNat 46, Char.ofNat 101, Char.ofNat 120, Char.ofNat 97, Char.ofNat 109, Char.ofNat 112, Char.ofNat 108, Char.ofNat 101, Char.ofNat 47, Char.ofNat 112, Char.ofNat 117, Char.ofNat 98, Char.ofNat 45, Char.ofNat 103, Char.ofNat 48, Char.ofNat 51, Char.ofNat 48, Char.ofNat 51, Char.ofNat 51, Char.ofNat 47, Char.ofNat 108, Char.ofNat 97, Char.ofNat 119, Char.ofNat 115, Char.ofNat 46, Char.ofNat 70, Char.ofNat 110, Char.ofNat 82, Char.ofNat 111, Char.ofNat 97, Char.ofNat 100, Char.ofNat 115], [Char.ofNat 108, Char.ofNat 111, Char.ofNat 111, Char.ofNat 112, Char.ofNat 46, Char.ofNat 101, Char.ofNat 120, Char.ofNat 97, Char.ofNat 109, Char.ofNat 112, Char.ofNat 108, Char.ofNat 101, Char.ofNat 47, Char.ofNat 112, Char.ofNat 117, Char.ofNat 98, Char.ofNat 45, Char.ofNat 103, Char.ofNat 48, Char.ofNat 51, Char.ofNat 48, Char.ofNat 51, Char.ofNat 51, Char.ofNat 47, Char.ofNat 108, Char.ofNat 97, Char.ofNat 119, Char.ofNat 115, Char.ofNat 46, Char.ofNat 70, Char.ofNat 110, Char.ofNat 83, Char.ofNat 104, Char.ofNat 97, Char.ofNat 114, Char.ofNat 101, Char.ofNat 100, Char.ofNat 67, Char.ofNat 108, Char.ofNat 97, Char.ofNat 109, Char.ofNat 112, Char.ofNat 101, Char.ofNat 100]] := by
  rw [ioStr, ioChars, String.toList_ofList]; exact ioWords
set_option maxRecDepth 100000 in
theorem words1 : behindMainWord (wordsSigns Tryd.pinned.checked.prog.initOrder.toList) = [[Char.ofNat 99, Char.ofNat 117, Char.ofNat 116], [Char.ofNat 97, Char.ofNat 116], [Char.ofNat 108, Char.ofNat 111, Char.ofNat 111, Char.ofNat 112, Char.ofNat 46, Char.ofNat 101, Char.ofNat 120, Char.ofNat 97, Char.ofNat 109, Char.ofNat 112, Char.ofNat 108, Char.ofNat 101, Char.ofNat 47, Char.ofNat 112, Char.ofNat 117, Char.ofNat 98, Char.ofNat 45, Char.ofNat 103, Char.ofNat 48, Char.ofNat 51, Char.ofNat 48, Char.ofNat 51, Char.ofNat 51, Char.ofNat 47, Char.ofNat 108, Char.ofNat 97, Char.ofNat 119, Char.ofNat 115, Char.ofNat 46, Char.ofNat 70, Char.ofNat 110, Char.ofNat 84, Char.ofNat 101, Char.ofNat 108, Char.ofNat 108, Char.ofNat 115], [Char.ofNat 108, Char.ofNat 111, Char.ofNat 111, Char.ofNat 112, Char.ofNat 46, Char.ofNat 101, Char.ofNat 120, Char.ofNat 97, Char.ofNat 109, Char.ofNat 112, Char.ofNat 108, Char.ofNat 101, Char.ofNat 47, Char.ofNat 112, Char.ofNat 117, Char.ofNat 98, Char.ofNat 45, Char.ofNat 103, Char.ofNat 48, Char.ofNat 51, Char.ofNat 48, Char.ofNat 51, Char.ofNat 51, Char.ofNat 47, Char.ofNat 108, Char.ofNat 97, Char.ofNat 119, Char.ofNat 115, Char.ofNat 46, Char.ofNat 70, Char.ofNat 110, Char.ofNat 86, Char.ofNat 97, Char.ofNat 108, Char.ofNat 105, Char.ofNat 100, Char.ofNat 73, Char.ofNat 115], [Char.ofNat 108, Char.ofNat 111, Char.ofNat 111, Char.ofNat 112, Char.ofNat 46, Char.ofNat 101, Char.ofNat 120, Char.ofNat 97, Char.ofNat 109, Char.ofNat 112, Char.ofNat 108, Char.ofNat 101, Char.ofNat 47, Char.ofNat 112, Char.ofNat 117, Char.ofNat 98, Char.ofNat 45, Char.ofNat 103, Char.ofNat 48, Char.ofNat 51, Char.ofNat 48, Char.ofNat 51, Char.ofNat 51, Char.ofNat 47, Char.ofNat 108, Char.ofNat 97, Char.ofNat 119, Char.ofNat 115, Char.ofNat 46, Char.ofNat 70, Char.ofNat 110, Char.ofNat 83, Char.ofNat 104, Char.ofNat 97, Char.ofNat 114, Char.ofNat 101, Char.ofNat 100, Char.ofNat 73, Char.ofNat 115], [Char.ofNat 108, Char.ofNat 111, Char.ofNat 111, Char.ofNat 112, Char.ofNat 46, Char.ofNat 101, Char.ofNat 120, Char.ofNat 97, Char.ofNat 109, Char.ofNat 112, Char.ofNat 108, Char.ofNat 101, Char.ofNat 47, Char.ofNat 112, Char.ofNat 117, Char.ofNat 98, Char.ofNat 45, Char.ofNat 103, Char.ofNat 48, Char.ofNat 51, Char.ofNat 48, Char.ofNat 51, Char.ofNat 51, Char.ofNat 47, Char.ofNat 108, Char.ofNat 97, Char.ofNat 119, Char.ofNat 115, Char.ofNat 46, Char.ofNat 70, Char.ofNat 110, Char.ofNat 78, Char.ofNat 101, Char.ofNat 103, Char.ofNat 73, Char.ofNat 115], [Char.ofNat 108, Char.ofNat 111, Char.ofNat 111, Char.ofNat 112, Char.ofNat 46, Char.ofNat 101, Char.ofNat 120, Char.ofNat 97, Char.ofNat 109, Char.ofNat 112, Char.ofNat 108, Char.ofNat 101, Char.ofNat 47, Char.ofNat 112, Char.ofNat 117, Char.ofNat 98, Char.ofNat 45, Char.ofNat 103, Char.ofNat 48, Char.ofNat 51, Char.ofNat 48, Char.ofNat 51, Char.ofNat 51, Char.ofNat 47, Char.ofNat 108, Char.ofNat 97, Char.ofNat 119, Char.ofNat 115, Char.ofNat 46, Char.ofNat 70, Char.ofNat 110, Char.ofNat 82, Char.ofNat 111, Char.ofNat 97, Char.ofNat 100, Char.ofNat 115], [Char.ofNat 108, Char.ofNat 111, Char.ofNat 111, Char.ofNat 112, Char.ofNat 46, Char.ofNat 101, Char.ofNat 120, Char.ofNat 97, Char.ofNat 109, Char.ofNat 112, Char.ofNat 108, Char.ofNat 101, Char.ofNat 47, Char.ofNat 112, Char.ofNat 117, Char.ofNat 98, Char.ofNat 45, Char.ofNat 103, Char.ofNat 48, Char.ofNat 51, Char.ofNat 48, Char.ofNat 51, Char.ofNat 51, Char.ofNat 47, Char.ofNat 108, Char.ofNat 97, Char.ofNat 119, Char.ofNat 115, Char.ofNat 46, Char.ofNat 70, Char.ofNat 110, Char.ofNat 83, Char.ofNat 104, Char.ofNat 97, Char.ofNat 114, Char.ofNat 101, Char.ofNat 100, Char.ofNat 67, Char.ofNat 108, Char.ofNat 97, Char.ofNat 109, Char.ofNat 112, Char.ofNat 101, Char.ofNat 100]] := by
  rw [words0]; kernel_rfl
theorem strip_cut (rest : List (List Char)) : stripLifts liftWords ("cut".toList :: rest) = ([], "cut".toList :: rest) := rfl
theorem may_of {P : Program} {rest : List (List Char)} (h : behindMainWord (wordsSigns P.initOrder.toList) = "cut".toList :: rest) (h1 : P.laysLater = false) (h2 : P.bearsReflect = false) (h3 : P.doorFits [] = true) : P.mayEnter = true := by
  unfold Program.mayEnter
  rw [h]
  simp only [strip_cut, h1, h2, h3]
  simp
theorem head_of {P : Program} {rest : List (List Char)} (h : behindMainWord (wordsSigns P.initOrder.toList) = "cut".toList :: rest) : P.headLifts = [] := by
  unfold Program.headLifts
  rw [h, strip_cut]
  simp
theorem lifts_of {P : Program} {rest : List (List Char)} (h : behindMainWord (wordsSigns P.initOrder.toList) = "cut".toList :: rest) : P.liftsFinal = false := by
  unfold Program.liftsFinal
  rw [head_of h, h]
  simp
theorem make_of {P : Program} {rest : List (List Char)} (h : behindMainWord (wordsSigns P.initOrder.toList) = "cut".toList :: rest) : P.make = some .cut := by
  unfold Program.make
  rw [h]
  simp
theorem main_of {P : Program} {s : List Char} {rest : List (List Char)} (h : wordsSigns P.initOrder.toList = "harness".toList :: s :: rest) (hs : isSumSigns s = true) : P.mainIs = some (true, s) := by
  unfold Program.mainIs
  rw [h]
  simp [hs]
theorem lays1 : Tryd.pinned.checked.prog.laysLater = false := by kernel_rfl
theorem bears1 : Tryd.pinned.checked.prog.bearsReflect = false := by kernel_rfl
theorem door1 : Tryd.pinned.checked.prog.doorFits [] = true := by kernel_rfl
theorem may1 : Tryd.pinned.checked.prog.mayEnter = true := may_of words1 lays1 bears1 door1
theorem lifts1 : Tryd.pinned.checked.prog.liftsFinal = false := lifts_of words1
theorem make1 : Tryd.pinned.checked.prog.make = some .cut := make_of words1
theorem main1 : Tryd.pinned.checked.prog.mainIs = some (true, [Char.ofNat 49, Char.ofNat 101, Char.ofNat 50, Char.ofNat 97, Char.ofNat 56, Char.ofNat 51, Char.ofNat 55, Char.ofNat 101, Char.ofNat 56, Char.ofNat 56, Char.ofNat 98, Char.ofNat 49, Char.ofNat 98, Char.ofNat 102, Char.ofNat 51, Char.ofNat 55, Char.ofNat 56, Char.ofNat 53, Char.ofNat 50, Char.ofNat 97, Char.ofNat 98, Char.ofNat 102, Char.ofNat 97, Char.ofNat 52, Char.ofNat 99, Char.ofNat 102, Char.ofNat 50, Char.ofNat 53, Char.ofNat 98, Char.ofNat 56, Char.ofNat 99, Char.ofNat 53, Char.ofNat 102, Char.ofNat 52, Char.ofNat 50, Char.ofNat 100, Char.ofNat 102, Char.ofNat 97, Char.ofNat 49, Char.ofNat 57, Char.ofNat 98, Char.ofNat 51, Char.ofNat 99, Char.ofNat 50, Char.ofNat 97, Char.ofNat 99, Char.ofNat 51, Char.ofNat 55, Char.ofNat 49, Char.ofNat 57, Char.ofNat 52, Char.ofNat 56, Char.ofNat 52, Char.ofNat 98, Char.ofNat 48, Char.ofNat 49, Char.ofNat 56, Char.ofNat 57, Char.ofNat 53, Char.ofNat 55, Char.ofNat 54, Char.ofNat 50, Char.ofNat 50, Char.ofNat 57]) := main_of words0 (by kernel_rfl)
theorem and_i {a b : Bool} (ha : a = true) (hb : b = true) : (a && b) = true := by rw [ha, hb]; rfl
theorem c6 : laidOutB Tryd.pinned.checked.prog = true := by kernel_rfl
theorem c7 : mapsRowed Tryd.pinned.checked.prog = true := by kernel_rfl
theorem c9 : Tryd.pinned.checked.prog.stopsHeard = true := by kernel_rfl
theorem vars_at {P : Program} {W : World} : ∀ {l : List (String × DataW Unit)} {ps : List MemPlace}, DataW.LaidVars P W l ps → ∀ n d, (n, d) ∈ l →
    ∃ g t cs f p, P.globalNamed n = some g ∧ (P.globals[g]?).map (·.type) = some t ∧ W.var? P n = some cs ∧ DataW.trod (fun _ => ()) P W 0 (fun _ => true) false f t cs.toList = some (d, p)
  | [], _, _, _, _, hm => by cases hm
  | (n0, d0) :: l, ps, h, n, d, hm => by
    obtain ⟨g, t, cs, f, p, q, h1, h2, h3, h4, h5, _⟩ := h
    rcases List.mem_cons.1 hm with e | hm
    · cases e; exact ⟨g, t, cs, f, p, h1, h2, h3, h4⟩
    · exact vars_at h5 n d hm
theorem laid_at {P : Program} {W : World} {l : List (String × DataW Unit)} (hp : (l.all fun x => x.2.handleName?.isNone) = true) (h : laidMetH P l W) (i : Nat) {n : String} {d : DataW Unit} (hm : l[i]? = some (n, d)) :
    ∃ g t cs f p, P.globalNamed n = some g ∧ (P.globals[g]?).map (·.type) = some t ∧ W.var? P n = some cs ∧ DataW.trod (fun _ => ()) P W 0 (fun _ => true) false f t cs.toList = some (d, p) := by
  rw [MakeChecks.laidMetH_plain _ _ _ hp] at h
  obtain ⟨ps, h, _⟩ := h
  exact vars_at h n d (List.mem_of_getElem? hm)
theorem trodVars_len {H : Type} {enc : TypeId × Value → H} {P : Program} {W : World} {sp : Nat → Bool} : ∀ {ns : List String} {gs : List (DataW H)} {ps : List MemPlace}, DataW.TrodVars enc P W sp ns gs ps → gs.length = ns.length
  | [], [], _, _ => rfl
  | [], _ :: _, _, h => h.elim
  | _ :: _, [], _, h => h.elim
  | _ :: _, _ :: _, _, h => by
    obtain ⟨_, _, _, _, _, _, _, _, _, _, h5, _⟩ := h
    simp [trodVars_len h5]
section
variable {H : Type} {enc : TypeId × Value → H} {P : Program} {W : World} {b0 : Nat} {sp : Nat → Bool} {held : Bool}
theorem arr_ints {f T U n : Nat} {k : IntKind} {cs : List Value} {ds : List Int} {p : List MemPlace} (hT : P.underlying T = some (.array n U)) (hU : P.underlying U = some (.int k)) (hc : P.cellsOf U = 1)
    (h : DataW.trod enc P W b0 sp held f T cs = some (.agg (ds.map fun x => .lit (.int k x)), p)) : ∀ (i : Nat) (x : Int), ds[i]? = some x → cs[i]? = some (Value.int k x) := by
  obtain ⟨xs, m, _, hx, _, hn, hel⟩ := DataW.trod_array hT h
  have hx1 : ds.map (fun x => (.lit (.int k x) : DataW H)) = xs.map (·.1) := by
    have := congrArg Prod.fst hx
    simpa using this
  intro i x hi
  have h1 : (xs.map (·.1))[i]? = some (DataW.lit (Lit.int k x)) := by rw [← hx1]; simp [hi]
  rw [List.getElem?_map] at h1
  cases hy : xs[i]? with
  | none => simp [hy] at h1
  | some y =>
    rw [hy] at h1
    have hil : i < xs.length := (List.getElem?_eq_some_iff.1 hy).1
    have h2 := hel i (by omega)
    rw [hy, hc] at h2
    obtain ⟨z, e1, e2, _⟩ := DataW.trod_int hU h2
    have h3 : y.1 = DataW.lit (Lit.int k x) := Option.some.inj h1
    rw [e2] at h3
    have hz : z = x := by simpa using h3
    subst hz
    have : ((List.drop (i * 1) cs).take 1)[0]? = some (Value.int k z) := by rw [e1]; rfl
    simpa [List.getElem?_take, List.getElem?_drop] using this
theorem arr_arr {f T E n m : Nat} {cs : List Value} {ds : List (DataW H)} {p : List MemPlace} (hT : P.underlying T = some (.array n E)) (hc : P.cellsOf E = m)
    (h : DataW.trod enc P W b0 sp held f T cs = some (.agg ds, p)) : ∀ i d, ds[i]? = some d → ∃ f' p', DataW.trod enc P W b0 sp held f' E ((cs.drop (i * m)).take m) = some (d, p') := by
  obtain ⟨xs, m', _, hx, _, hn, hel⟩ := DataW.trod_array hT h
  have hx1 : ds = xs.map (·.1) := by
    have := congrArg Prod.fst hx
    simpa using this
  intro i d hi
  rw [hx1, List.getElem?_map] at hi
  cases hy : xs[i]? with
  | none => simp [hy] at hi
  | some y =>
    rw [hy] at hi
    have hil : i < xs.length := (List.getElem?_eq_some_iff.1 hy).1
    have h2 := hel i (by omega)
    rw [hy, hc] at h2
    exact ⟨m', y.2, by rw [h2, ← Option.some.inj hi]⟩
theorem iface_cell {f T : Nat} {ms : Array (String × TypeId)} {cs : List Value} {s : String} {d : DataW H} {p : List MemPlace} (hT : P.underlying T = some (.interface ms))
    (h : DataW.trod enc P W b0 sp held f T cs = some (.iface s d, p)) : ∃ u x, cs = [.iface u x] := by
  cases f with
  | zero => simp [DataW.trod] at h
  | succ m =>
    unfold DataW.trod at h
    rw [hT] at h
    split at h <;> simp_all
end
open Go.WideElems in
theorem trod_lt {H : Type} {enc : TypeId × Value → H} {P : Program} {t : TypeId} {W : World} {v : Value} {d : DataW H} {ps : List MemPlace} (h : DataW.Trod enc P W 0 (fun _ => true) true t v d ps) :
    ∀ x ∈ ps, x.block < W.heap.size := by
  obtain ⟨n, h⟩ := h
  exact DataW.trod_lt n _ _ _ h
theorem cU8 : Tryd.prog.cellsOf 5 = 1 := by kernel_rfl
theorem cElt : Tryd.prog.cellsOf 41 = 32 := by kernel_rfl
/-- The variable that holds the prime. -/
def PG (w : World) : Prop := ∀ j, j < (byA 32 p25).size → w.cell? ⟨0, 0 + j, none⟩ = (byA 32 p25)[j]?
/-- The five listed points. -/
abbrev lowL : List Nat := [0, 1, 325606250916557431795983626356110631294008115727848805560023387167927233504, 39382357235489614581723060781553021112529911719440698176882885853963445705823, 57896044618658097711785492504343953926634992332820282019728792003956564819948]
/-- The variable that holds them. -/
def LG (w : World) : Prop := ∀ j, j < (elA lowL).size → w.cell? ⟨1, 0 + j, none⟩ = (elA lowL)[j]?
theorem PG.sn {D : Nat → Bool} {w0 w : World} (h : PG w0) (hs : Sn D w0 w) (hd : D 0 = false) : PG w := fun j hj => by
  have e : (byA 32 p25)[j]? = some (byA 32 p25)[j] := by simp
  rw [e]; exact hs.cell ((h j hj).trans e) hd
theorem LG.sn {D : Nat → Bool} {w0 w : World} (h : LG w0) (hs : Sn D w0 w) (hd : D 1 = false) : LG w := fun j hj => by
  have e : (elA lowL)[j]? = some (elA lowL)[j] := by simp
  rw [e]; exact hs.cell ((h j hj).trans e) hd
theorem PG.lt {w : World} (h : PG w) : 0 < w.heap.size := World.block_lt_of_cell? w ⟨0, 0 + 0, none⟩ (h 0 (by rw [byA_size]; decide))
theorem LG.lt {w : World} (h : LG w) : 1 < w.heap.size := World.block_lt_of_cell? w ⟨1, 0 + 0, none⟩ ((h 0 (by rw [elA_size]; decide)).trans (elA_at (q := 0) (v := 0) (j := 0) rfl (by decide)))
theorem gvP : Tryd.prog.globalNamed "loop.example/pub-g03033/pub/circl/math/fp25519.p" = some 0 := by kernel_rfl
theorem gtP : (Tryd.prog.globals[0]?).map (·.type) = some 41 := by kernel_rfl
theorem gvL : Tryd.prog.globalNamed "loop.example/pub-g03033/pub/circl/dh/x25519.lowOrderPoints" = some 1 := by kernel_rfl
theorem gtL : (Tryd.prog.globals[1]?).map (·.type) = some 64 := by kernel_rfl
def dP : List Int := [237, 255, 255, 255, 255, 255, 255, 255, 255, 255, 255, 255, 255, 255, 255, 255, 255, 255, 255, 255, 255, 255, 255, 255, 255, 255, 255, 255, 255, 255, 255, 127]
theorem dP_at : ∀ j, j < 32 → dP[j]? = some ((p25 / 256 ^ j % 256 : Nat) : Int) := by decide +kernel
set_option maxRecDepth 100000 in
theorem dP_laid : (Rows.laid_loop_example_pub_g03033_pub_circl_math_fp25519_p : DataW Unit) = .agg (dP.map fun x => .lit (.int .u8 x)) := rfl
theorem pg_at {W : World} (h : ∃ g t cs f p, Tryd.prog.globalNamed "loop.example/pub-g03033/pub/circl/math/fp25519.p" = some g ∧ (Tryd.prog.globals[g]?).map (·.type) = some t ∧ W.var? Tryd.prog "loop.example/pub-g03033/pub/circl/math/fp25519.p" = some cs ∧ DataW.trod (fun _ => ()) Tryd.prog W 0 (fun _ => true) false f t cs.toList = some (Rows.laid_loop_example_pub_g03033_pub_circl_math_fp25519_p, p)) : PG W := by
  obtain ⟨g, t, cs, f, p, h1, h2, h3, h4⟩ := h
  obtain rfl := Option.some.inj (gvP.symm.trans h1)
  obtain rfl := Option.some.inj (gtP.symm.trans h2)
  rw [dP_laid] at h4
  intro j hj
  rw [byA_size] at hj
  have h5 := arr_ints Tryd.underlying41 Tryd.underlying5 cU8 h4 j _ (dP_at j hj)
  rw [Nat.zero_add, World.var?_cell h1 h3 j, byA_get hj]
  simpa [bv] using h5
def dL0 : List Int := [0, 0, 0, 0, 0, 0, 0, 0, 0, 0, 0, 0, 0, 0, 0, 0, 0, 0, 0, 0, 0, 0, 0, 0, 0, 0, 0, 0, 0, 0, 0, 0]
theorem dL0_at : ∀ j, j < 32 → dL0[j]? = some ((0 / 256 ^ j % 256 : Nat) : Int) := by decide +kernel
def dL1 : List Int := [1, 0, 0, 0, 0, 0, 0, 0, 0, 0, 0, 0, 0, 0, 0, 0, 0, 0, 0, 0, 0, 0, 0, 0, 0, 0, 0, 0, 0, 0, 0, 0]
theorem dL1_at : ∀ j, j < 32 → dL1[j]? = some ((1 / 256 ^ j % 256 : Nat) : Int) := by decide +kernel
def dL2 : List Int := [224, 235, 122, 124, 59, 65, 184, 174, 22, 86, 227, 250, 241, 159, 196, 106, 218, 9, 141, 235, 156, 50, 177, 253, 134, 98, 5, 22, 95, 73, 184, 0]
theorem dL2_at : ∀ j, j < 32 → dL2[j]? = some ((325606250916557431795983626356110631294008115727848805560023387167927233504 / 256 ^ j % 256 : Nat) : Int) := by decide +kernel
def dL3 : List Int := [95, 156, 149, 188, 163, 80, 140, 36, 177, 208, 177, 85, 156, 131, 239, 91, 4, 68, 92, 196, 88, 28, 142, 134, 216, 34, 78, 221, 208, 159, 17, 87]
theorem dL3_at : ∀ j, j < 32 → dL3[j]? = some ((39382357235489614581723060781553021112529911719440698176882885853963445705823 / 256 ^ j % 256 : Nat) : Int) := by decide +kernel
def dL4 : List Int := [236, 255, 255, 255, 255, 255, 255, 255, 255, 255, 255, 255, 255, 255, 255, 255, 255, 255, 255, 255, 255, 255, 255, 255, 255, 255, 255, 255, 255, 255, 255, 127]
theorem dL4_at : ∀ j, j < 32 → dL4[j]? = some ((57896044618658097711785492504343953926634992332820282019728792003956564819948 / 256 ^ j % 256 : Nat) : Int) := by decide +kernel
set_option maxRecDepth 100000 in
theorem dL_laid : (Rows.laid_loop_example_pub_g03033_pub_circl_dh_x25519_lowOrderPoints : DataW Unit) = .agg [.agg (dL0.map fun x => .lit (.int .u8 x)), .agg (dL1.map fun x => .lit (.int .u8 x)), .agg (dL2.map fun x => .lit (.int .u8 x)), .agg (dL3.map fun x => .lit (.int .u8 x)), .agg (dL4.map fun x => .lit (.int .u8 x))] := rfl
theorem lg_at {W : World} (h : ∃ g t cs f p, Tryd.prog.globalNamed "loop.example/pub-g03033/pub/circl/dh/x25519.lowOrderPoints" = some g ∧ (Tryd.prog.globals[g]?).map (·.type) = some t ∧ W.var? Tryd.prog "loop.example/pub-g03033/pub/circl/dh/x25519.lowOrderPoints" = some cs ∧ DataW.trod (fun _ => ()) Tryd.prog W 0 (fun _ => true) false f t cs.toList = some (Rows.laid_loop_example_pub_g03033_pub_circl_dh_x25519_lowOrderPoints, p)) : LG W := by
  obtain ⟨g, t, cs, f, p, h1, h2, h3, h4⟩ := h
  obtain rfl := Option.some.inj (gvL.symm.trans h1)
  obtain rfl := Option.some.inj (gtL.symm.trans h2)
  rw [dL_laid] at h4
  have hA := arr_arr Tryd.underlying64 cElt h4
  intro k hk
  rw [elA_size] at hk
  have hk' : k < 160 := hk
  obtain ⟨i, j, hi, hj, rfl⟩ : ∃ i j, i < 5 ∧ j < 32 ∧ k = 32 * i + j := ⟨k / 32, k % 32, by omega, by omega, by omega⟩
  have key : ∀ (ds : List Int) (x : Nat), (∀ j, j < 32 → ds[j]? = some ((x / 256 ^ j % 256 : Nat) : Int)) → ([.agg (dL0.map fun x => .lit (.int .u8 x)), .agg (dL1.map fun x => .lit (.int .u8 x)), .agg (dL2.map fun x => .lit (.int .u8 x)), .agg (dL3.map fun x => .lit (.int .u8 x)), .agg (dL4.map fun x => .lit (.int .u8 x))] : List (DataW Unit))[i]? = some (.agg (ds.map fun x => .lit (.int .u8 x))) → lowL[i]? = some x → W.cell? ⟨1, 0 + (32 * i + j), none⟩ = (elA lowL)[32 * i + j]? := fun ds x hd he hx => by
    obtain ⟨f', p', h5⟩ := hA i _ he
    have h6 := arr_ints Tryd.underlying41 Tryd.underlying5 cU8 h5 j _ (hd j hj)
    rw [List.getElem?_take, if_pos hj, List.getElem?_drop] at h6
    rw [Nat.zero_add, World.var?_cell h1 h3 (32 * i + j), elA_at hx hj, show 32 * i + j = i * 32 + j by omega]
    simpa [bv] using h6
  rcases (show i = 0 ∨ i = 1 ∨ i = 2 ∨ i = 3 ∨ i = 4 by omega) with rfl | rfl | rfl | rfl | rfl
  · exact key dL0 0 dL0_at rfl rfl
  · exact key dL1 1 dL1_at rfl rfl
  · exact key dL2 325606250916557431795983626356110631294008115727848805560023387167927233504 dL2_at rfl rfl
  · exact key dL3 39382357235489614581723060781553021112529911719440698176882885853963445705823 dL3_at rfl rfl
  · exact key dL4 57896044618658097711785492504343953926634992332820282019728792003956564819948 dL4_at rfl rfl
end Go.Proofs.YteehdjkmjncehaaDoor
