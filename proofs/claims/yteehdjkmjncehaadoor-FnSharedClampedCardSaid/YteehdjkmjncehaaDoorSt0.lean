
/-
  Bounds of residues; the literal of five numbers.
-/
import Derived.Test.YteehdjkmjncehaaDoorFree2
import Derived.Test.YteehdjkmjncehaaDoorMid
namespace Go.Proofs.YteehdjkmjncehaaDoor
open Go.RowKit
theorem lt256 (a : Nat) : a % p25 < 2 ^ 256 := Nat.lt_trans (Nat.mod_lt _ (by decide +kernel)) p25_lt
theorem sub256 (a b : Nat) : subN a b < 2 ^ 256 := Nat.lt_trans (subN_lt a b) p25_lt
set_option maxRecDepth 100000 in
theorem built_5 (a b c d e : Nat) : Tryd.prog.built 49 [(0, nV a), (1, nV b), (2, nV c), (3, nV d), (4, nV e)] = some (dgA 80 (w5F a b c d e)) := by kernel_rfl
end Go.Proofs.YteehdjkmjncehaaDoor
