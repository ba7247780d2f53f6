/-
  DERIVED. GIVEN WITH THE SEED: THE CARDS: each row of YtjjofnjhnoobpaaDoorRows.lean that lists a variable, with what it lists TIED to the program's text (the seventh form; the later family's looks); each row that meets fmt, with fmt's text TOLD by the authors' own Lean function (tested against real Go, not proved from fmt's source: count such statements apart). THE CARD IS WHAT COUNTS. Prove the row's statement (the work); the ties are given (YtjjofnjhnoobpaaDoorTie.lean); close each card by the builder's one call (the guide's Derived/Test/ToyasCard.lean, 'card_holds'). Laid BY PROGRAM, IN A SANDBOX (cutbox-door.mjs). By AI agents, Wed Nov 11 2026. No macro, syntax, notation, axiom, sorry.
-/
import Derived.Test.YtjjofnjhnoobpaaDoorRows
import GoSem.ClaimSeven
namespace Go.Proofs.YtjjofnjhnoobpaaDoor
namespace Rows

/-- THE TIED CARD OF 'laws.FnRoot64'. -/
def fnRoot64Card : Claim7 := { stood := { row := fnRoot64Row, standIns := [], harness := (true, "1b88b9467dc3bedb027f4890288919cb5219d03bb2c885e757b9839759484f27"), looks := false }, kinds := [], alts := [], laidByText := true, laidKinds := [.data, .sentinel], laidTests := true, laidLooks := .later }
def FnRoot64CardSaid : Prop := Claim7.holds Tryd.pinned (.plain (OpenSpec.ofChange fnRoot64Spec)) fnRoot64Card

/-- THE TIED CARD OF 'laws.FnTells64'. -/
def fnTells64Card : Claim7 := { stood := { row := fnTells64Row, standIns := [], harness := (true, "1b88b9467dc3bedb027f4890288919cb5219d03bb2c885e757b9839759484f27"), looks := false }, kinds := [], alts := [], laidByText := true, laidKinds := [.data, .data], laidTests := true, laidLooks := .later }
def FnTells64CardSaid : Prop := Claim7.holds Tryd.pinned (.plain (OpenSpec.ofChange fnTells64Spec)) fnTells64Card

/-- THE TIED CARD OF 'laws.FnOf64'. -/
def fnOf64Card : Claim7 := { stood := { row := fnOf64Row, standIns := [], harness := (true, "1b88b9467dc3bedb027f4890288919cb5219d03bb2c885e757b9839759484f27"), looks := false }, kinds := [], alts := [], laidByText := true, laidKinds := [.data, .sentinel], laidTests := true, laidLooks := .later }
def FnOf64CardSaid : Prop := Claim7.holds Tryd.pinned (.plain (OpenSpec.ofChange fnOf64Spec)) fnOf64Card

/-- THE TIED CARD OF 'laws.FnRing64'. -/
def fnRing64Card : Claim7 := { stood := { row := fnRing64Row, standIns := [], harness := (true, "1b88b9467dc3bedb027f4890288919cb5219d03bb2c885e757b9839759484f27"), looks := false }, kinds := [], alts := [], laidByText := true, laidKinds := [.data], laidTests := true, laidLooks := .later }
def FnRing64CardSaid : Prop := Claim7.holds Tryd.pinned (.plain (OpenSpec.ofChange fnRing64Spec)) fnRing64Card

/-- THE TIED CARD OF 'laws.FnMul64Is'. -/
def fnMul64IsCard : Claim7 := { stood := { row := fnMul64IsRow, standIns := [], harness := (true, "1b88b9467dc3bedb027f4890288919cb5219d03bb2c885e757b9839759484f27"), looks := false }, kinds := [], alts := [], laidByText := true, laidKinds := [.data], laidTests := true, laidLooks := .later }
def FnMul64IsCardSaid : Prop := Claim7.holds Tryd.pinned (.plain (OpenSpec.ofChange fnMul64IsSpec)) fnMul64IsCard

/-- THE TIED CARD OF 'laws.FnEvaluate64'. -/
def fnEvaluate64Card : Claim7 := { stood := { row := fnEvaluate64Row, standIns := [], harness := (true, "1b88b9467dc3bedb027f4890288919cb5219d03bb2c885e757b9839759484f27"), looks := false }, kinds := [], alts := [], laidByText := true, laidKinds := [.data], laidTests := true, laidLooks := .later }
def FnEvaluate64CardSaid : Prop := Claim7.holds Tryd.pinned (.plain (OpenSpec.ofChange fnEvaluate64Spec)) fnEvaluate64Card

/-- THE TIED CARD OF 'laws.FnAdd64Is'. -/
def fnAdd64IsCard : Claim7 := { stood := { row := fnAdd64IsRow, standIns := [], harness := (true, "1b88b9467dc3bedb027f4890288919cb5219d03bb2c885e757b9839759484f27"), looks := false }, kinds := [], alts := [], laidByText := true, laidKinds := [.data], laidTests := true, laidLooks := .later }
def FnAdd64IsCardSaid : Prop := Claim7.holds Tryd.pinned (.plain (OpenSpec.ofChange fnAdd64IsSpec)) fnAdd64IsCard

/-- THE TIED CARD OF 'laws.FnStrip64'. -/
def fnStrip64Card : Claim7 := { stood := { row := fnStrip64Row, standIns := [], harness := (true, "1b88b9467dc3bedb027f4890288919cb5219d03bb2c885e757b9839759484f27"), looks := false }, kinds := [], alts := [], laidByText := true, laidKinds := [.data], laidTests := true, laidLooks := .later }
def FnStrip64CardSaid : Prop := Claim7.holds Tryd.pinned (.plain (OpenSpec.ofChange fnStrip64Spec)) fnStrip64Card

/-- THE TIED CARD OF 'laws.FnOrder64'. -/
def fnOrder64Card : Claim7 := { stood := { row := fnOrder64Row, standIns := [], harness := (true, "1b88b9467dc3bedb027f4890288919cb5219d03bb2c885e757b9839759484f27"), looks := false }, kinds := [], alts := [], laidByText := true, laidKinds := [.data], laidTests := true, laidLooks := .later }
def FnOrder64CardSaid : Prop := Claim7.holds Tryd.pinned (.plain (OpenSpec.ofChange fnOrder64Spec)) fnOrder64Card

/-- THE TIED CARD OF 'laws.FnRootRoad64'. -/
def fnRootRoad64Card : Claim7 := { stood := { row := fnRootRoad64Row, standIns := [], harness := (true, "1b88b9467dc3bedb027f4890288919cb5219d03bb2c885e757b9839759484f27"), looks := false }, kinds := [], alts := [], laidByText := true, laidKinds := [.data, .data, .sentinel], laidTests := true, laidLooks := .later }
def FnRootRoad64CardSaid : Prop := Claim7.holds Tryd.pinned (.plain (OpenSpec.ofChange fnRootRoad64Spec)) fnRootRoad64Card

/-- THE TIED CARD OF 'laws.FnJoin64Is'. -/
def fnJoin64IsCard : Claim7 := { stood := { row := fnJoin64IsRow, standIns := [], harness := (true, "1b88b9467dc3bedb027f4890288919cb5219d03bb2c885e757b9839759484f27"), looks := false }, kinds := [], alts := [], laidByText := true, laidKinds := [.data, .sentinel], laidTests := true, laidLooks := .later }
def FnJoin64IsCardSaid : Prop := Claim7.holds Tryd.pinned (.plain (OpenSpec.ofChange fnJoin64IsSpec)) fnJoin64IsCard

/-- THE TIED CARD OF 'laws.FnInvOf64'. -/
def fnInvOf64Card : Claim7 := { stood := { row := fnInvOf64Row, standIns := [], harness := (true, "1b88b9467dc3bedb027f4890288919cb5219d03bb2c885e757b9839759484f27"), looks := false }, kinds := [], alts := [], laidByText := true, laidKinds := [.data, .data, .data, .data, .sentinel], laidTests := true, laidLooks := .later }
def FnInvOf64CardSaid : Prop := Claim7.holds Tryd.pinned (.plain (OpenSpec.ofChange fnInvOf64Spec)) fnInvOf64Card

/-- THE TIED CARD OF 'laws.FnInv64'. -/
def fnInv64Card : Claim7 := { stood := { row := fnInv64Row, standIns := [], harness := (true, "1b88b9467dc3bedb027f4890288919cb5219d03bb2c885e757b9839759484f27"), looks := false }, kinds := [], alts := [], laidByText := true, laidKinds := [.data, .data], laidTests := true, laidLooks := .later }
def FnInv64CardSaid : Prop := Claim7.holds Tryd.pinned (.plain (OpenSpec.ofChange fnInv64Spec)) fnInv64Card

/-- THE TIED CARD OF 'laws.FnPolySqr64'. -/
def fnPolySqr64Card : Claim7 := { stood := { row := fnPolySqr64Row, standIns := [], harness := (true, "1b88b9467dc3bedb027f4890288919cb5219d03bb2c885e757b9839759484f27"), looks := false }, kinds := [], alts := [], laidByText := true, laidKinds := [.data, .sentinel], laidTests := true, laidLooks := .later }
def FnPolySqr64CardSaid : Prop := Claim7.holds Tryd.pinned (.plain (OpenSpec.ofChange fnPolySqr64Spec)) fnPolySqr64Card

/-- THE TIED CARD OF 'laws.FnBits64'. -/
def fnBits64Card : Claim7 := { stood := { row := fnBits64Row, standIns := [], harness := (true, "1b88b9467dc3bedb027f4890288919cb5219d03bb2c885e757b9839759484f27"), looks := false }, kinds := [], alts := [], laidByText := true, laidKinds := [.data, .data, .sentinel, .sentinel], laidTests := true, laidLooks := .later }
def FnBits64CardSaid : Prop := Claim7.holds Tryd.pinned (.plain (OpenSpec.ofChange fnBits64Spec)) fnBits64Card

/-- THE TIED CARD OF 'laws.FnVec64Is'. -/
def fnVec64IsCard : Claim7 := { stood := { row := fnVec64IsRow, standIns := [], harness := (true, "1b88b9467dc3bedb027f4890288919cb5219d03bb2c885e757b9839759484f27"), looks := false }, kinds := [], alts := [], laidByText := true, laidKinds := [.data, .sentinel], laidTests := true, laidLooks := .later }
def FnVec64IsCardSaid : Prop := Claim7.holds Tryd.pinned (.plain (OpenSpec.ofChange fnVec64IsSpec)) fnVec64IsCard

/-- THE TIED CARD OF 'laws.FnNTT64Is'. -/
def fnNTT64IsCard : Claim7 := { stood := { row := fnNTT64IsRow, standIns := [], harness := (true, "1b88b9467dc3bedb027f4890288919cb5219d03bb2c885e757b9839759484f27"), looks := false }, kinds := [], alts := [], laidByText := true, laidKinds := [.data, .data, .data, .data, .sentinel], laidTests := true, laidLooks := .later }
def FnNTT64IsCardSaid : Prop := Claim7.holds Tryd.pinned (.plain (OpenSpec.ofChange fnNTT64IsSpec)) fnNTT64IsCard

/-- THE TIED CARD OF 'laws.FnPolyMul64'. -/
def fnPolyMul64Card : Claim7 := { stood := { row := fnPolyMul64Row, standIns := [], harness := (true, "1b88b9467dc3bedb027f4890288919cb5219d03bb2c885e757b9839759484f27"), looks := false }, kinds := [], alts := [], laidByText := true, laidKinds := [.data, .data, .data, .data, .data, .sentinel, .sentinel], laidTests := true, laidLooks := .later }
def FnPolyMul64CardSaid : Prop := Claim7.holds Tryd.pinned (.plain (OpenSpec.ofChange fnPolyMul64Spec)) fnPolyMul64Card

/-- THE SECOND FORM's CARD OF 'laws.FnRoot64'. -/
def fnRoot64UptoCard : Claim7 := { stood := { row := fnRoot64UptoRow, standIns := [], harness := (true, "1b88b9467dc3bedb027f4890288919cb5219d03bb2c885e757b9839759484f27"), looks := false }, kinds := [], alts := [], laidByText := true, laidKinds := [.data, .sentinel], laidTests := true, laidLooks := .later }
def FnRoot64UptoCardSaid : Prop := Claim7.holds Tryd.pinned (.plain (OpenSpec.upto fnRoot64Spec)) fnRoot64UptoCard

/-- THE SECOND FORM's CARD OF 'laws.FnTells64'. -/
def fnTells64UptoCard : Claim7 := { stood := { row := fnTells64UptoRow, standIns := [], harness := (true, "1b88b9467dc3bedb027f4890288919cb5219d03bb2c885e757b9839759484f27"), looks := false }, kinds := [], alts := [], laidByText := true, laidKinds := [.data, .data], laidTests := true, laidLooks := .later }
def FnTells64UptoCardSaid : Prop := Claim7.holds Tryd.pinned (.plain (OpenSpec.upto fnTells64Spec)) fnTells64UptoCard

/-- THE SECOND FORM's CARD OF 'laws.FnOf64'. -/
def fnOf64UptoCard : Claim7 := { stood := { row := fnOf64UptoRow, standIns := [], harness := (true, "1b88b9467dc3bedb027f4890288919cb5219d03bb2c885e757b9839759484f27"), looks := false }, kinds := [], alts := [], laidByText := true, laidKinds := [.data, .sentinel], laidTests := true, laidLooks := .later }
def FnOf64UptoCardSaid : Prop := Claim7.holds Tryd.pinned (.plain (OpenSpec.upto fnOf64Spec)) fnOf64UptoCard

/-- THE SECOND FORM's CARD OF 'laws.FnRing64'. -/
def fnRing64UptoCard : Claim7 := { stood := { row := fnRing64UptoRow, standIns := [], harness := (true, "1b88b9467dc3bedb027f4890288919cb5219d03bb2c885e757b9839759484f27"), looks := false }, kinds := [], alts := [], laidByText := true, laidKinds := [.data], laidTests := true, laidLooks := .later }
def FnRing64UptoCardSaid : Prop := Claim7.holds Tryd.pinned (.plain (OpenSpec.upto fnRing64Spec)) fnRing64UptoCard

/-- THE SECOND FORM's CARD OF 'laws.FnMul64Is'. -/
def fnMul64IsUptoCard : Claim7 := { stood := { row := fnMul64IsUptoRow, standIns := [], harness := (true, "1b88b9467dc3bedb027f4890288919cb5219d03bb2c885e757b9839759484f27"), looks := false }, kinds := [], alts := [], laidByText := true, laidKinds := [.data], laidTests := true, laidLooks := .later }
def FnMul64IsUptoCardSaid : Prop := Claim7.holds Tryd.pinned (.plain (OpenSpec.upto fnMul64IsSpec)) fnMul64IsUptoCard

/-- THE SECOND FORM's CARD OF 'laws.FnEvaluate64'. -/
def fnEvaluate64UptoCard : Claim7 := { stood := { row := fnEvaluate64UptoRow, standIns := [], harness := (true, "1b88b9467dc3bedb027f4890288919cb5219d03bb2c885e757b9839759484f27"), looks := false }, kinds := [], alts := [], laidByText := true, laidKinds := [.data], laidTests := true, laidLooks := .later }
def FnEvaluate64UptoCardSaid : Prop := Claim7.holds Tryd.pinned (.plain (OpenSpec.upto fnEvaluate64Spec)) fnEvaluate64UptoCard

/-- THE SECOND FORM's CARD OF 'laws.FnAdd64Is'. -/
def fnAdd64IsUptoCard : Claim7 := { stood := { row := fnAdd64IsUptoRow, standIns := [], harness := (true, "1b88b9467dc3bedb027f4890288919cb5219d03bb2c885e757b9839759484f27"), looks := false }, kinds := [], alts := [], laidByText := true, laidKinds := [.data], laidTests := true, laidLooks := .later }
def FnAdd64IsUptoCardSaid : Prop := Claim7.holds Tryd.pinned (.plain (OpenSpec.upto fnAdd64IsSpec)) fnAdd64IsUptoCard

/-- THE SECOND FORM's CARD OF 'laws.FnStrip64'. -/
def fnStrip64UptoCard : Claim7 := { stood := { row := fnStrip64UptoRow, standIns := [], harness := (true, "1b88b9467dc3bedb027f4890288919cb5219d03bb2c885e757b9839759484f27"), looks := false }, kinds := [], alts := [], laidByText := true, laidKinds := [.data], laidTests := true, laidLooks := .later }
def FnStrip64UptoCardSaid : Prop := Claim7.holds Tryd.pinned (.plain (OpenSpec.upto fnStrip64Spec)) fnStrip64UptoCard

/-- THE SECOND FORM's CARD OF 'laws.FnOrder64'. -/
def fnOrder64UptoCard : Claim7 := { stood := { row := fnOrder64UptoRow, standIns := [], harness := (true, "1b88b9467dc3bedb027f4890288919cb5219d03bb2c885e757b9839759484f27"), looks := false }, kinds := [], alts := [], laidByText := true, laidKinds := [.data], laidTests := true, laidLooks := .later }
def FnOrder64UptoCardSaid : Prop := Claim7.holds Tryd.pinned (.plain (OpenSpec.upto fnOrder64Spec)) fnOrder64UptoCard

/-- THE SECOND FORM's CARD OF 'laws.FnRootRoad64'. -/
def fnRootRoad64UptoCard : Claim7 := { stood := { row := fnRootRoad64UptoRow, standIns := [], harness := (true, "1b88b9467dc3bedb027f4890288919cb5219d03bb2c885e757b9839759484f27"), looks := false }, kinds := [], alts := [], laidByText := true, laidKinds := [.data, .data, .sentinel], laidTests := true, laidLooks := .later }
def FnRootRoad64UptoCardSaid : Prop := Claim7.holds Tryd.pinned (.plain (OpenSpec.upto fnRootRoad64Spec)) fnRootRoad64UptoCard

/-- THE SECOND FORM's CARD OF 'laws.FnJoin64Is'. -/
def fnJoin64IsUptoCard : Claim7 := { stood := { row := fnJoin64IsUptoRow, standIns := [], harness := (true, "1b88b9467dc3bedb027f4890288919cb5219d03bb2c885e757b9839759484f27"), looks := false }, kinds := [], alts := [], laidByText := true, laidKinds := [.data, .sentinel], laidTests := true, laidLooks := .later }
def FnJoin64IsUptoCardSaid : Prop := Claim7.holds Tryd.pinned (.plain (OpenSpec.upto fnJoin64IsSpec)) fnJoin64IsUptoCard

/-- THE SECOND FORM's CARD OF 'laws.FnInvOf64'. -/
def fnInvOf64UptoCard : Claim7 := { stood := { row := fnInvOf64UptoRow, standIns := [], harness := (true, "1b88b9467dc3bedb027f4890288919cb5219d03bb2c885e757b9839759484f27"), looks := false }, kinds := [], alts := [], laidByText := true, laidKinds := [.data, .data, .data, .data, .sentinel], laidTests := true, laidLooks := .later }
def FnInvOf64UptoCardSaid : Prop := Claim7.holds Tryd.pinned (.plain (OpenSpec.upto fnInvOf64Spec)) fnInvOf64UptoCard

/-- THE SECOND FORM's CARD OF 'laws.FnInv64'. -/
def fnInv64UptoCard : Claim7 := { stood := { row := fnInv64UptoRow, standIns := [], harness := (true, "1b88b9467dc3bedb027f4890288919cb5219d03bb2c885e757b9839759484f27"), looks := false }, kinds := [], alts := [], laidByText := true, laidKinds := [.data, .data], laidTests := true, laidLooks := .later }
def FnInv64UptoCardSaid : Prop := Claim7.holds Tryd.pinned (.plain (OpenSpec.upto fnInv64Spec)) fnInv64UptoCard

/-- THE SECOND FORM's CARD OF 'laws.FnPolySqr64'. -/
def fnPolySqr64UptoCard : Claim7 := { stood := { row := fnPolySqr64UptoRow, standIns := [], harness := (true, "1b88b9467dc3bedb027f4890288919cb5219d03bb2c885e757b9839759484f27"), looks := false }, kinds := [], alts := [], laidByText := true, laidKinds := [.data, .sentinel], laidTests := true, laidLooks := .later }
def FnPolySqr64UptoCardSaid : Prop := Claim7.holds Tryd.pinned (.plain (OpenSpec.upto fnPolySqr64Spec)) fnPolySqr64UptoCard

/-- THE SECOND FORM's CARD OF 'laws.FnBits64'. -/
def fnBits64UptoCard : Claim7 := { stood := { row := fnBits64UptoRow, standIns := [], harness := (true, "1b88b9467dc3bedb027f4890288919cb5219d03bb2c885e757b9839759484f27"), looks := false }, kinds := [], alts := [], laidByText := true, laidKinds := [.data, .data, .sentinel, .sentinel], laidTests := true, laidLooks := .later }
def FnBits64UptoCardSaid : Prop := Claim7.holds Tryd.pinned (.plain (OpenSpec.upto fnBits64Spec)) fnBits64UptoCard

/-- THE SECOND FORM's CARD OF 'laws.FnVec64Is'. -/
def fnVec64IsUptoCard : Claim7 := { stood := { row := fnVec64IsUptoRow, standIns := [], harness := (true, "1b88b9467dc3bedb027f4890288919cb5219d03bb2c885e757b9839759484f27"), looks := false }, kinds := [], alts := [], laidByText := true, laidKinds := [.data, .sentinel], laidTests := true, laidLooks := .later }
def FnVec64IsUptoCardSaid : Prop := Claim7.holds Tryd.pinned (.plain (OpenSpec.upto fnVec64IsSpec)) fnVec64IsUptoCard

/-- THE SECOND FORM's CARD OF 'laws.FnNTT64Is'. -/
def fnNTT64IsUptoCard : Claim7 := { stood := { row := fnNTT64IsUptoRow, standIns := [], harness := (true, "1b88b9467dc3bedb027f4890288919cb5219d03bb2c885e757b9839759484f27"), looks := false }, kinds := [], alts := [], laidByText := true, laidKinds := [.data, .data, .data, .data, .sentinel], laidTests := true, laidLooks := .later }
def FnNTT64IsUptoCardSaid : Prop := Claim7.holds Tryd.pinned (.plain (OpenSpec.upto fnNTT64IsSpec)) fnNTT64IsUptoCard

/-- THE SECOND FORM's CARD OF 'laws.FnPolyMul64'. -/
def fnPolyMul64UptoCard : Claim7 := { stood := { row := fnPolyMul64UptoRow, standIns := [], harness := (true, "1b88b9467dc3bedb027f4890288919cb5219d03bb2c885e757b9839759484f27"), looks := false }, kinds := [], alts := [], laidByText := true, laidKinds := [.data, .data, .data, .data, .data, .sentinel, .sentinel], laidTests := true, laidLooks := .later }
def FnPolyMul64UptoCardSaid : Prop := Claim7.holds Tryd.pinned (.plain (OpenSpec.upto fnPolyMul64Spec)) fnPolyMul64UptoCard
end Rows
end Go.Proofs.YtjjofnjhnoobpaaDoor
