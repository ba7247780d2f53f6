/-
  DERIVED. GIVEN WITH THE SEED: THE CARDS: each row of YtgdfdkpkhjbibaaDoorRows.lean that lists a variable, with what it lists TIED to the program's text (the seventh form; the later family's looks); each row that meets fmt, with fmt's text TOLD by the authors' own Lean function (tested against real Go, not proved from fmt's source: count such statements apart). THE CARD IS WHAT COUNTS. Prove the row's statement (the work); the ties are given (YtgdfdkpkhjbibaaDoorTie.lean); close each card by the builder's one call (the guide's Derived/Test/ToyasCard.lean, 'card_holds'). Laid BY PROGRAM, IN A SANDBOX (cutbox-door.mjs). By AI agents, Wed Nov 11 2026. No macro, syntax, notation, axiom, sorry.
-/
import Derived.Test.YtgdfdkpkhjbibaaDoorRows
import GoSem.ClaimSeven
namespace Go.Proofs.YtgdfdkpkhjbibaaDoor
namespace Rows

/-- THE TIED CARD OF 'laws.FnRoot128'. -/
def fnRoot128Card : Claim7 := { stood := { row := fnRoot128Row, standIns := [], harness := (true, "cc200fcc853e753c91f8ff900b7fdb6b4a4caab967972e36a90a0416ad492e43"), looks := false }, kinds := [], alts := [], laidByText := true, laidKinds := [.data, .sentinel], laidTests := true, laidLooks := .later }
def FnRoot128CardSaid : Prop := Claim7.holds Tryd.pinned (.plain (OpenSpec.ofChange fnRoot128Spec)) fnRoot128Card

/-- THE TIED CARD OF 'laws.FnTells128'. -/
def fnTells128Card : Claim7 := { stood := { row := fnTells128Row, standIns := [], harness := (true, "cc200fcc853e753c91f8ff900b7fdb6b4a4caab967972e36a90a0416ad492e43"), looks := false }, kinds := [], alts := [], laidByText := true, laidKinds := [.data, .data], laidTests := true, laidLooks := .later }
def FnTells128CardSaid : Prop := Claim7.holds Tryd.pinned (.plain (OpenSpec.ofChange fnTells128Spec)) fnTells128Card

/-- THE TIED CARD OF 'laws.FnOf128'. -/
def fnOf128Card : Claim7 := { stood := { row := fnOf128Row, standIns := [], harness := (true, "cc200fcc853e753c91f8ff900b7fdb6b4a4caab967972e36a90a0416ad492e43"), looks := false }, kinds := [], alts := [], laidByText := true, laidKinds := [.data, .sentinel], laidTests := true, laidLooks := .later }
def FnOf128CardSaid : Prop := Claim7.holds Tryd.pinned (.plain (OpenSpec.ofChange fnOf128Spec)) fnOf128Card

/-- THE TIED CARD OF 'laws.FnRing128'. -/
def fnRing128Card : Claim7 := { stood := { row := fnRing128Row, standIns := [], harness := (true, "cc200fcc853e753c91f8ff900b7fdb6b4a4caab967972e36a90a0416ad492e43"), looks := false }, kinds := [], alts := [], laidByText := true, laidKinds := [.data], laidTests := true, laidLooks := .later }
def FnRing128CardSaid : Prop := Claim7.holds Tryd.pinned (.plain (OpenSpec.ofChange fnRing128Spec)) fnRing128Card

/-- THE TIED CARD OF 'laws.FnStrip128'. -/
def fnStrip128Card : Claim7 := { stood := { row := fnStrip128Row, standIns := [], harness := (true, "cc200fcc853e753c91f8ff900b7fdb6b4a4caab967972e36a90a0416ad492e43"), looks := false }, kinds := [], alts := [], laidByText := true, laidKinds := [.data], laidTests := true, laidLooks := .later }
def FnStrip128CardSaid : Prop := Claim7.holds Tryd.pinned (.plain (OpenSpec.ofChange fnStrip128Spec)) fnStrip128Card

/-- THE TIED CARD OF 'laws.FnEvaluate128'. -/
def fnEvaluate128Card : Claim7 := { stood := { row := fnEvaluate128Row, standIns := [], harness := (true, "cc200fcc853e753c91f8ff900b7fdb6b4a4caab967972e36a90a0416ad492e43"), looks := false }, kinds := [], alts := [], laidByText := true, laidKinds := [.data], laidTests := true, laidLooks := .later }
def FnEvaluate128CardSaid : Prop := Claim7.holds Tryd.pinned (.plain (OpenSpec.ofChange fnEvaluate128Spec)) fnEvaluate128Card

/-- THE TIED CARD OF 'laws.FnAdd128Is'. -/
def fnAdd128IsCard : Claim7 := { stood := { row := fnAdd128IsRow, standIns := [], harness := (true, "cc200fcc853e753c91f8ff900b7fdb6b4a4caab967972e36a90a0416ad492e43"), looks := false }, kinds := [], alts := [], laidByText := true, laidKinds := [.data], laidTests := true, laidLooks := .later }
def FnAdd128IsCardSaid : Prop := Claim7.holds Tryd.pinned (.plain (OpenSpec.ofChange fnAdd128IsSpec)) fnAdd128IsCard

/-- THE TIED CARD OF 'laws.FnJoin128Is'. -/
def fnJoin128IsCard : Claim7 := { stood := { row := fnJoin128IsRow, standIns := [], harness := (true, "cc200fcc853e753c91f8ff900b7fdb6b4a4caab967972e36a90a0416ad492e43"), looks := false }, kinds := [], alts := [], laidByText := true, laidKinds := [.data], laidTests := true, laidLooks := .later }
def FnJoin128IsCardSaid : Prop := Claim7.holds Tryd.pinned (.plain (OpenSpec.ofChange fnJoin128IsSpec)) fnJoin128IsCard

/-- THE TIED CARD OF 'laws.FnMul128Is'. -/
def fnMul128IsCard : Claim7 := { stood := { row := fnMul128IsRow, standIns := [], harness := (true, "cc200fcc853e753c91f8ff900b7fdb6b4a4caab967972e36a90a0416ad492e43"), looks := false }, kinds := [], alts := [], laidByText := true, laidKinds := [.data], laidTests := true, laidLooks := .later }
def FnMul128IsCardSaid : Prop := Claim7.holds Tryd.pinned (.plain (OpenSpec.ofChange fnMul128IsSpec)) fnMul128IsCard

/-- THE TIED CARD OF 'laws.FnOrder128'. -/
def fnOrder128Card : Claim7 := { stood := { row := fnOrder128Row, standIns := [], harness := (true, "cc200fcc853e753c91f8ff900b7fdb6b4a4caab967972e36a90a0416ad492e43"), looks := false }, kinds := [], alts := [], laidByText := true, laidKinds := [.data], laidTests := true, laidLooks := .later }
def FnOrder128CardSaid : Prop := Claim7.holds Tryd.pinned (.plain (OpenSpec.ofChange fnOrder128Spec)) fnOrder128Card

/-- THE TIED CARD OF 'laws.FnRootRoad128'. -/
def fnRootRoad128Card : Claim7 := { stood := { row := fnRootRoad128Row, standIns := [], harness := (true, "cc200fcc853e753c91f8ff900b7fdb6b4a4caab967972e36a90a0416ad492e43"), looks := false }, kinds := [], alts := [], laidByText := true, laidKinds := [.data, .data, .sentinel], laidTests := true, laidLooks := .later }
def FnRootRoad128CardSaid : Prop := Claim7.holds Tryd.pinned (.plain (OpenSpec.ofChange fnRootRoad128Spec)) fnRootRoad128Card

/-- THE TIED CARD OF 'laws.FnBits128'. -/
def fnBits128Card : Claim7 := { stood := { row := fnBits128Row, standIns := [], harness := (true, "cc200fcc853e753c91f8ff900b7fdb6b4a4caab967972e36a90a0416ad492e43"), looks := false }, kinds := [], alts := [], laidByText := true, laidKinds := [.data, .data, .sentinel], laidTests := true, laidLooks := .later }
def FnBits128CardSaid : Prop := Claim7.holds Tryd.pinned (.plain (OpenSpec.ofChange fnBits128Spec)) fnBits128Card

/-- THE TIED CARD OF 'laws.FnInvOf128'. -/
def fnInvOf128Card : Claim7 := { stood := { row := fnInvOf128Row, standIns := [], harness := (true, "cc200fcc853e753c91f8ff900b7fdb6b4a4caab967972e36a90a0416ad492e43"), looks := false }, kinds := [], alts := [], laidByText := true, laidKinds := [.data, .data, .data, .data, .sentinel], laidTests := true, laidLooks := .later }
def FnInvOf128CardSaid : Prop := Claim7.holds Tryd.pinned (.plain (OpenSpec.ofChange fnInvOf128Spec)) fnInvOf128Card

/-- THE TIED CARD OF 'laws.FnInv128'. -/
def fnInv128Card : Claim7 := { stood := { row := fnInv128Row, standIns := [], harness := (true, "cc200fcc853e753c91f8ff900b7fdb6b4a4caab967972e36a90a0416ad492e43"), looks := false }, kinds := [], alts := [], laidByText := true, laidKinds := [.data, .data], laidTests := true, laidLooks := .later }
def FnInv128CardSaid : Prop := Claim7.holds Tryd.pinned (.plain (OpenSpec.ofChange fnInv128Spec)) fnInv128Card

/-- THE TIED CARD OF 'laws.FnVec128Is'. -/
def fnVec128IsCard : Claim7 := { stood := { row := fnVec128IsRow, standIns := [], harness := (true, "cc200fcc853e753c91f8ff900b7fdb6b4a4caab967972e36a90a0416ad492e43"), looks := false }, kinds := [], alts := [], laidByText := true, laidKinds := [.data, .sentinel], laidTests := true, laidLooks := .later }
def FnVec128IsCardSaid : Prop := Claim7.holds Tryd.pinned (.plain (OpenSpec.ofChange fnVec128IsSpec)) fnVec128IsCard

/-- THE TIED CARD OF 'laws.FnPolySqr128'. -/
def fnPolySqr128Card : Claim7 := { stood := { row := fnPolySqr128Row, standIns := [], harness := (true, "cc200fcc853e753c91f8ff900b7fdb6b4a4caab967972e36a90a0416ad492e43"), looks := false }, kinds := [], alts := [], laidByText := true, laidKinds := [.data, .sentinel], laidTests := true, laidLooks := .later }
def FnPolySqr128CardSaid : Prop := Claim7.holds Tryd.pinned (.plain (OpenSpec.ofChange fnPolySqr128Spec)) fnPolySqr128Card

/-- THE TIED CARD OF 'laws.FnNTT128Is'. -/
def fnNTT128IsCard : Claim7 := { stood := { row := fnNTT128IsRow, standIns := [], harness := (true, "cc200fcc853e753c91f8ff900b7fdb6b4a4caab967972e36a90a0416ad492e43"), looks := false }, kinds := [], alts := [], laidByText := true, laidKinds := [.data, .data, .data, .data, .sentinel], laidTests := true, laidLooks := .later }
def FnNTT128IsCardSaid : Prop := Claim7.holds Tryd.pinned (.plain (OpenSpec.ofChange fnNTT128IsSpec)) fnNTT128IsCard

/-- THE TIED CARD OF 'laws.FnPolyMul128'. -/
def fnPolyMul128Card : Claim7 := { stood := { row := fnPolyMul128Row, standIns := [], harness := (true, "cc200fcc853e753c91f8ff900b7fdb6b4a4caab967972e36a90a0416ad492e43"), looks := false }, kinds := [], alts := [], laidByText := true, laidKinds := [.data, .data, .data, .data, .data, .sentinel, .sentinel], laidTests := true, laidLooks := .later }
def FnPolyMul128CardSaid : Prop := Claim7.holds Tryd.pinned (.plain (OpenSpec.ofChange fnPolyMul128Spec)) fnPolyMul128Card

/-- THE SECOND FORM's CARD OF 'laws.FnRoot128'. -/
def fnRoot128UptoCard : Claim7 := { stood := { row := fnRoot128UptoRow, standIns := [], harness := (true, "cc200fcc853e753c91f8ff900b7fdb6b4a4caab967972e36a90a0416ad492e43"), looks := false }, kinds := [], alts := [], laidByText := true, laidKinds := [.data, .sentinel], laidTests := true, laidLooks := .later }
def FnRoot128UptoCardSaid : Prop := Claim7.holds Tryd.pinned (.plain (OpenSpec.upto fnRoot128Spec)) fnRoot128UptoCard

/-- THE SECOND FORM's CARD OF 'laws.FnTells128'. -/
def fnTells128UptoCard : Claim7 := { stood := { row := fnTells128UptoRow, standIns := [], harness := (true, "cc200fcc853e753c91f8ff900b7fdb6b4a4caab967972e36a90a0416ad492e43"), looks := false }, kinds := [], alts := [], laidByText := true, laidKinds := [.data, .data], laidTests := true, laidLooks := .later }
def FnTells128UptoCardSaid : Prop := Claim7.holds Tryd.pinned (.plain (OpenSpec.upto fnTells128Spec)) fnTells128UptoCard

/-- THE SECOND FORM's CARD OF 'laws.FnOf128'. -/
def fnOf128UptoCard : Claim7 := { stood := { row := fnOf128UptoRow, standIns := [], harness := (true, "cc200fcc853e753c91f8ff900b7fdb6b4a4caab967972e36a90a0416ad492e43"), looks := false }, kinds := [], alts := [], laidByText := true, laidKinds := [.data, .sentinel], laidTests := true, laidLooks := .later }
def FnOf128UptoCardSaid : Prop := Claim7.holds Tryd.pinned (.plain (OpenSpec.upto fnOf128Spec)) fnOf128UptoCard

/-- THE SECOND FORM's CARD OF 'laws.FnRing128'. -/
def fnRing128UptoCard : Claim7 := { stood := { row := fnRing128UptoRow, standIns := [], harness := (true, "cc200fcc853e753c91f8ff900b7fdb6b4a4caab967972e36a90a0416ad492e43"), looks := false }, kinds := [], alts := [], laidByText := true, laidKinds := [.data], laidTests := true, laidLooks := .later }
def FnRing128UptoCardSaid : Prop := Claim7.holds Tryd.pinned (.plain (OpenSpec.upto fnRing128Spec)) fnRing128UptoCard

/-- THE SECOND FORM's CARD OF 'laws.FnStrip128'. -/
def fnStrip128UptoCard : Claim7 := { stood := { row := fnStrip128UptoRow, standIns := [], harness := (true, "cc200fcc853e753c91f8ff900b7fdb6b4a4caab967972e36a90a0416ad492e43"), looks := false }, kinds := [], alts := [], laidByText := true, laidKinds := [.data], laidTests := true, laidLooks := .later }
def FnStrip128UptoCardSaid : Prop := Claim7.holds Tryd.pinned (.plain (OpenSpec.upto fnStrip128Spec)) fnStrip128UptoCard

/-- THE SECOND FORM's CARD OF 'laws.FnEvaluate128'. -/
def fnEvaluate128UptoCard : Claim7 := { stood := { row := fnEvaluate128UptoRow, standIns := [], harness := (true, "cc200fcc853e753c91f8ff900b7fdb6b4a4caab967972e36a90a0416ad492e43"), looks := false }, kinds := [], alts := [], laidByText := true, laidKinds := [.data], laidTests := true, laidLooks := .later }
def FnEvaluate128UptoCardSaid : Prop := Claim7.holds Tryd.pinned (.plain (OpenSpec.upto fnEvaluate128Spec)) fnEvaluate128UptoCard

/-- THE SECOND FORM's CARD OF 'laws.FnAdd128Is'. -/
def fnAdd128IsUptoCard : Claim7 := { stood := { row := fnAdd128IsUptoRow, standIns := [], harness := (true, "cc200fcc853e753c91f8ff900b7fdb6b4a4caab967972e36a90a0416ad492e43"), looks := false }, kinds := [], alts := [], laidByText := true, laidKinds := [.data], laidTests := true, laidLooks := .later }
def FnAdd128IsUptoCardSaid : Prop := Claim7.holds Tryd.pinned (.plain (OpenSpec.upto fnAdd128IsSpec)) fnAdd128IsUptoCard

/-- THE SECOND FORM's CARD OF 'laws.FnJoin128Is'. -/
def fnJoin128IsUptoCard : Claim7 := { stood := { row := fnJoin128IsUptoRow, standIns := [], harness := (true, "cc200fcc853e753c91f8ff900b7fdb6b4a4caab967972e36a90a0416ad492e43"), looks := false }, kinds := [], alts := [], laidByText := true, laidKinds := [.data], laidTests := true, laidLooks := .later }
def FnJoin128IsUptoCardSaid : Prop := Claim7.holds Tryd.pinned (.plain (OpenSpec.upto fnJoin128IsSpec)) fnJoin128IsUptoCard

/-- THE SECOND FORM's CARD OF 'laws.FnMul128Is'. -/
def fnMul128IsUptoCard : Claim7 := { stood := { row := fnMul128IsUptoRow, standIns := [], harness := (true, "cc200fcc853e753c91f8ff900b7fdb6b4a4caab967972e36a90a0416ad492e43"), looks := false }, kinds := [], alts := [], laidByText := true, laidKinds := [.data], laidTests := true, laidLooks := .later }
def FnMul128IsUptoCardSaid : Prop := Claim7.holds Tryd.pinned (.plain (OpenSpec.upto fnMul128IsSpec)) fnMul128IsUptoCard

/-- THE SECOND FORM's CARD OF 'laws.FnOrder128'. -/
def fnOrder128UptoCard : Claim7 := { stood := { row := fnOrder128UptoRow, standIns := [], harness := (true, "cc200fcc853e753c91f8ff900b7fdb6b4a4caab967972e36a90a0416ad492e43"), looks := false }, kinds := [], alts := [], laidByText := true, laidKinds := [.data], laidTests := true, laidLooks := .later }
def FnOrder128UptoCardSaid : Prop := Claim7.holds Tryd.pinned (.plain (OpenSpec.upto fnOrder128Spec)) fnOrder128UptoCard

/-- THE SECOND FORM's CARD OF 'laws.FnRootRoad128'. -/
def fnRootRoad128UptoCard : Claim7 := { stood := { row := fnRootRoad128UptoRow, standIns := [], harness := (true, "cc200fcc853e753c91f8ff900b7fdb6b4a4caab967972e36a90a0416ad492e43"), looks := false }, kinds := [], alts := [], laidByText := true, laidKinds := [.data, .data, .sentinel], laidTests := true, laidLooks := .later }
def FnRootRoad128UptoCardSaid : Prop := Claim7.holds Tryd.pinned (.plain (OpenSpec.upto fnRootRoad128Spec)) fnRootRoad128UptoCard

/-- THE SECOND FORM's CARD OF 'laws.FnBits128'. -/
def fnBits128UptoCard : Claim7 := { stood := { row := fnBits128UptoRow, standIns := [], harness := (true, "cc200fcc853e753c91f8ff900b7fdb6b4a4caab967972e36a90a0416ad492e43"), looks := false }, kinds := [], alts := [], laidByText := true, laidKinds := [.data, .data, .sentinel], laidTests := true, laidLooks := .later }
def FnBits128UptoCardSaid : Prop := Claim7.holds Tryd.pinned (.plain (OpenSpec.upto fnBits128Spec)) fnBits128UptoCard

/-- THE SECOND FORM's CARD OF 'laws.FnInvOf128'. -/
def fnInvOf128UptoCard : Claim7 := { stood := { row := fnInvOf128UptoRow, standIns := [], harness := (true, "cc200fcc853e753c91f8ff900b7fdb6b4a4caab967972e36a90a0416ad492e43"), looks := false }, kinds := [], alts := [], laidByText := true, laidKinds := [.data, .data, .data, .data, .sentinel], laidTests := true, laidLooks := .later }
def FnInvOf128UptoCardSaid : Prop := Claim7.holds Tryd.pinned (.plain (OpenSpec.upto fnInvOf128Spec)) fnInvOf128UptoCard

/-- THE SECOND FORM's CARD OF 'laws.FnInv128'. -/
def fnInv128UptoCard : Claim7 := { stood := { row := fnInv128UptoRow, standIns := [], harness := (true, "cc200fcc853e753c91f8ff900b7fdb6b4a4caab967972e36a90a0416ad492e43"), looks := false }, kinds := [], alts := [], laidByText := true, laidKinds := [.data, .data], laidTests := true, laidLooks := .later }
def FnInv128UptoCardSaid : Prop := Claim7.holds Tryd.pinned (.plain (OpenSpec.upto fnInv128Spec)) fnInv128UptoCard

/-- THE SECOND FORM's CARD OF 'laws.FnVec128Is'. -/
def fnVec128IsUptoCard : Claim7 := { stood := { row := fnVec128IsUptoRow, standIns := [], harness := (true, "cc200fcc853e753c91f8ff900b7fdb6b4a4caab967972e36a90a0416ad492e43"), looks := false }, kinds := [], alts := [], laidByText := true, laidKinds := [.data, .sentinel], laidTests := true, laidLooks := .later }
def FnVec128IsUptoCardSaid : Prop := Claim7.holds Tryd.pinned (.plain (OpenSpec.upto fnVec128IsSpec)) fnVec128IsUptoCard

/-- THE SECOND FORM's CARD OF 'laws.FnPolySqr128'. -/
def fnPolySqr128UptoCard : Claim7 := { stood := { row := fnPolySqr128UptoRow, standIns := [], harness := (true, "cc200fcc853e753c91f8ff900b7fdb6b4a4caab967972e36a90a0416ad492e43"), looks := false }, kinds := [], alts := [], laidByText := true, laidKinds := [.data, .sentinel], laidTests := true, laidLooks := .later }
def FnPolySqr128UptoCardSaid : Prop := Claim7.holds Tryd.pinned (.plain (OpenSpec.upto fnPolySqr128Spec)) fnPolySqr128UptoCard

/-- THE SECOND FORM's CARD OF 'laws.FnNTT128Is'. -/
def fnNTT128IsUptoCard : Claim7 := { stood := { row := fnNTT128IsUptoRow, standIns := [], harness := (true, "cc200fcc853e753c91f8ff900b7fdb6b4a4caab967972e36a90a0416ad492e43"), looks := false }, kinds := [], alts := [], laidByText := true, laidKinds := [.data, .data, .data, .data, .sentinel], laidTests := true, laidLooks := .later }
def FnNTT128IsUptoCardSaid : Prop := Claim7.holds Tryd.pinned (.plain (OpenSpec.upto fnNTT128IsSpec)) fnNTT128IsUptoCard

/-- THE SECOND FORM's CARD OF 'laws.FnPolyMul128'. -/
def fnPolyMul128UptoCard : Claim7 := { stood := { row := fnPolyMul128UptoRow, standIns := [], harness := (true, "cc200fcc853e753c91f8ff900b7fdb6b4a4caab967972e36a90a0416ad492e43"), looks := false }, kinds := [], alts := [], laidByText := true, laidKinds := [.data, .data, .data, .data, .data, .sentinel, .sentinel], laidTests := true, laidLooks := .later }
def FnPolyMul128UptoCardSaid : Prop := Claim7.holds Tryd.pinned (.plain (OpenSpec.upto fnPolyMul128Spec)) fnPolyMul128UptoCard
end Rows
end Go.Proofs.YtgdfdkpkhjbibaaDoor
