/-
  DERIVED. GIVEN WITH THE SEED: THE CARDS: each row of YteehdjkmjncehaaDoorRows.lean that lists a variable, with what it lists TIED to the program's text (the seventh form; the later family's looks); each row that meets fmt, with fmt's text TOLD by the authors' own Lean function (tested against real Go, not proved from fmt's source: count such statements apart). THE CARD IS WHAT COUNTS. Prove the row's statement (the work); the ties are given (YteehdjkmjncehaaDoorTie.lean); close each card by the builder's one call (the guide's Derived/Test/ToyasCard.lean, 'card_holds'). Laid BY PROGRAM, IN A SANDBOX (cutbox-door.mjs). By AI agents, Wed Nov 11 2026. No macro, syntax, notation, axiom, sorry.
-/
import Derived.Test.YteehdjkmjncehaaDoorRows
import GoSem.ClaimSeven
namespace Go.Proofs.YteehdjkmjncehaaDoor
namespace Rows

/-- THE TIED CARD OF 'laws.FnTells'. -/
def fnTellsCard : Claim7 := { stood := { row := fnTellsRow, standIns := [], harness := (true, "1e2a837e88b1bf37852abfa4cf25b8c5f42dfa19b3c2ac3719484b0189576229"), looks := false }, kinds := [], alts := [], laidByText := true, laidKinds := [.data], laidTests := true, laidLooks := .later }
def FnTellsCardSaid : Prop := Claim7.holds Tryd.pinned (.plain (OpenSpec.ofChange fnTellsSpec)) fnTellsCard

/-- THE TIED CARD OF 'laws.FnValidIs'. -/
def fnValidIsCard : Claim7 := { stood := { row := fnValidIsRow, standIns := [], harness := (true, "1e2a837e88b1bf37852abfa4cf25b8c5f42dfa19b3c2ac3719484b0189576229"), looks := false }, kinds := [], alts := [], laidByText := true, laidKinds := [.data], laidTests := true, laidLooks := .later }
def FnValidIsCardSaid : Prop := Claim7.holds Tryd.pinned (.plain (OpenSpec.ofChange fnValidIsSpec)) fnValidIsCard

/-- THE TIED CARD OF 'laws.FnSharedIs'. -/
def fnSharedIsCard : Claim7 := { stood := { row := fnSharedIsRow, standIns := [], harness := (true, "1e2a837e88b1bf37852abfa4cf25b8c5f42dfa19b3c2ac3719484b0189576229"), looks := false }, kinds := [], alts := [], laidByText := true, laidKinds := [.data], laidTests := true, laidLooks := .later }
def FnSharedIsCardSaid : Prop := Claim7.holds Tryd.pinned (.plain (OpenSpec.ofChange fnSharedIsSpec)) fnSharedIsCard

/-- THE TIED CARD OF 'laws.FnNegIs'. -/
def fnNegIsCard : Claim7 := { stood := { row := fnNegIsRow, standIns := [], harness := (true, "1e2a837e88b1bf37852abfa4cf25b8c5f42dfa19b3c2ac3719484b0189576229"), looks := false }, kinds := [], alts := [], laidByText := true, laidKinds := [.data], laidTests := true, laidLooks := .later }
def FnNegIsCardSaid : Prop := Claim7.holds Tryd.pinned (.plain (OpenSpec.ofChange fnNegIsSpec)) fnNegIsCard

/-- THE TIED CARD OF 'laws.FnRoads'. -/
def fnRoadsCard : Claim7 := { stood := { row := fnRoadsRow, standIns := [], harness := (true, "1e2a837e88b1bf37852abfa4cf25b8c5f42dfa19b3c2ac3719484b0189576229"), looks := false }, kinds := [], alts := [], laidByText := true, laidKinds := [.data], laidTests := true, laidLooks := .later }
def FnRoadsCardSaid : Prop := Claim7.holds Tryd.pinned (.plain (OpenSpec.ofChange fnRoadsSpec)) fnRoadsCard

/-- THE TIED CARD OF 'laws.FnSharedClamped'. -/
def fnSharedClampedCard : Claim7 := { stood := { row := fnSharedClampedRow, standIns := [], harness := (true, "1e2a837e88b1bf37852abfa4cf25b8c5f42dfa19b3c2ac3719484b0189576229"), looks := false }, kinds := [], alts := [], laidByText := true, laidKinds := [.data], laidTests := true, laidLooks := .later }
def FnSharedClampedCardSaid : Prop := Claim7.holds Tryd.pinned (.plain (OpenSpec.ofChange fnSharedClampedSpec)) fnSharedClampedCard

/-- THE SECOND FORM's CARD OF 'laws.FnTells'. -/
def fnTellsUptoCard : Claim7 := { stood := { row := fnTellsUptoRow, standIns := [], harness := (true, "1e2a837e88b1bf37852abfa4cf25b8c5f42dfa19b3c2ac3719484b0189576229"), looks := false }, kinds := [], alts := [], laidByText := true, laidKinds := [.data], laidTests := true, laidLooks := .later }
def FnTellsUptoCardSaid : Prop := Claim7.holds Tryd.pinned (.plain (OpenSpec.upto fnTellsSpec)) fnTellsUptoCard

/-- THE SECOND FORM's CARD OF 'laws.FnValidIs'. -/
def fnValidIsUptoCard : Claim7 := { stood := { row := fnValidIsUptoRow, standIns := [], harness := (true, "1e2a837e88b1bf37852abfa4cf25b8c5f42dfa19b3c2ac3719484b0189576229"), looks := false }, kinds := [], alts := [], laidByText := true, laidKinds := [.data], laidTests := true, laidLooks := .later }
def FnValidIsUptoCardSaid : Prop := Claim7.holds Tryd.pinned (.plain (OpenSpec.upto fnValidIsSpec)) fnValidIsUptoCard

/-- THE SECOND FORM's CARD OF 'laws.FnSharedIs'. -/
def fnSharedIsUptoCard : Claim7 := { stood := { row := fnSharedIsUptoRow, standIns := [], harness := (true, "1e2a837e88b1bf37852abfa4cf25b8c5f42dfa19b3c2ac3719484b0189576229"), looks := false }, kinds := [], alts := [], laidByText := true, laidKinds := [.data], laidTests := true, laidLooks := .later }
def FnSharedIsUptoCardSaid : Prop := Claim7.holds Tryd.pinned (.plain (OpenSpec.upto fnSharedIsSpec)) fnSharedIsUptoCard

/-- THE SECOND FORM's CARD OF 'laws.FnNegIs'. -/
def fnNegIsUptoCard : Claim7 := { stood := { row := fnNegIsUptoRow, standIns := [], harness := (true, "1e2a837e88b1bf37852abfa4cf25b8c5f42dfa19b3c2ac3719484b0189576229"), looks := false }, kinds := [], alts := [], laidByText := true, laidKinds := [.data], laidTests := true, laidLooks := .later }
def FnNegIsUptoCardSaid : Prop := Claim7.holds Tryd.pinned (.plain (OpenSpec.upto fnNegIsSpec)) fnNegIsUptoCard

/-- THE SECOND FORM's CARD OF 'laws.FnRoads'. -/
def fnRoadsUptoCard : Claim7 := { stood := { row := fnRoadsUptoRow, standIns := [], harness := (true, "1e2a837e88b1bf37852abfa4cf25b8c5f42dfa19b3c2ac3719484b0189576229"), looks := false }, kinds := [], alts := [], laidByText := true, laidKinds := [.data], laidTests := true, laidLooks := .later }
def FnRoadsUptoCardSaid : Prop := Claim7.holds Tryd.pinned (.plain (OpenSpec.upto fnRoadsSpec)) fnRoadsUptoCard

/-- THE SECOND FORM's CARD OF 'laws.FnSharedClamped'. -/
def fnSharedClampedUptoCard : Claim7 := { stood := { row := fnSharedClampedUptoRow, standIns := [], harness := (true, "1e2a837e88b1bf37852abfa4cf25b8c5f42dfa19b3c2ac3719484b0189576229"), looks := false }, kinds := [], alts := [], laidByText := true, laidKinds := [.data], laidTests := true, laidLooks := .later }
def FnSharedClampedUptoCardSaid : Prop := Claim7.holds Tryd.pinned (.plain (OpenSpec.upto fnSharedClampedSpec)) fnSharedClampedUptoCard
end Rows
end Go.Proofs.YteehdjkmjncehaaDoor
