/-
  DERIVED. GIVEN WITH THE SEED: THE CARDS: each row of YbulkbrpsDoorRows.lean that lists a variable, with what it lists TIED to the program's text (the seventh form; the later family's looks); each row that meets fmt, with fmt's text TOLD by the authors' own Lean function (tested against real Go, not proved from fmt's source: count such statements apart). THE CARD IS WHAT COUNTS. Prove the row's statement (the work); the ties are given (YbulkbrpsDoorTie.lean); close each card by the builder's one call (the guide's Derived/Test/ToyasCard.lean, 'card_holds'). Laid BY PROGRAM, IN A SANDBOX (cutbox-door.mjs). By AI agents, Wed Nov 11 2026. No macro, syntax, notation, axiom, sorry.
-/
import Derived.Test.YbulkbrpsDoorRows
import GoSem.ClaimSeven
namespace Go.Proofs.YbulkbrpsDoor
namespace Rows

/-- THE TIED CARD OF 'record.LawS3411ATable'. -/
def lawS3411ATableCard : Claim7 := { stood := { row := lawS3411ATableRow, standIns := [], harness := (true, "8dd4282317ca4d2b72ea8d52f194f938b1ab5947490ccac3393be83f8d80ef60"), looks := false }, kinds := [], alts := [], laidByText := true, laidKinds := [.data, .data], laidTests := true, laidLooks := .later }
def LawS3411ATableCardSaid : Prop := Claim7.holds Ybad.pinned (.plain (OpenSpec.ofChange lawS3411ATableSpec)) lawS3411ATableCard

/-- THE TIED CARD OF 'record.LawS3411ARaw'. -/
def lawS3411ARawCard : Claim7 := { stood := { row := lawS3411ARawRow, standIns := [], harness := (true, "8dd4282317ca4d2b72ea8d52f194f938b1ab5947490ccac3393be83f8d80ef60"), looks := false }, kinds := [], alts := [], laidByText := true, laidKinds := [.data, .data], laidTests := true, laidLooks := .later }
def LawS3411ARawCardSaid : Prop := Claim7.holds Ybad.pinned (.plain (OpenSpec.ofChange lawS3411ARawSpec)) lawS3411ARawCard

/-- THE TIED CARD OF 'discard.LawS3411BIndex'. -/
def lawS3411BIndexCard : Claim7 := { stood := { row := lawS3411BIndexRow, standIns := [], harness := (true, "8dd4282317ca4d2b72ea8d52f194f938b1ab5947490ccac3393be83f8d80ef60"), looks := false }, kinds := [], alts := [], laidByText := true, laidKinds := [.widerDeep], laidTests := true, laidLooks := .later }
def LawS3411BIndexCardSaid : Prop := Claim7.holds Ybad.pinned (.plain (OpenSpec.ofChange lawS3411BIndexSpec)) lawS3411BIndexCard

/-- THE TIED CARD OF 'discard.LawS3411BModel'. -/
def lawS3411BModelCard : Claim7 := { stood := { row := lawS3411BModelRow, standIns := [], harness := (true, "8dd4282317ca4d2b72ea8d52f194f938b1ab5947490ccac3393be83f8d80ef60"), looks := false }, kinds := [], alts := [], laidByText := true, laidKinds := [.widerDeep], laidTests := true, laidLooks := .later }
def LawS3411BModelCardSaid : Prop := Claim7.holds Ybad.pinned (.plain (OpenSpec.ofChange lawS3411BModelSpec)) lawS3411BModelCard

/-- THE TIED CARD OF 'discard.LawS3411BRoundTrip'. -/
def lawS3411BRoundTripCard : Claim7 := { stood := { row := lawS3411BRoundTripRow, standIns := [], harness := (true, "8dd4282317ca4d2b72ea8d52f194f938b1ab5947490ccac3393be83f8d80ef60"), looks := false }, kinds := [], alts := [], laidByText := true, laidKinds := [.widerDeep], laidTests := true, laidLooks := .later }
def LawS3411BRoundTripCardSaid : Prop := Claim7.holds Ybad.pinned (.plain (OpenSpec.ofChange lawS3411BRoundTripSpec)) lawS3411BRoundTripCard
end Rows
end Go.Proofs.YbulkbrpsDoor
