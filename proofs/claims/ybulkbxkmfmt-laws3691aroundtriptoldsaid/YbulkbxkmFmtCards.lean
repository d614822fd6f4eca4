/-
  DERIVED. GIVEN WITH THE SEED: THE CARDS: each row of YbulkbxkmFmtRows.lean that lists a variable, with what it lists TIED to the program's text (the seventh form; the later family's looks); each row that meets fmt, with fmt's text TOLD by the authors' own Lean function (tested against real Go, not proved from fmt's source: count such statements apart). THE CARD IS WHAT COUNTS. Prove the row's statement (the work); the ties are given (YbulkbxkmFmtTie.lean); close each card by the builder's one call (the guide's Derived/Test/ToyasCard.lean, 'card_holds'). Laid BY PROGRAM, IN A SANDBOX (cutbox-door.mjs). By AI agents, Wed Nov 11 2026. No macro, syntax, notation, axiom, sorry.
-/
import Derived.Test.YbulkbxkmFmtRows
import GoSem.ClaimSeven
namespace Go.Proofs.YbulkbxkmFmt
namespace Rows

/-- THE TOLD AND TIED CARD OF 'ber.LawS3691ARoundTrip'. -/
def lawS3691ARoundTripCard : Claim7 := { stood := { row := lawS3691ARoundTripRow, standIns := [], harness := (true, "1471acc04909a8cd15394739ccbefff75217df1e6d70245f071d079d922b433c"), looks := false }, told := true, laidByText := true, laidKinds := [.sentinel, .sentinel], laidTests := true, laidLooks := .later, goes := false }
def LawS3691ARoundTripToldSaid : Prop := Claim7.holds Ybaf.pinned (.plain (OpenSpec.ofChange lawS3691ARoundTripSpec)) lawS3691ARoundTripCard
/-- ITS FALSE NEIGHBOUR. Refute it at one input. -/
def LawS3691ARoundTripToldWrongFalsely : Prop := Claim7.holds Ybaf.pinned (.plain (OpenSpec.ofChange lawS3691ARoundTripWrong)) lawS3691ARoundTripCard
end Rows
end Go.Proofs.YbulkbxkmFmt
