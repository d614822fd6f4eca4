/-
  NARROWER THAN 'FOR EVERY INPUT', by the rows' own cells (each row's printed sentence says how): LawS3691ARoundTrip: ifaces, laid.
  DERIVED. THE GIVEN ROWS OF THIS SEAT. 1 by the template 'for every input the law returns true; each argument reads behind the call as it read before'; 0 by the template 'total and deterministic' (their statements: YbulkbxkmFmtTotals.lean).
  GIVEN WITH THE SEED: the statements are not yours to turn. If you find one false, say at which input.
  Laid BY PROGRAM, IN A SANDBOX (cutbox-rows.mjs): the forced cells as the released guide's own fill.sh prints them over the translation 763eb01bbe78e270… (all of the seat's roots in one cut). By AI agents, Wed Nov 11 2026. No macro, syntax, notation, axiom, sorry.
-/
import Derived.Test.YbulkbxkmFmtChecked
import GoSem.Claim
import GoSem.ClaimJoined
import GoSem.ClaimMapViews
import Derived.JoinedTies
import Derived.KernelRfl
namespace Go.Proofs.YbulkbxkmFmt
/- THE CELL 'sum', in the pinned program and in every row, IS THE sha256 OF THE DUMP (.gsa) THAT YbulkbxkmFmtProg.lean LOADS. Nothing in Lean hashes anything: it is a label: what it is worth is what the hold of that sum in a sandbox is worth. -/
noncomputable def Ybaf.pinned : Pinned := { name := "ybulkbxkmfmt", sum := "763eb01bbe78e270edf859a35fe3c3ef9f4b5c4edbc7abbffcdb52461ab0be3b", checked := Ybaf.checked }
namespace Rows
def none {H : Type} : Left H := { results := [], args := [] }

/- WHAT THE LISTED PACKAGE-LEVEL VARIABLES READ AS WHEN THE CALL BEGINS. Each datum BY PROGRAM (the guide's laid-datum.mjs) off the statement by which the dump's own 'gosem.cut.vars' lays the variable. In a bare row this is a premise. The card (YbulkbxkmFmtCards.lean) ties it to the program's text. -/
def laid_example_com_roamwire_roamwire_ber_ErrTruncated {H : Type} : DataW H := .iface "*errors.errorString" (.ptr (.agg [.lit (.string [98, 101, 114, 58, 32, 105, 110, 112, 117, 116, 32, 101, 110, 100, 115, 32, 105, 110, 115, 105, 100, 101, 32, 97, 110, 32, 101, 108, 101, 109, 101, 110, 116])]))
def laid_example_com_roamwire_roamwire_ber_ErrMalformed {H : Type} : DataW H := .iface "*errors.errorString" (.ptr (.agg [.lit (.string [98, 101, 114, 58, 32, 109, 97, 108, 102, 111, 114, 109, 101, 100, 32, 101, 108, 101, 109, 101, 110, 116])]))

/-- 'ber.LawS3691ARoundTrip': WHATEVER THE INPUT: true; the input reads as it did. -/
def lawS3691ARoundTripSpec : ChangeSpec := { name := "lawS3691ARoundTrip", vars := ["example.com/roamwire/roamwire/ber.ErrTruncated", "example.com/roamwire/roamwire/ber.ErrMalformed"], fn := fun _ => fun
  | [d1, d2, d3, d4, d5, d6, g1, g2] => { results := [.lit (.bool true)], args := [d1, d2, d3, d4, d5, d6], vars := [g1, g2] }
  | _ => none }
def lawS3691ARoundTripRow : OpenClaim := { program := "ybulkbxkmfmt", sum := "763eb01bbe78e270edf859a35fe3c3ef9f4b5c4edbc7abbffcdb52461ab0be3b", func := "example.com/roamwire/roamwire/ber.LawS3691ARoundTrip", spec := "lawS3691ARoundTrip", stops := ["fmt.errorf"], inPlace := ["fmt.errorf"], named := ["example.com/roamwire/roamwire/ber.ErrTruncated", "example.com/roamwire/roamwire/ber.ErrMalformed"], ifaces := true, apart := false, laid := [("example.com/roamwire/roamwire/ber.ErrTruncated", laid_example_com_roamwire_roamwire_ber_ErrTruncated), ("example.com/roamwire/roamwire/ber.ErrMalformed", laid_example_com_roamwire_roamwire_ber_ErrMalformed)] }
/-- NO THEOREM (fmt's text is open here; it may be false): for the released tool's asking of the row's closed facts alone. THE STATEMENT IS 'LawS3691ARoundTripToldSaid' (YbulkbxkmFmtCards.lean). -/
def LawS3691ARoundTripFormAsk : Prop := lawS3691ARoundTripRow.holds Ybaf.pinned (OpenSpec.ofChange lawS3691ARoundTripSpec)

/-- ITS FALSE NEIGHBOUR: 'it returns false'. Refute it at one input. -/
def lawS3691ARoundTripWrong : ChangeSpec := { name := "lawS3691ARoundTrip", vars := ["example.com/roamwire/roamwire/ber.ErrTruncated", "example.com/roamwire/roamwire/ber.ErrMalformed"], fn := fun _ => fun
  | [d1, d2, d3, d4, d5, d6, g1, g2] => { results := [.lit (.bool false)], args := [d1, d2, d3, d4, d5, d6], vars := [g1, g2] }
  | _ => none }
def LawS3691ARoundTripWrongFormAsk : Prop := lawS3691ARoundTripRow.holds Ybaf.pinned (OpenSpec.ofChange lawS3691ARoundTripWrong)

end Rows
end Go.Proofs.YbulkbxkmFmt
