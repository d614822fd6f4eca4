/-
  No cell of these rows narrows 'for every input' (looked for: loops, veiled, ifaces, maps, wideKeys, modest, calm, conditions, laid).
  DERIVED. THE GIVEN ROWS OF THIS SEAT. 4 by the template 'for every input the law returns true; each argument reads behind the call as it read before'; 0 by the template 'total and deterministic' (their statements: YbulkbxkmTotals.lean).
  GIVEN WITH THE SEED: the statements are not yours to turn. If you find one false, say at which input.
  Laid BY PROGRAM, IN A SANDBOX (cutbox-rows.mjs): the forced cells as the released guide's own fill.sh prints them over the translation c6cf6e476f0ff667… (all of the seat's roots in one cut). By AI agents, Wed Nov 11 2026. No macro, syntax, notation, axiom, sorry.
-/
import Derived.Test.YbulkbxkmChecked
import GoSem.Claim
import GoSem.ClaimJoined
import GoSem.ClaimMapViews
import Derived.JoinedTies
import Derived.KernelRfl
namespace Go.Proofs.Ybulkbxkm
/- THE CELL 'sum', in the pinned program and in every row, IS THE sha256 OF THE DUMP (.gsa) THAT YbulkbxkmProg.lean LOADS. Nothing in Lean hashes anything: it is a label: what it is worth is what the hold of that sum in a sandbox is worth. -/
noncomputable def Yba.pinned : Pinned := { name := "ybulkbxkm", sum := "c6cf6e476f0ff6674a0dcbe0b03724ff2318a6e0a26ec9703dd9e21c92a70daa", checked := Yba.checked }
namespace Rows
def none {H : Type} : Left H := { results := [], args := [] }

/-- 'ber.LawS3691AExact': WHATEVER THE INPUT: true; the input reads as it did. -/
def lawS3691AExactSpec : ChangeSpec := { name := "lawS3691AExact", fn := fun _ => fun
  | [d1, d2, d3, d4, d5, d6] => { results := [.lit (.bool true)], args := [d1, d2, d3, d4, d5, d6] }
  | _ => none }
def lawS3691AExactRow : OpenClaim := { program := "ybulkbxkm", sum := "c6cf6e476f0ff6674a0dcbe0b03724ff2318a6e0a26ec9703dd9e21c92a70daa", func := "example.com/roamwire/roamwire/ber.LawS3691AExact", spec := "lawS3691AExact", apart := false }
def LawS3691AExactSaid : Prop := lawS3691AExactRow.holds Yba.pinned (OpenSpec.ofChange lawS3691AExactSpec)

/-- ITS FALSE NEIGHBOUR: 'it returns false'. Refute it at one input. -/
def lawS3691AExactWrong : ChangeSpec := { name := "lawS3691AExact", fn := fun _ => fun
  | [d1, d2, d3, d4, d5, d6] => { results := [.lit (.bool false)], args := [d1, d2, d3, d4, d5, d6] }
  | _ => none }
def LawS3691AExactWrongFalsely : Prop := lawS3691AExactRow.holds Yba.pinned (OpenSpec.ofChange lawS3691AExactWrong)

/-- 'roamwire.LawS3691BModel': WHATEVER THE INPUT: true; the input reads as it did. -/
def lawS3691BModelSpec : ChangeSpec := { name := "lawS3691BModel", fn := fun _ => fun
  | [d1, d2] => { results := [.lit (.bool true)], args := [d1, d2] }
  | _ => none }
def lawS3691BModelRow : OpenClaim := { program := "ybulkbxkm", sum := "c6cf6e476f0ff6674a0dcbe0b03724ff2318a6e0a26ec9703dd9e21c92a70daa", func := "example.com/roamwire/roamwire.LawS3691BModel", spec := "lawS3691BModel", apart := false }
def LawS3691BModelSaid : Prop := lawS3691BModelRow.holds Yba.pinned (OpenSpec.ofChange lawS3691BModelSpec)

/-- ITS FALSE NEIGHBOUR: 'it returns false'. Refute it at one input. -/
def lawS3691BModelWrong : ChangeSpec := { name := "lawS3691BModel", fn := fun _ => fun
  | [d1, d2] => { results := [.lit (.bool false)], args := [d1, d2] }
  | _ => none }
def LawS3691BModelWrongFalsely : Prop := lawS3691BModelRow.holds Yba.pinned (OpenSpec.ofChange lawS3691BModelWrong)

/-- 'roamwire.LawS3691BMember': WHATEVER THE INPUT: true; the input reads as it did. -/
def lawS3691BMemberSpec : ChangeSpec := { name := "lawS3691BMember", fn := fun _ => fun
  | [d1, d2, d3] => { results := [.lit (.bool true)], args := [d1, d2, d3] }
  | _ => none }
def lawS3691BMemberRow : OpenClaim := { program := "ybulkbxkm", sum := "c6cf6e476f0ff6674a0dcbe0b03724ff2318a6e0a26ec9703dd9e21c92a70daa", func := "example.com/roamwire/roamwire.LawS3691BMember", spec := "lawS3691BMember", apart := false }
def LawS3691BMemberSaid : Prop := lawS3691BMemberRow.holds Yba.pinned (OpenSpec.ofChange lawS3691BMemberSpec)

/-- ITS FALSE NEIGHBOUR: 'it returns false'. Refute it at one input. -/
def lawS3691BMemberWrong : ChangeSpec := { name := "lawS3691BMember", fn := fun _ => fun
  | [d1, d2, d3] => { results := [.lit (.bool false)], args := [d1, d2, d3] }
  | _ => none }
def LawS3691BMemberWrongFalsely : Prop := lawS3691BMemberRow.holds Yba.pinned (OpenSpec.ofChange lawS3691BMemberWrong)

/-- 'asn1.LawS3691CText': WHATEVER THE INPUT: true; the input reads as it did. -/
def lawS3691CTextSpec : ChangeSpec := { name := "lawS3691CText", fn := fun _ => fun
  | [d1, d2, d3, d4] => { results := [.lit (.bool true)], args := [d1, d2, d3, d4] }
  | _ => none }
def lawS3691CTextRow : OpenClaim := { program := "ybulkbxkm", sum := "c6cf6e476f0ff6674a0dcbe0b03724ff2318a6e0a26ec9703dd9e21c92a70daa", func := "example.com/roamwire/roamwire/asn1.LawS3691CText", spec := "lawS3691CText", inPlace := ["internal/abi.NoEscape"], unfollowed := true, recurses := true, apart := false }
def LawS3691CTextSaid : Prop := lawS3691CTextRow.holds Yba.pinned (OpenSpec.ofChange lawS3691CTextSpec)

/-- ITS FALSE NEIGHBOUR: 'it returns false'. Refute it at one input. -/
def lawS3691CTextWrong : ChangeSpec := { name := "lawS3691CText", fn := fun _ => fun
  | [d1, d2, d3, d4] => { results := [.lit (.bool false)], args := [d1, d2, d3, d4] }
  | _ => none }
def LawS3691CTextWrongFalsely : Prop := lawS3691CTextRow.holds Yba.pinned (OpenSpec.ofChange lawS3691CTextWrong)

end Rows
end Go.Proofs.Ybulkbxkm
