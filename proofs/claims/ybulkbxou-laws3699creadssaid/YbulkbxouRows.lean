/-
  No cell of these rows narrows 'for every input' (looked for: loops, veiled, ifaces, maps, wideKeys, modest, calm, conditions, laid).
  DERIVED. THE GIVEN ROWS OF THIS SEAT. 4 by the template 'for every input the law returns true; each argument reads behind the call as it read before'; 0 by the template 'total and deterministic' (their statements: YbulkbxouTotals.lean).
  GIVEN WITH THE SEED: the statements are not yours to turn. If you find one false, say at which input.
  Laid BY PROGRAM, IN A SANDBOX (cutbox-rows.mjs): the forced cells as the released guide's own fill.sh prints them over the translation 6d36dfe4d642af4e… (all of the seat's roots in one cut). By AI agents, Wed Nov 11 2026. No macro, syntax, notation, axiom, sorry.
-/
import Derived.Test.YbulkbxouChecked
import GoSem.Claim
import GoSem.ClaimJoined
import GoSem.ClaimMapViews
import Derived.JoinedTies
import Derived.KernelRfl
namespace Go.Proofs.Ybulkbxou
/- THE CELL 'sum', in the pinned program and in every row, IS THE sha256 OF THE DUMP (.gsa) THAT YbulkbxouProg.lean LOADS. Nothing in Lean hashes anything: it is a label: what it is worth is what the hold of that sum in a sandbox is worth. -/
noncomputable def Yba.pinned : Pinned := { name := "ybulkbxou", sum := "6d36dfe4d642af4ed636341ae92b97bb7b168736929ed71cc8807b36e0c07a13", checked := Yba.checked }
namespace Rows
def none {H : Type} : Left H := { results := [], args := [] }

/-- 'histree.LawS3699AEqual': WHATEVER THE INPUT: true; the input reads as it did. -/
def lawS3699AEqualSpec : ChangeSpec := { name := "lawS3699AEqual", fn := fun _ => fun
  | [d1, d2, d3, d4, d5] => { results := [.lit (.bool true)], args := [d1, d2, d3, d4, d5] }
  | _ => none }
def lawS3699AEqualRow : OpenClaim := { program := "ybulkbxou", sum := "6d36dfe4d642af4ed636341ae92b97bb7b168736929ed71cc8807b36e0c07a13", func := "example.com/histree/histree.LawS3699AEqual", spec := "lawS3699AEqual", apart := false }
def LawS3699AEqualSaid : Prop := lawS3699AEqualRow.holds Yba.pinned (OpenSpec.ofChange lawS3699AEqualSpec)

/-- ITS FALSE NEIGHBOUR: 'it returns false'. Refute it at one input. -/
def lawS3699AEqualWrong : ChangeSpec := { name := "lawS3699AEqual", fn := fun _ => fun
  | [d1, d2, d3, d4, d5] => { results := [.lit (.bool false)], args := [d1, d2, d3, d4, d5] }
  | _ => none }
def LawS3699AEqualWrongFalsely : Prop := lawS3699AEqualRow.holds Yba.pinned (OpenSpec.ofChange lawS3699AEqualWrong)

/-- 'histree.LawS3699AApart': WHATEVER THE INPUT: true; the input reads as it did. -/
def lawS3699AApartSpec : ChangeSpec := { name := "lawS3699AApart", fn := fun _ => fun
  | [d1, d2, d3, d4, d5] => { results := [.lit (.bool true)], args := [d1, d2, d3, d4, d5] }
  | _ => none }
def lawS3699AApartRow : OpenClaim := { program := "ybulkbxou", sum := "6d36dfe4d642af4ed636341ae92b97bb7b168736929ed71cc8807b36e0c07a13", func := "example.com/histree/histree.LawS3699AApart", spec := "lawS3699AApart", apart := false }
def LawS3699AApartSaid : Prop := lawS3699AApartRow.holds Yba.pinned (OpenSpec.ofChange lawS3699AApartSpec)

/-- ITS FALSE NEIGHBOUR: 'it returns false'. Refute it at one input. -/
def lawS3699AApartWrong : ChangeSpec := { name := "lawS3699AApart", fn := fun _ => fun
  | [d1, d2, d3, d4, d5] => { results := [.lit (.bool false)], args := [d1, d2, d3, d4, d5] }
  | _ => none }
def LawS3699AApartWrongFalsely : Prop := lawS3699AApartRow.holds Yba.pinned (OpenSpec.ofChange lawS3699AApartWrong)

/-- 'histree.LawS3699BUndecided': WHATEVER THE INPUT: true; the input reads as it did. -/
def lawS3699BUndecidedSpec : ChangeSpec := { name := "lawS3699BUndecided", fn := fun _ => fun
  | [d1, d2, d3, d4, d5, d6] => { results := [.lit (.bool true)], args := [d1, d2, d3, d4, d5, d6] }
  | _ => none }
def lawS3699BUndecidedRow : OpenClaim := { program := "ybulkbxou", sum := "6d36dfe4d642af4ed636341ae92b97bb7b168736929ed71cc8807b36e0c07a13", func := "example.com/histree/histree.LawS3699BUndecided", spec := "lawS3699BUndecided", inPlace := ["slices.overlaps[example.com/histree/histree.txBranch]"], unfollowed := true, recurses := true, apart := false }
def LawS3699BUndecidedSaid : Prop := lawS3699BUndecidedRow.holds Yba.pinned (OpenSpec.ofChange lawS3699BUndecidedSpec)

/-- ITS FALSE NEIGHBOUR: 'it returns false'. Refute it at one input. -/
def lawS3699BUndecidedWrong : ChangeSpec := { name := "lawS3699BUndecided", fn := fun _ => fun
  | [d1, d2, d3, d4, d5, d6] => { results := [.lit (.bool false)], args := [d1, d2, d3, d4, d5, d6] }
  | _ => none }
def LawS3699BUndecidedWrongFalsely : Prop := lawS3699BUndecidedRow.holds Yba.pinned (OpenSpec.ofChange lawS3699BUndecidedWrong)

/-- 'histree.LawS3699CReads': WHATEVER THE INPUT: true; the input reads as it did. -/
def lawS3699CReadsSpec : ChangeSpec := { name := "lawS3699CReads", fn := fun _ => fun
  | [d1, d2, d3] => { results := [.lit (.bool true)], args := [d1, d2, d3] }
  | _ => none }
def lawS3699CReadsRow : OpenClaim := { program := "ybulkbxou", sum := "6d36dfe4d642af4ed636341ae92b97bb7b168736929ed71cc8807b36e0c07a13", func := "example.com/histree/histree.LawS3699CReads", spec := "lawS3699CReads", inPlace := ["(*internal/sync.Mutex).Lock", "internal/race.Disable", "sync/atomic.CompareAndSwapInt32", "internal/race.Enable", "internal/race.Acquire", "(*internal/sync.Mutex).lockSlow", "internal/sync.runtime_canSpin", "internal/sync.runtime_doSpin", "internal/sync.throw", "internal/sync.runtime_nanotime", "internal/sync.runtime_SemacquireMutex", "sync/atomic.AddInt32", "(*internal/sync.Mutex).Unlock", "internal/race.ReleaseMerge", "(*internal/sync.Mutex).unlockSlow", "internal/sync.fatal", "internal/sync.runtime_Semrelease", "(*internal/sync.Mutex).TryLock"], apart := false }
def LawS3699CReadsSaid : Prop := lawS3699CReadsRow.holds Yba.pinned (OpenSpec.ofChange lawS3699CReadsSpec)

/-- ITS FALSE NEIGHBOUR: 'it returns false'. Refute it at one input. -/
def lawS3699CReadsWrong : ChangeSpec := { name := "lawS3699CReads", fn := fun _ => fun
  | [d1, d2, d3] => { results := [.lit (.bool false)], args := [d1, d2, d3] }
  | _ => none }
def LawS3699CReadsWrongFalsely : Prop := lawS3699CReadsRow.holds Yba.pinned (OpenSpec.ofChange lawS3699CReadsWrong)

end Rows
end Go.Proofs.Ybulkbxou
