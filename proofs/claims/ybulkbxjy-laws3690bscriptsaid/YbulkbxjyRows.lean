/-
  No cell of these rows narrows 'for every input' (looked for: loops, veiled, ifaces, maps, wideKeys, modest, calm, conditions, laid).
  DERIVED. THE GIVEN ROWS OF THIS SEAT. 2 by the template 'for every input the law returns true; each argument reads behind the call as it read before'; 0 by the template 'total and deterministic' (their statements: YbulkbxjyTotals.lean).
  GIVEN WITH THE SEED: the statements are not yours to turn. If you find one false, say at which input.
  Laid BY PROGRAM, IN A SANDBOX (cutbox-rows.mjs): the forced cells as the released guide's own fill.sh prints them over the translation 2e8c974ce7a48418… (all of the seat's roots in one cut). By AI agents, Wed Nov 11 2026. No macro, syntax, notation, axiom, sorry.
-/
import Derived.Test.YbulkbxjyChecked
import GoSem.Claim
import GoSem.ClaimJoined
import GoSem.ClaimMapViews
import Derived.JoinedTies
import Derived.KernelRfl
namespace Go.Proofs.Ybulkbxjy
/- THE CELL 'sum', in the pinned program and in every row, IS THE sha256 OF THE DUMP (.gsa) THAT YbulkbxjyProg.lean LOADS. Nothing in Lean hashes anything: it is a label: what it is worth is what the hold of that sum in a sandbox is worth. -/
noncomputable def Yba.pinned : Pinned := { name := "ybulkbxjy", sum := "2e8c974ce7a48418dde38d09e3921395c6db439c4d052aa032a67c2d9ecbb593", checked := Yba.checked }
namespace Rows
def none {H : Type} : Left H := { results := [], args := [] }

/-- 'queue.LawS3690BScript': WHATEVER THE INPUT: true; the input reads as it did. -/
def lawS3690BScriptSpec : ChangeSpec := { name := "lawS3690BScript", fn := fun _ => fun
  | [d] => { results := [.lit (.bool true)], args := [d] }
  | _ => none }
def lawS3690BScriptRow : OpenClaim := { program := "ybulkbxjy", sum := "2e8c974ce7a48418dde38d09e3921395c6db439c4d052aa032a67c2d9ecbb593", func := "example.com/mailvox/mailvox/internal/queue.LawS3690BScript", spec := "lawS3690BScript", inPlace := ["sync/atomic.LoadPointer", "(*internal/sync.Mutex).Lock", "internal/race.Disable", "sync/atomic.CompareAndSwapInt32", "internal/race.Enable", "internal/race.Acquire", "(*internal/sync.Mutex).lockSlow", "internal/sync.runtime_canSpin", "internal/sync.runtime_doSpin", "internal/sync.throw", "internal/sync.runtime_nanotime", "internal/sync.runtime_SemacquireMutex", "sync/atomic.AddInt32", "(*internal/sync.Mutex).Unlock", "internal/race.ReleaseMerge", "(*internal/sync.Mutex).unlockSlow", "internal/sync.fatal", "internal/sync.runtime_Semrelease", "sync/atomic.CompareAndSwapPointer", "sync/atomic.LoadInt64", "sync/atomic.CompareAndSwapInt64", "sync/atomic.StoreInt64", "sync/atomic.StorePointer", "sync/atomic.AddInt64", "sync/atomic.LoadUint32", "sync/atomic.StoreUint32", "weak.runtime_makeStrongFromWeak", "sync/atomic.SwapPointer", "runtime.Gosched", "sync/atomic.LoadInt32", "sync/atomic.StoreInt32"], unfollowed := true, recurses := true, apart := false }
def LawS3690BScriptSaid : Prop := lawS3690BScriptRow.holds Yba.pinned (OpenSpec.ofChange lawS3690BScriptSpec)

/-- ITS FALSE NEIGHBOUR: 'it returns false'. Refute it at one input. -/
def lawS3690BScriptWrong : ChangeSpec := { name := "lawS3690BScript", fn := fun _ => fun
  | [d] => { results := [.lit (.bool false)], args := [d] }
  | _ => none }
def LawS3690BScriptWrongFalsely : Prop := lawS3690BScriptRow.holds Yba.pinned (OpenSpec.ofChange lawS3690BScriptWrong)

/-- 'queue.LawS3690BDrain': WHATEVER THE INPUT: true; the input reads as it did. -/
def lawS3690BDrainSpec : ChangeSpec := { name := "lawS3690BDrain", fn := fun _ => fun
  | [d] => { results := [.lit (.bool true)], args := [d] }
  | _ => none }
def lawS3690BDrainRow : OpenClaim := { program := "ybulkbxjy", sum := "2e8c974ce7a48418dde38d09e3921395c6db439c4d052aa032a67c2d9ecbb593", func := "example.com/mailvox/mailvox/internal/queue.LawS3690BDrain", spec := "lawS3690BDrain", inPlace := ["sync/atomic.LoadPointer", "(*internal/sync.Mutex).Lock", "internal/race.Disable", "sync/atomic.CompareAndSwapInt32", "internal/race.Enable", "internal/race.Acquire", "(*internal/sync.Mutex).lockSlow", "internal/sync.runtime_canSpin", "internal/sync.runtime_doSpin", "internal/sync.throw", "internal/sync.runtime_nanotime", "internal/sync.runtime_SemacquireMutex", "sync/atomic.AddInt32", "(*internal/sync.Mutex).Unlock", "internal/race.ReleaseMerge", "(*internal/sync.Mutex).unlockSlow", "internal/sync.fatal", "internal/sync.runtime_Semrelease", "sync/atomic.CompareAndSwapPointer", "sync/atomic.LoadInt64", "sync/atomic.CompareAndSwapInt64", "sync/atomic.StoreInt64", "sync/atomic.StorePointer", "sync/atomic.AddInt64", "sync/atomic.LoadUint32", "sync/atomic.StoreUint32", "weak.runtime_makeStrongFromWeak", "sync/atomic.SwapPointer", "runtime.Gosched", "sync/atomic.LoadInt32", "sync/atomic.StoreInt32", "sync/atomic.AddUint32", "internal/abi.Escape[*example.com/mailvox/mailvox/internal/queue.reserve[int]]", "weak.runtime_registerWeakPointer", "runtime.KeepAlive"], unfollowed := true, recurses := true, apart := false }
def LawS3690BDrainSaid : Prop := lawS3690BDrainRow.holds Yba.pinned (OpenSpec.ofChange lawS3690BDrainSpec)

/-- ITS FALSE NEIGHBOUR: 'it returns false'. Refute it at one input. -/
def lawS3690BDrainWrong : ChangeSpec := { name := "lawS3690BDrain", fn := fun _ => fun
  | [d] => { results := [.lit (.bool false)], args := [d] }
  | _ => none }
def LawS3690BDrainWrongFalsely : Prop := lawS3690BDrainRow.holds Yba.pinned (OpenSpec.ofChange lawS3690BDrainWrong)

end Rows
end Go.Proofs.Ybulkbxjy
