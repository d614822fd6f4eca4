/-
  evicting, caps, Counted, newChunk, heldPast, chunkSize, takeSpare.
-/
import Derived.Test.YbulkbxjyMark
import Derived.Deep.QuietTactic
import Derived.BigQuiet
namespace Go.Proofs.Ybulkbxjy
open Go.RowKit

def capCells (n : Int) : Array Value := #[.int .i64 n, .bool false, .int .i32 0, .int .u32 0]
def qCells (h t c : Option Addr) : Array Value := #[.pointer h, .pointer t, .pointer none, .pointer none, .pointer c]
def kCells (claims : Int) (sb L : Nat) (base : Int) (nx : Option Addr) : Array Value :=
  #[.int .i64 claims, .slice (some ⟨sb, 0, none⟩) L L, .int .i64 base, .pointer nx, .int .i64 0, .int .i32 0, .int .u32 0]

theorem evicting_nil (qb : Nat) (h t : Option Addr) (w : World) (hq : w.heap[qb]? = some (.cells (qCells h t none) 39)) :
    Calls Yba.prog 11 #[.pointer (some ⟨qb, 0, none⟩)] w fun e w' => e = .returned (.pointer none) ∧ w = w' := by
  have hc : w.cell? ⟨qb, 4, none⟩ = some (.pointer none) := cell_of hq rfl
  go_enter Yba.func11, Yba.ntmps11
  go_wp2_with (go_at_call 18; refine (cap_load_nil qb 4 _ hc).mono ?_; rintro e w' ⟨rfl, rfl⟩)
  go_ret
  exact ⟨rfl, rfl⟩

theorem evicting_cap (qb cb : Nat) (h t : Option Addr) (n : Int) (w : World) (hq : w.heap[qb]? = some (.cells (qCells h t (some ⟨cb, 0, none⟩)) 39)) (hk : w.heap[cb]? = some (.cells (capCells n) 64)) :
    Calls Yba.prog 11 #[.pointer (some ⟨qb, 0, none⟩)] w fun e w' => e = .returned (.pointer none) ∧ w = w' := by
  have hc : w.cell? ⟨qb, 4, none⟩ = some (.pointer (some ⟨cb, 0, none⟩)) := cell_of hq rfl
  have h1 : w.cell? ⟨cb, 1, none⟩ = some (.bool false) := cell_of hk rfl
  have hs : w.shape? cb = some (64, 4) := shape_of hk
  go_enter Yba.func11, Yba.ntmps11
  go_wp2_with (go_at_call 18; refine (cap_load qb 4 cb _ hc hs).mono ?_; rintro e w' ⟨rfl, rfl⟩)
  go_ret
  exact ⟨rfl, rfl⟩

theorem caps_cap (qb cb : Nat) (h t : Option Addr) (n : Int) (w : World) (hq : w.heap[qb]? = some (.cells (qCells h t (some ⟨cb, 0, none⟩)) 39)) (hk : w.heap[cb]? = some (.cells (capCells n) 64)) :
    Calls Yba.prog 14 #[.pointer (some ⟨qb, 0, none⟩)] w fun e w' => e = .returned (.pointer (some ⟨cb, 0, none⟩)) ∧ w = w' := by
  have hc : w.cell? ⟨qb, 4, none⟩ = some (.pointer (some ⟨cb, 0, none⟩)) := cell_of hq rfl
  have hs : w.shape? cb = some (64, 4) := shape_of hk
  go_enter Yba.func14, Yba.ntmps14
  go_wp2_with (go_at_call 18; refine (cap_load qb 4 cb _ hc hs).mono ?_; rintro e w' ⟨rfl, rfl⟩)
  go_ret
  exact ⟨rfl, rfl⟩

end Go.Proofs.Ybulkbxjy
