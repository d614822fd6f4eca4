/-
  (*chunk).mark in a chunk's first use; the blocks' small laws.
-/
import Derived.Test.YbulkbxjyLeaf
import Derived.Deep.RegionWith
namespace Go.Proofs.Ybulkbxjy
open Go.RowKit

theorem mark_one (hb sb so : Nat) (v : Value) (w : World) (hu : w.cell? ⟨hb, 6, none⟩ = some (.int .u32 0)) (hs : w.cell? ⟨sb, so, none⟩ = some v) (hz : w.frozen? ⟨sb, so, none⟩ = false) :
    Calls Yba.prog 31 #[.pointer (some ⟨hb, 0, none⟩), .pointer (some ⟨sb, so, none⟩), .int .u32 1] w fun e w' => e = .returned (.tuple #[]) ∧ w' = (w.setCell ⟨sb, so, none⟩ (.int .u32 1)).drew := by
  go_enter Yba.func31, Yba.ntmps31
  go_wp2
  go_region_with (first | (go_at_call 52; refine (u32_load hb 6 0 _ (by simpa using hu)).mono ?_; rintro e w' ⟨rfl, rfl⟩) | (go_at_call 51; refine (u32_store sb so v 1 _ (by simpa using hs) (by simpa using hz)).mono ?_; rintro e w' ⟨rfl, rfl⟩))
  go_end0
  exact ⟨rfl, rfl⟩

theorem mark_two (hb sb so : Nat) (v : Value) (w : World) (hu : w.cell? ⟨hb, 6, none⟩ = some (.int .u32 0)) (hs : w.cell? ⟨sb, so, none⟩ = some v) (hz : w.frozen? ⟨sb, so, none⟩ = false) :
    Calls Yba.prog 31 #[.pointer (some ⟨hb, 0, none⟩), .pointer (some ⟨sb, so, none⟩), .int .u32 2] w fun e w' => e = .returned (.tuple #[]) ∧ w' = (w.setCell ⟨sb, so, none⟩ (.int .u32 2)).drew := by
  go_enter Yba.func31, Yba.ntmps31
  go_wp2
  go_region_with (first | (go_at_call 52; refine (u32_load hb 6 0 _ (by simpa using hu)).mono ?_; rintro e w' ⟨rfl, rfl⟩) | (go_at_call 51; refine (u32_store sb so v 2 _ (by simpa using hs) (by simpa using hz)).mono ?_; rintro e w' ⟨rfl, rfl⟩))
  go_end0
  exact ⟨rfl, rfl⟩

theorem mark_any (hb sb so : Nat) (k : Int) (v : Value) (w : World) (hk : k = 1 ∨ k = 2) (hu : w.cell? ⟨hb, 6, none⟩ = some (.int .u32 0)) (hs : w.cell? ⟨sb, so, none⟩ = some v) (hz : w.frozen? ⟨sb, so, none⟩ = false) :
    Calls Yba.prog 31 #[.pointer (some ⟨hb, 0, none⟩), .pointer (some ⟨sb, so, none⟩), .int .u32 k] w fun e w' => e = .returned (.tuple #[]) ∧ w' = (w.setCell ⟨sb, so, none⟩ (.int .u32 k)).drew := by
  rcases hk with rfl | rfl
  · exact mark_one hb sb so v w hu hs hz
  · exact mark_two hb sb so v w hu hs hz

/-! The blocks. -/
section
variable {w : World} {b : Nat} {cs : Array Value} {t : TypeId}
theorem cell_of (h : w.heap[b]? = some (.cells cs t)) {i : Nat} {v : Value} (hi : cs[i]? = some v) : w.cell? ⟨b, i, none⟩ = some v := by
  simp [World.cell?, h, hi]
theorem shape_of (h : w.heap[b]? = some (.cells cs t)) : w.shape? b = some (t, cs.size) := by simp [World.shape?, h]
theorem frozen_of (h : w.heap[b]? = some (.cells cs t)) (i : Nat) : w.frozen? ⟨b, i, none⟩ = false := by simp [World.frozen?, h]
theorem blk_set (h : w.heap[b]? = some (.cells cs t)) (i : Nat) (v : Value) : (w.setCell ⟨b, i, none⟩ v).heap[b]? = some (.cells (cs.setIfInBounds i v) t) := by
  simp [World.setCell, Array.getElem?_modify, h]
theorem blk_set_ne {o : Option Obj} {c i : Nat} (v : Value) (h : w.heap[b]? = o) (hn : b ≠ c) : (w.setCell ⟨c, i, none⟩ v).heap[b]? = o := by
  rw [Below.heap_setCell _ _ _ _ (by simpa using hn)]; exact h
theorem blk_lt {o : Obj} (h : w.heap[b]? = some o) : b < w.heap.size := (Array.getElem?_eq_some_iff.1 h).1
theorem blk_alloc {x : Obj} (o : Obj) (h : w.heap[b]? = some x) : (w.alloc o).heap[b]? = some x := by
  rw [Below.heap_alloc _ _ _ (blk_lt h)]; exact h
theorem blk_new (w : World) (o : Obj) : (w.alloc o).heap[w.heap.size]? = some o := by
  show (w.heap.push o)[w.heap.size]? = _
  simp
theorem blk_ne {c : Nat} {ds : Array Value} {u : TypeId} (h : w.heap[b]? = some (.cells cs t)) (h' : w.heap[c]? = some (.cells ds u)) (hn : t ≠ u) : b ≠ c := by
  rintro rfl
  rw [h] at h'
  cases h'
  exact hn rfl
end

end Go.Proofs.Ybulkbxjy
