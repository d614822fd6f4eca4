/-
  Counted, newChunk, chunkSize.
-/
import Derived.Test.YbulkbxjyMid2
namespace Go.Proofs.Ybulkbxjy
open Go.RowKit

theorem counted_nil (qb : Nat) (h t : Option Addr) (w : World) (hq : w.heap[qb]? = some (.cells (qCells h t none) 39)) :
    Calls Yba.prog 7 #[.pointer (some ⟨qb, 0, none⟩)] w fun e w' => e = .returned (.int .i64 0) ∧ w = w' := by
  have hc : w.cell? ⟨qb, 4, none⟩ = some (.pointer none) := cell_of hq rfl
  go_enter Yba.func7, Yba.ntmps7
  go_wp2_with (go_at_call 18; refine (cap_load_nil qb 4 _ hc).mono ?_; rintro e w' ⟨rfl, rfl⟩)
  go_ret
  exact ⟨rfl, rfl⟩

theorem counted_cap (qb cb : Nat) (h t : Option Addr) (n : Int) (w : World) (hq : w.heap[qb]? = some (.cells (qCells h t (some ⟨cb, 0, none⟩)) 39)) (hk : w.heap[cb]? = some (.cells (capCells n) 64)) :
    Calls Yba.prog 7 #[.pointer (some ⟨qb, 0, none⟩)] w fun e w' => e = .returned (.int .i64 n) ∧ w = w' := by
  have hc : w.cell? ⟨qb, 4, none⟩ = some (.pointer (some ⟨cb, 0, none⟩)) := cell_of hq rfl
  have h0 : w.cell? ⟨cb, 0, none⟩ = some (.int .i64 n) := cell_of hk rfl
  have hs : w.shape? cb = some (64, 4) := shape_of hk
  go_enter Yba.func7, Yba.ntmps7
  go_wp2_with (first | (go_at_call 18; refine (cap_load qb 4 cb _ hc hs).mono ?_; rintro e w' ⟨rfl, rfl⟩) | (go_at_call 15; refine (i64_load cb 0 n _ h0).mono ?_; rintro e w' ⟨rfl, rfl⟩))
  go_ret
  exact ⟨rfl, rfl⟩

theorem Yba.info89 : (Yba.prog.info? 89).map (fun i => (i.zero, i.size, i.bytes)) = some (some (.agg #[.int .u32 0, .int .i64 0]), 2, 16) := by kernel_rfl

def slotCells (L : Nat) : Array Value := madeCells #[.int .u32 0, .int .i64 0] (L * 2)
theorem slotCells_size (L : Nat) : (slotCells L).size = L * 2 := size_madeCells _ _

theorem run_make_slots (L : Nat) (hL : L ≤ 1024) (w : World) :
    (Instr.makeSlice 69 (.int .i64 L) (.int .i64 L)).run Yba.prog w = .ok (.slice (some ⟨w.heap.size, 0, none⟩) L L) (w.alloc (.cells (slotCells L) 89)) := by
  obtain ⟨i, hi, hz0, hz1, hz2⟩ := info_parts Yba.info89
  have h := run_make (P := Yba.prog) w 69 89 i _ Yba.underlying69 hi hz0 .i64 .i64 L L (by omega) (by omega) (by rw [hz2]; omega) (by omega)
  rw [hz1] at h
  simpa [slotCells, Value.cells] using h

theorem newChunk_any (L : Nat) (base cl : Int) (w : World) (hL : L ≤ 1024) :
    Calls Yba.prog 27 #[.int .i64 L, .int .i64 base, .int .i64 cl] w fun e w' => e = .returned (.pointer (some ⟨w.heap.size + 1, 0, none⟩)) ∧
      w'.heap[w.heap.size]? = some (.cells (slotCells L) 89) ∧ w'.heap[w.heap.size + 1]? = some (.cells (kCells cl w.heap.size L base none) 75) ∧ Fr [] w w' := by
  have hm := run_make_slots L hL
  have a1 : ((w.alloc (.cells (slotCells L) 89)).alloc (.cells (kCells 0 w.heap.size L 0 none) 75)).heap[w.heap.size]? = some (.cells (slotCells L) 89) := blk_alloc _ (blk_new w _)
  have a2 : ((w.alloc (.cells (slotCells L) 89)).alloc (.cells (kCells 0 w.heap.size L 0 none) 75)).heap[w.heap.size + 1]? = some (.cells (kCells 0 w.heap.size L 0 none) 75) := by
    have := blk_new (w.alloc (.cells (slotCells L) 89)) (.cells (kCells 0 w.heap.size L 0 none) 75)
    simpa using this
  have a3 : Fr [] w ((w.alloc (.cells (slotCells L) 89)).alloc (.cells (kCells 0 w.heap.size L 0 none) 75)) := ((Fr.refl _ w).alloc _).alloc _
  have H1 : Hid _ := a1
  have H2 : Hid _ := a2
  have H3 : Hid _ := a3
  clear a1 a2 a3
  go_enter Yba.func27, Yba.ntmps27
  go_wp2_with fail
  change Calls _ _ _ ((w.alloc (.cells (slotCells L) 89)).alloc (.cells (kCells 0 w.heap.size L 0 none) 75)) _
  generalize ((w.alloc (.cells (slotCells L) 89)).alloc (.cells (kCells 0 w.heap.size L 0 none) 75)) = W at *
  refine (i64_store (w.heap.size + 1) 2 (.int .i64 0) base W (cell_of H2 rfl) (frozen_of H2 2)).mono ?_
  rintro e w' ⟨rfl, rfl⟩
  have K1 : Hid _ := blk_set_ne (c := w.heap.size + 1) (i := 2) (.int .i64 base) H1 (by omega)
  have K2 : Hid _ := blk_set H2 2 (.int .i64 base)
  have K3 : Hid _ := Fr.setCell H3 (p := ⟨w.heap.size + 1, 2, none⟩) (Or.inr (by simp)) (.int .i64 base)
  generalize (W.setCell ⟨w.heap.size + 1, 2, none⟩ (.int .i64 base)) = W2 at *
  go_wp2_with fail
  refine (i64_store (w.heap.size + 1) 0 (.int .i64 0) cl W2 (cell_of K2 rfl) (frozen_of K2 0)).mono ?_
  rintro e w' ⟨rfl, rfl⟩
  have M1 : Hid _ := blk_set_ne (c := w.heap.size + 1) (i := 0) (.int .i64 cl) K1 (by omega)
  have M2 : Hid _ := blk_set K2 0 (.int .i64 cl)
  have M3 : Hid _ := Fr.setCell K3 (p := ⟨w.heap.size + 1, 0, none⟩) (Or.inr (by simp)) (.int .i64 cl)
  generalize (W2.setCell ⟨w.heap.size + 1, 0, none⟩ (.int .i64 cl)) = W3 at *
  go_wp2_with fail
  go_ret
  exact ⟨rfl, M1, M2, M3⟩

/-- The sizes that a chunk of a queue that only grows may have. -/
def P2 (n : Nat) : Prop := n = 4 ∨ n = 8 ∨ n = 16 ∨ n = 32 ∨ n = 64 ∨ n = 128 ∨ n = 256 ∨ n = 512 ∨ n = 1024

theorem p2_le {s L : Nat} (hs : P2 s) (hL : P2 L) (h : s + 3 < 2 * L) : s ≤ L := by unfold P2 at *; omega
theorem p2_double {s : Nat} (hs : P2 s) (h : s < 1024) : P2 (s * 2) := by unfold P2 at *; omega
theorem p2_eq {s L : Nat} (hs : P2 s) (hL : P2 L) (h : L ≤ 512) (h1 : s ≤ 2 * L) (h2 : 2 * L ≤ s + 3) : s = 2 * L := by unfold P2 at *; omega
theorem p2_bd {s : Nat} (hs : P2 s) : 4 ≤ s ∧ s ≤ 1024 := by unfold P2 at *; omega

theorem chunkSize_any (L : Nat) (w : World) (hL : P2 L) (h5 : L ≤ 512) :
    Calls Yba.prog 58 #[.int .i64 (2 * (L : Int) - 3)] w fun e w' => e = .returned (.int .i64 ((2 * L : Nat) : Int)) ∧ w = w' := by
  have hb := p2_bd hL
  have HL : Hid (P2 L) := hL
  clear hL
  go_enter Yba.func58, Yba.ntmps58
  go_wp2
  go_loop [3] (fun t => ∃ s : Nat, Hid (P2 s) ∧ s ≤ 2 * L ∧ t = .int .i64 s) (fun t => 1024 - (intOf t).toNat)
  case atStart => exact ⟨4, Or.inl rfl, by omega, rfl⟩
  case round =>
    obtain ⟨s, hs, hs2, rfl⟩ := hrel
    have hsb := p2_bd hs.out
    by_cases h1 : (s : Int) < 2 * (L : Int) - 3
    · by_cases h2 : (s : Int) < 1024
      · go_wp2
        go_round
        case rel => exact ⟨s * 2, p2_double hs.out (by omega), by have := p2_le hs.out HL.out (by omega); omega, by go_num⟩
        case measure => simp [intOf]; omega
      · go_wp2
        go_ret
        have : s = 2 * L := by omega
        subst this
        exact ⟨rfl, rfl⟩
    · go_wp2
      go_ret
      have := p2_eq hs.out HL.out h5 hs2 (by omega)
      subst this
      exact ⟨rfl, rfl⟩

end Go.Proofs.Ybulkbxjy
