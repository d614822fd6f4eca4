/-
  push at a full tail; push into a queue that has no chunk.
-/
import Derived.Test.YbulkbxjyExt
namespace Go.Proofs.Ybulkbxjy
open Go.RowKit

set_option maxRecDepth 100000 in
theorem push_full (qb tb hb sb sb' : Nat) (c : Option Addr) (cl' : Int) (L L' : Nat) (nx nx' : Option Addr) (v k : Int) (w : World) (hk : k = 1 ∨ k = 2)
    (hq : w.heap[qb]? = some (.cells (qCells (some ⟨hb, 0, none⟩) (some ⟨tb, 0, none⟩) c) 39)) (ht : w.heap[tb]? = some (.cells (kCells L sb L ((L : Int) - 4) nx) 75))
    (hh : w.heap[hb]? = some (.cells (kCells cl' sb' L' 0 nx') 75)) (hL : P2 L) (h5 : L ≤ 512) :
    Calls Yba.prog 17 #[.pointer (some ⟨qb, 0, none⟩), .int .i64 v, .int .u32 k] w fun e w' => e = .returned (.bool false) ∧
      w'.heap[qb]? = some (.cells (qCells (some ⟨hb, 0, none⟩) (some ⟨w.heap.size + 1, 0, none⟩) c) 39) ∧
      w'.heap[tb]? = some (.cells (kCells ((L : Int) + 1) sb L ((L : Int) - 4) (some ⟨w.heap.size + 1, 0, none⟩)) 75) ∧
      w'.heap[w.heap.size + 1]? = some (.cells (kCells (1 : Nat) w.heap.size (2 * L) (((2 * L : Nat) : Int) - 4) none) 75) ∧
      (∃ cs', w'.heap[w.heap.size]? = some (.cells cs' 89) ∧ cs'.size = 2 * (2 * L)) ∧ Fr [qb, tb] w w' := by
  have hLb := p2_bd hL
  have HL : Hid (P2 L) := hL
  have c1 : w.cell? ⟨qb, 1, none⟩ = some (.pointer (some ⟨tb, 0, none⟩)) := cell_of hq rfl
  have c0 : w.cell? ⟨tb, 0, none⟩ = some (.int .i64 L) := cell_of ht rfl
  have s1 : w.shape? tb = some (75, 7) := shape_of ht
  have ne2 : qb ≠ tb := blk_ne hq ht (by decide)
  have T1 : Hid _ := blk_set ht 0 (.int .i64 (L + 1))
  have Q1 : Hid _ := blk_set_ne (c := tb) (i := 0) (.int .i64 ((L : Int) + 1)) hq ne2
  have F1 : Hid (Fr [qb, tb] w (w.setCell ⟨tb, 0, none⟩ (.int .i64 ((L : Int) + 1)))) := Fr.setCell (Fr.refl _ w) (p := ⟨tb, 0, none⟩) (Or.inl (by simp)) _
  have Z1 : Hid ((w.setCell ⟨tb, 0, none⟩ (.int .i64 ((L : Int) + 1))).heap.size = w.heap.size) := by simp [Hid]
  have H1 : Hid (∃ cl' sb' L' nx', (w.setCell ⟨tb, 0, none⟩ (.int .i64 ((L : Int) + 1))).heap[hb]? = some (.cells (kCells cl' sb' L' 0 nx') 75)) := by
    by_cases e : hb = tb
    · subst e
      have h4 : L = 4 ∨ (L : Int) - 4 = 0 := by
        rw [hh] at ht
        simp [kCells] at ht
        omega
      have h4' : (L : Int) - 4 = 0 := by omega
      rw [h4'] at T1
      exact ⟨_, _, _, _, T1⟩
    · exact ⟨_, _, _, _, blk_set_ne (c := tb) (i := 0) (.int .i64 ((L : Int) + 1)) hh e⟩
  have z0 := frozen_of ht 0
  clear hq ht hh hL
  go_enter Yba.func17, Yba.ntmps17
  go_wp2_with fail
  refine (chunk_load qb 1 tb _ c1 s1).mono ?_
  rintro e w' ⟨rfl, rfl⟩
  go_wp2_with fail
  refine wp_loop_rounds 1 ?_
  rw [rounds_succ]
  go_wp2_with fail
  refine (i64_add1 tb 0 L _ (by omega) (by omega) c0 z0).mono ?_
  rintro e w' ⟨rfl, rfl⟩
  clear c0 c1 s1 z0
  generalize (w.setCell ⟨tb, 0, none⟩ (.int .i64 ((L : Int) + 1))) = W at *
  have d1 : W.cell? ⟨tb, 1, none⟩ = some (.slice (some ⟨sb, 0, none⟩) L L) := cell_of T1 rfl
  obtain ⟨cl2, sb2, L2, nx2, hh2⟩ := H1
  have H1 : Hid _ := hh2
  clear hh2
  go_wp2_with fail
  refine (extend_any qb tb hb sb sb2 c _ cl2 L L2 nx nx2 v k W hk Q1 T1 H1 HL.out h5).mono ?_
  rintro e W2 ⟨rfl, r1, r2, r3, r4, r5⟩
  rw [Z1.out] at r1 r2 r3 r4
  have R1 : Hid _ := r1
  have R2 : Hid _ := r2
  have R3 : Hid _ := r3
  have R4 : Hid _ := r4
  have R5 : Hid _ := Fr.trans F1 r5
  clear r1 r2 r3 r4 r5 d1
  go_wp2_with fail
  go_ret
  exact ⟨rfl, R1, R2, R3, R4, R5⟩

set_option maxRecDepth 100000 in
theorem push_first (qb : Nat) (c : Option Addr) (v k : Int) (w : World) (hk : k = 1 ∨ k = 2)
    (hq : w.heap[qb]? = some (.cells (qCells none none c) 39)) :
    Calls Yba.prog 17 #[.pointer (some ⟨qb, 0, none⟩), .int .i64 v, .int .u32 k] w fun e w' => e = .returned (.bool false) ∧
      w'.heap[qb]? = some (.cells (qCells (some ⟨w.heap.size + 1, 0, none⟩) (some ⟨w.heap.size + 1, 0, none⟩) c) 39) ∧
      w'.heap[w.heap.size + 1]? = some (.cells (kCells (1 : Nat) w.heap.size 4 0 none) 75) ∧
      (∃ cs', w'.heap[w.heap.size]? = some (.cells cs' 89) ∧ cs'.size = 2 * 4) ∧ Fr [qb] w w' := by
  have c1 : w.cell? ⟨qb, 1, none⟩ = some (.pointer none) := cell_of hq rfl
  have lq : qb < w.heap.size := blk_lt hq
  have Hq : Hid _ := hq
  clear hq
  go_enter Yba.func17, Yba.ntmps17
  go_wp2_with fail
  refine (chunk_load_nil qb 1 _ c1).mono ?_
  rintro e w' ⟨rfl, rfl⟩
  go_wp2_with fail
  refine wp_loop_rounds 2 ?_
  rw [rounds_succ]
  go_wp2_with fail
  refine (newChunk_at 4 4 (by omega) 0 0 w (by omega)).mono ?_
  rintro e W1 ⟨rfl, a1, a2, a3⟩
  have Sn1 : Hid _ := a1
  have Kn1 : Hid _ := a2
  have Fd1 : Hid (Fr [qb] w W1) := a3.mono (by simp)
  have Hq1 : Hid _ := a3.keep Hq (by simp)
  clear a1 a2 a3 c1 Hq
  generalize hN : w.heap.size = N at *
  have HN : Hid (w.heap.size = N) := hN
  clear hN
  go_wp2_with fail
  refine (chunk_cas_nil qb 1 ⟨N + 1, 0, none⟩ _ W1 (cell_of Hq1 rfl) (frozen_of Hq1 1) (cell_of Kn1 rfl)).mono ?_
  rintro e w' ⟨rfl, rfl⟩
  have Sn2 : Hid _ := blk_set_ne (c := qb) (i := 1) (.pointer (some ⟨N + 1, 0, none⟩)) Sn1 (by omega)
  have Kn2 : Hid _ := blk_set_ne (c := qb) (i := 1) (.pointer (some ⟨N + 1, 0, none⟩)) Kn1 (by omega)
  have Hq2 : Hid _ := blk_set Hq1 1 (.pointer (some ⟨N + 1, 0, none⟩))
  have Fd2 : Hid (Fr [qb] w (W1.setCell ⟨qb, 1, none⟩ (.pointer (some ⟨N + 1, 0, none⟩)))) := Fr.setCell Fd1 (Or.inl (by simp)) _
  clear Sn1 Kn1 Hq1 Fd1
  generalize (W1.setCell ⟨qb, 1, none⟩ (.pointer (some ⟨N + 1, 0, none⟩))) = W2 at *
  go_wp2_with fail
  refine (chunk_store qb 0 _ ⟨N + 1, 0, none⟩ _ W2 (cell_of Hq2 rfl) (frozen_of Hq2 0) (cell_of Kn2 rfl)).mono ?_
  rintro e w' ⟨rfl, rfl⟩
  have Sn3 : Hid _ := blk_set_ne (c := qb) (i := 0) (.pointer (some ⟨N + 1, 0, none⟩)) Sn2 (by omega)
  have Kn3 : Hid _ := blk_set_ne (c := qb) (i := 0) (.pointer (some ⟨N + 1, 0, none⟩)) Kn2 (by omega)
  have Hq3 : Hid _ := blk_set Hq2 0 (.pointer (some ⟨N + 1, 0, none⟩))
  have Fd3 : Hid (Fr [qb] w (W2.setCell ⟨qb, 0, none⟩ (.pointer (some ⟨N + 1, 0, none⟩)))) := Fr.setCell Fd2 (Or.inl (by simp)) _
  clear Sn2 Kn2 Hq2 Fd2
  generalize (W2.setCell ⟨qb, 0, none⟩ (.pointer (some ⟨N + 1, 0, none⟩))) = W3 at *
  go_wp2_with fail
  refine (chunk_load qb 1 (N + 1) W3 (cell_of Hq3 rfl) (shape_of Kn3)).mono ?_
  rintro e w' ⟨rfl, rfl⟩
  go_wp2_with fail
  rw [rounds_succ]
  go_wp2_with fail
  refine (i64_add1 (N + 1) 0 0 W3 (by omega) (by omega) (cell_of Kn3 rfl) (frozen_of Kn3 0)).mono ?_
  rintro e w' ⟨rfl, rfl⟩
  have Sn4 : Hid _ := blk_set_ne (c := N + 1) (i := 0) (.int .i64 (0 + 1)) Sn3 (by omega)
  have Kn4 : Hid _ := blk_set Kn3 0 (.int .i64 (0 + 1))
  have Hq4 : Hid _ := blk_set_ne (c := N + 1) (i := 0) (.int .i64 (0 + 1)) Hq3 (by omega)
  have Fd4 : Hid (Fr [qb] w (W3.setCell ⟨N + 1, 0, none⟩ (.int .i64 (0 + 1)))) := Fr.setCell Fd3 (Or.inr (by rw [HN.out]; simp)) _
  clear Sn3 Kn3 Hq3 Fd3
  generalize (W3.setCell ⟨N + 1, 0, none⟩ (.int .i64 (0 + 1))) = W4 at *
  have hs0 : 0 < (slotCells 4).size := by rw [slotCells_size]; omega
  have hs1 : 1 < (slotCells 4).size := by rw [slotCells_size]; omega
  have d1 : W4.cell? ⟨N + 1, 1, none⟩ = some (.slice (some ⟨N, 0, none⟩) 4 4) := cell_of Kn4 rfl
  have d7 : W4.cell? ⟨N, 1, none⟩ = some (slotCells 4)[1] := cell_of Sn4 (by simp)
  have z7 := frozen_of Sn4 1
  have Sn5 : Hid _ := blk_set Sn4 1 (.int .i64 v)
  have Kn5 : Hid _ := blk_set_ne (c := N) (i := 1) (.int .i64 v) Kn4 (by omega)
  have Hq5 : Hid _ := blk_set_ne (c := N) (i := 1) (.int .i64 v) Hq4 (by omega)
  have Fd5 : Hid (Fr [qb] w (W4.setCell ⟨N, 1, none⟩ (.int .i64 v))) := Fr.setCell Fd4 (Or.inr (by rw [HN.out]; simp)) _
  have e0 : (W4.setCell ⟨N, 1, none⟩ (.int .i64 v)).cell? ⟨N, 0, none⟩ = some (slotCells 4)[0] := by
    rw [World.cell?_setCell_other _ _ _ _ (by simp)]; exact cell_of Sn4 (by simp)
  go_wp2_with fail
  clear d1 d7 z7 Sn4 Kn4 Hq4 Fd4
  generalize (W4.setCell ⟨N, 1, none⟩ (.int .i64 v)) = W5 at *
  refine (mark_any (N + 1) N 0 k _ W5 hk (cell_of Kn5 rfl) e0 (frozen_of Sn5 _)).mono ?_
  rintro e w' ⟨rfl, rfl⟩
  have Sn6 : Hid (((W5.setCell ⟨N, 0, none⟩ (.int .u32 k)).drew).heap[N]? = _) := blk_set Sn5 0 (.int .u32 k)
  have Kn6 : Hid (((W5.setCell ⟨N, 0, none⟩ (.int .u32 k)).drew).heap[N + 1]? = _) := blk_set_ne (c := N) (i := 0) (.int .u32 k) Kn5 (by omega)
  have Hq6 : Hid (((W5.setCell ⟨N, 0, none⟩ (.int .u32 k)).drew).heap[qb]? = _) := blk_set_ne (c := N) (i := 0) (.int .u32 k) Hq5 (by omega)
  have Fd6 : Hid (Fr [qb] w ((W5.setCell ⟨N, 0, none⟩ (.int .u32 k)).drew)) := Fr.drew (Fr.setCell Fd5 (Or.inr (by rw [HN.out]; simp)) _)
  clear e0 Sn5 Kn5 Hq5 Fd5
  generalize ((W5.setCell ⟨N, 0, none⟩ (.int .u32 k)).drew) = W6 at *
  have d1 : W6.cell? ⟨N + 1, 1, none⟩ = some (.slice (some ⟨N, 0, none⟩) 4 4) := cell_of Kn6 rfl
  go_wp2_with fail
  go_ret
  have hN := HN.out
  subst hN
  exact ⟨rfl, Hq6, Kn6, ⟨_, Sn6, by rw [Array.size_setIfInBounds, Array.size_setIfInBounds, slotCells_size]⟩, Fd6⟩

end Go.Proofs.Ybulkbxjy
