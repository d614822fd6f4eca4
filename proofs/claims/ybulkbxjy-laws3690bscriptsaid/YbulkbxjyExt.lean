/-
  extend.
-/
import Derived.Test.YbulkbxjyPush
import Derived.Lib.Builder
namespace Go.Proofs.Ybulkbxjy
open Go.RowKit

theorem Yba.neq_same (a : Addr) (w : World) : (binOp .neq 23 (.pointer (some a)) (.pointer (some a))).run Yba.prog w = .ok (.bool false) w := by
  obtain ⟨i, hi⟩ := Option.isSome_iff_exists.1 Yba.isInfo75
  exact Lib.run_neq_ptr_same w a Yba.underlying23 hi

theorem newChunk_at (x : Int) (M : Nat) (hx : x = M) (base cl : Int) (w : World) (hL : M ≤ 1024) :
    Calls Yba.prog 27 #[.int .i64 x, .int .i64 base, .int .i64 cl] w fun e w' => e = .returned (.pointer (some ⟨w.heap.size + 1, 0, none⟩)) ∧
      w'.heap[w.heap.size]? = some (.cells (slotCells M) 89) ∧ w'.heap[w.heap.size + 1]? = some (.cells (kCells cl w.heap.size M base none) 75) ∧ Fr [] w w' := by
  subst hx
  exact newChunk_any M base cl w hL

set_option maxRecDepth 100000 in
set_option maxHeartbeats 1000000 in
theorem extend_any (qb tb hb sb sb' : Nat) (c : Option Addr) (cl cl' : Int) (L L' : Nat) (nx nx' : Option Addr) (v k : Int) (w : World) (hk : k = 1 ∨ k = 2)
    (hq : w.heap[qb]? = some (.cells (qCells (some ⟨hb, 0, none⟩) (some ⟨tb, 0, none⟩) c) 39)) (ht : w.heap[tb]? = some (.cells (kCells cl sb L ((L : Int) - 4) nx) 75))
    (hh : w.heap[hb]? = some (.cells (kCells cl' sb' L' 0 nx') 75)) (hL : P2 L) (h5 : L ≤ 512) :
    Calls Yba.prog 34 #[.pointer (some ⟨qb, 0, none⟩), .pointer (some ⟨tb, 0, none⟩), .int .i64 v, .int .u32 k] w fun e w' => e = .returned (.bool false) ∧
      w'.heap[qb]? = some (.cells (qCells (some ⟨hb, 0, none⟩) (some ⟨w.heap.size + 1, 0, none⟩) c) 39) ∧
      w'.heap[tb]? = some (.cells (kCells cl sb L ((L : Int) - 4) (some ⟨w.heap.size + 1, 0, none⟩)) 75) ∧
      w'.heap[w.heap.size + 1]? = some (.cells (kCells (1 : Nat) w.heap.size (2 * L) (((2 * L : Nat) : Int) - 4) none) 75) ∧
      (∃ cs', w'.heap[w.heap.size]? = some (.cells cs' 89) ∧ cs'.size = 2 * (2 * L)) ∧ Fr [qb, tb] w w' := by
  have hLb := p2_bd hL
  have HL : Hid (P2 L) := hL
  have c1 : w.cell? ⟨qb, 1, none⟩ = some (.pointer (some ⟨tb, 0, none⟩)) := cell_of hq rfl
  have s1 : w.shape? tb = some (75, 7) := shape_of ht
  have Hq : Hid _ := hq
  have Ht : Hid _ := ht
  have Hh : Hid _ := hh
  clear hL hq ht hh
  have hne := Yba.neq_same ⟨tb, 0, none⟩ w
  go_enter Yba.func34, Yba.ntmps34
  go_wp2_with fail
  refine wp_loop_rounds 1 ?_
  rw [rounds_succ]
  go_wp2_with fail
  refine (chunk_load qb 1 tb _ c1 s1).mono ?_
  rintro e w' ⟨rfl, rfl⟩
  go_wp2_with fail
  clear c1 s1 hne
  refine (heldPast_any qb tb hb _ c cl cl' sb sb' L L' ((L : Int) - 4) nx nx' _ Hq Ht Hh (by omega) (by omega) (by omega)).mono ?_
  rintro e w' ⟨rfl, n1, rfl⟩
  have Fd : Hid (Fr [qb, tb] w (w.drewN n1)) := (Fr.refl _ w).drewN n1
  have Hq1 : Hid ((w.drewN n1).heap[qb]? = _) := Hq
  have Ht1 : Hid ((w.drewN n1).heap[tb]? = _) := Ht
  have Hz : Hid ((w.drewN n1).heap.size = w.heap.size) := rfl
  clear Hq Ht Hh
  generalize w.drewN n1 = W1 at *
  rw [show ((L : Int) - 4 + L + 1) = 2 * (L : Int) - 3 by omega]
  go_wp2_with fail
  refine (chunkSize_any L _ HL.out h5).mono ?_
  rintro e w' ⟨rfl, rfl⟩
  have d2 : W1.cell? ⟨tb, 2, none⟩ = some (.int .i64 ((L : Int) - 4)) := cell_of Ht1 rfl
  have d3 : W1.cell? ⟨tb, 1, none⟩ = some (.slice (some ⟨sb, 0, none⟩) L L) := cell_of Ht1 rfl
  go_wp2_with fail
  go_quiet ((go_at_call 15; exact Calls.quiet_of_same (quiet_load _ _ _ _ (by simpa using d2))))
  clear d2 d3
  have Fd2 : Hid (Fr [qb, tb] w (W1.drewN nq)) := Fr.drewN Fd nq
  have Hq2 : Hid ((W1.drewN nq).heap[qb]? = _) := Hq1
  have Ht2 : Hid ((W1.drewN nq).heap[tb]? = _) := Ht1
  have Hz2 : Hid ((W1.drewN nq).heap.size = w.heap.size) := Hz
  clear Fd Hq1 Ht1 Hz
  generalize W1.drewN nq = W2 at *
  go_wp2_with fail
  refine (i64_load tb 2 ((L : Int) - 4) W2 (cell_of Ht2 rfl)).mono ?_
  rintro e w' ⟨rfl, rfl⟩
  go_wp2_with fail
  refine (takeSpare_nil qb _ _ c _ _ W2 Hq2).mono ?_
  rintro e w' ⟨rfl, rfl⟩
  go_wp2_with fail
  refine (newChunk_at (2 * (L : Int)) (2 * L) (by omega) _ _ W2 (by omega)).mono ?_
  rintro e W3 ⟨rfl, a1, a2, a3⟩
  rw [Hz2.out] at a1 a2
  rw [Hz2.out]
  have Sn : Hid _ := a1
  have Kn : Hid _ := a2
  have Fd3 : Hid (Fr [qb, tb] w W3) := Fr.trans Fd2 (a3.mono (by simp))
  have Hq3 : Hid _ := a3.keep Hq2 (by simp)
  have Ht3 : Hid _ := a3.keep Ht2 (by simp)
  have lq : qb < w.heap.size := by have := blk_lt Hq2; rw [Hz2.out] at this; exact this
  have lt : tb < w.heap.size := by have := blk_lt Ht2; rw [Hz2.out] at this; exact this
  have nqt : qb ≠ tb := blk_ne Hq2 Ht2 (by decide)
  clear a1 a2 a3 Fd2 Hq2 Ht2 Hz2
  generalize hN : w.heap.size = N at *
  have HN : Hid (w.heap.size = N) := hN
  clear hN
  have d1 : W3.cell? ⟨N + 1, 1, none⟩ = some (.slice (some ⟨N, 0, none⟩) (2 * L) (2 * L)) := cell_of Kn rfl
  have hsz : (slotCells (2 * L)).size = 4 * L := by rw [slotCells_size]; omega
  have hs0 : 0 < (slotCells (2 * L)).size := by omega
  have hs1 : 1 < (slotCells (2 * L)).size := by omega
  have d7 : W3.cell? ⟨N, 1, none⟩ = some (slotCells (2 * L))[1] := cell_of Sn (by simp)
  have z7 := frozen_of Sn 1
  have Sn4 : Hid _ := blk_set Sn 1 (.int .i64 v)
  have Kn4 : Hid _ := blk_set_ne (c := N) (i := 1) (.int .i64 v) Kn (by omega)
  have Hq4 : Hid _ := blk_set_ne (c := N) (i := 1) (.int .i64 v) Hq3 (by omega)
  have Ht4 : Hid _ := blk_set_ne (c := N) (i := 1) (.int .i64 v) Ht3 (by omega)
  have Fd4 : Hid (Fr [qb, tb] w (W3.setCell ⟨N, 1, none⟩ (.int .i64 v))) := Fr.setCell Fd3 (Or.inr (by rw [HN.out]; simp)) _
  have Hsz : Hid ((slotCells (2 * L)).size = 4 * L) := hsz
  have d9 : (W3.setCell ⟨N, 1, none⟩ (.int .i64 v)).cell? ⟨N + 1, 1, none⟩ = some (.slice (some ⟨N, 0, none⟩) (2 * L) (2 * L)) := cell_of Kn4 rfl
  clear hsz
  go_wp2_with fail
  have e0 : (W3.setCell ⟨N, 1, none⟩ (.int .i64 v)).cell? ⟨N, 0, none⟩ = some (slotCells (2 * L))[0] := by
    rw [World.cell?_setCell_other _ _ _ _ (by simp)]; exact cell_of Sn (by simp)
  clear d1 d7 z7 d9 Sn Kn Hq3 Ht3 Fd3
  generalize (W3.setCell ⟨N, 1, none⟩ (.int .i64 v)) = W4 at *
  refine (mark_any (N + 1) N 0 k _ W4 hk (cell_of Kn4 rfl) e0 (frozen_of Sn4 _)).mono ?_
  rintro e w' ⟨rfl, rfl⟩
  have Sn5 : Hid (((W4.setCell ⟨N, 0, none⟩ (.int .u32 k)).drew).heap[N]? = _) := blk_set Sn4 0 (.int .u32 k)
  have Kn5 : Hid (((W4.setCell ⟨N, 0, none⟩ (.int .u32 k)).drew).heap[N + 1]? = _) := blk_set_ne (c := N) (i := 0) (.int .u32 k) Kn4 (by omega)
  have Hq5 : Hid (((W4.setCell ⟨N, 0, none⟩ (.int .u32 k)).drew).heap[qb]? = _) := blk_set_ne (c := N) (i := 0) (.int .u32 k) Hq4 (by omega)
  have Ht5 : Hid (((W4.setCell ⟨N, 0, none⟩ (.int .u32 k)).drew).heap[tb]? = _) := blk_set_ne (c := N) (i := 0) (.int .u32 k) Ht4 (by omega)
  have Fd5 : Hid (Fr [qb, tb] w ((W4.setCell ⟨N, 0, none⟩ (.int .u32 k)).drew)) := Fr.drew (Fr.setCell Fd4 (Or.inr (by rw [HN.out]; simp)) _)
  clear e0 Sn4 Kn4 Hq4 Ht4 Fd4
  generalize ((W4.setCell ⟨N, 0, none⟩ (.int .u32 k)).drew) = W5 at *
  go_wp2_with fail
  refine (chunk_store qb 1 _ ⟨N + 1, 0, none⟩ _ W5 (cell_of Hq5 rfl) (frozen_of Hq5 1) (cell_of Kn5 rfl)).mono ?_
  rintro e w' ⟨rfl, rfl⟩
  have Sn6 : Hid _ := blk_set_ne (c := qb) (i := 1) (.pointer (some ⟨N + 1, 0, none⟩)) Sn5 (by omega)
  have Kn6 : Hid _ := blk_set_ne (c := qb) (i := 1) (.pointer (some ⟨N + 1, 0, none⟩)) Kn5 (by omega)
  have Hq6 : Hid _ := blk_set Hq5 1 (.pointer (some ⟨N + 1, 0, none⟩))
  have Ht6 : Hid _ := blk_set_ne (c := qb) (i := 1) (.pointer (some ⟨N + 1, 0, none⟩)) Ht5 (by omega)
  have Fd6 : Hid (Fr [qb, tb] w (W5.setCell ⟨qb, 1, none⟩ (.pointer (some ⟨N + 1, 0, none⟩)))) := Fr.setCell Fd5 (Or.inl (by simp)) _
  clear Sn5 Kn5 Hq5 Ht5 Fd5
  generalize (W5.setCell ⟨qb, 1, none⟩ (.pointer (some ⟨N + 1, 0, none⟩))) = W6 at *
  go_wp2_with fail
  refine (chunk_store tb 3 _ ⟨N + 1, 0, none⟩ _ W6 (cell_of Ht6 rfl) (frozen_of Ht6 3) (cell_of Kn6 rfl)).mono ?_
  rintro e w' ⟨rfl, rfl⟩
  have Sn7 : Hid _ := blk_set_ne (c := tb) (i := 3) (.pointer (some ⟨N + 1, 0, none⟩)) Sn6 (by omega)
  have Kn7 : Hid _ := blk_set_ne (c := tb) (i := 3) (.pointer (some ⟨N + 1, 0, none⟩)) Kn6 (by omega)
  have Hq7 : Hid _ := blk_set_ne (c := tb) (i := 3) (.pointer (some ⟨N + 1, 0, none⟩)) Hq6 (by omega)
  have Ht7 : Hid _ := blk_set Ht6 3 (.pointer (some ⟨N + 1, 0, none⟩))
  have Fd7 : Hid (Fr [qb, tb] w (W6.setCell ⟨tb, 3, none⟩ (.pointer (some ⟨N + 1, 0, none⟩)))) := Fr.setCell Fd6 (Or.inl (by simp)) _
  clear Sn6 Kn6 Hq6 Ht6 Fd6
  generalize (W6.setCell ⟨tb, 3, none⟩ (.pointer (some ⟨N + 1, 0, none⟩))) = W7 at *
  have hfin : (L : Int) - 4 + L = ((2 * L : Nat) : Int) - 4 := by omega
  rw [hfin] at Kn7
  have Hfin : Hid _ := hfin
  clear hfin
  have hdec : decide (2048 < 2 * (L : Int) - 3) = false := by simp; omega
  go_wp2_with fail
  go_ret
  have hN := HN.out
  subst hN
  exact ⟨rfl, Hq7, Ht7, Kn7, ⟨_, Sn7, by have := Hsz.out; rw [Array.size_setIfInBounds, Array.size_setIfInBounds]; omega⟩, Fd7⟩

end Go.Proofs.Ybulkbxjy
