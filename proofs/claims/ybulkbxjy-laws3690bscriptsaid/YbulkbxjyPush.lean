/-
  push, extend.
-/
import Derived.Test.YbulkbxjyMid4
namespace Go.Proofs.Ybulkbxjy
open Go.RowKit

theorem i64_add1 (b o : Nat) (x : Int) (w : World) (h0 : 0 ≤ x) (h1 : x ≤ 2048) (hc : w.cell? ⟨b, o, none⟩ = some (.int .i64 x)) (hz : w.frozen? ⟨b, o, none⟩ = false) :
    Calls Yba.prog 30 #[.pointer (some ⟨b, o, none⟩), .int .i64 1] w fun e w' => e = .returned (.int .i64 (x + 1)) ∧ w' = w.setCell ⟨b, o, none⟩ (.int .i64 (x + 1)) := by
  have h := i64_add b o x 1 w hc hz
  have e : wrap64 (x + 1) = x + 1 := by unfold wrap64; omega
  rw [e] at h
  exact h

theorem push_room (qb tb sb : Nat) (h c : Option Addr) (cl L : Nat) (B : Int) (nx : Option Addr) (cs : Array Value) (v k : Int) (w : World) (hk : k = 1 ∨ k = 2)
    (hq : w.heap[qb]? = some (.cells (qCells h (some ⟨tb, 0, none⟩) c) 39)) (ht : w.heap[tb]? = some (.cells (kCells cl sb L B nx) 75)) (hs : w.heap[sb]? = some (.cells cs 89)) (hcs : cs.size = 2 * L)
    (hcl : cl < L) (hL : L ≤ 1024) :
    Calls Yba.prog 17 #[.pointer (some ⟨qb, 0, none⟩), .int .i64 v, .int .u32 k] w fun e w' => e = .returned (.bool false) ∧
      w'.heap[tb]? = some (.cells (kCells (cl + 1 : Nat) sb L B nx) 75) ∧ (∃ cs', w'.heap[sb]? = some (.cells cs' 89) ∧ cs'.size = 2 * L) ∧ Fr [tb, sb] w w' := by
  have c1 : w.cell? ⟨qb, 1, none⟩ = some (.pointer (some ⟨tb, 0, none⟩)) := cell_of hq rfl
  have c0 : w.cell? ⟨tb, 0, none⟩ = some (.int .i64 cl) := cell_of ht rfl
  have s1 : w.shape? tb = some (75, 7) := shape_of ht
  have ne1 : tb ≠ sb := blk_ne ht hs (by decide)
  have ne2 : qb ≠ tb := blk_ne hq ht (by decide)
  have ne3 : qb ≠ sb := blk_ne hq hs (by decide)
  have T1 : Hid _ := blk_set ht 0 (.int .i64 (cl + 1))
  have S1 : Hid _ := blk_set_ne (c := tb) (i := 0) (.int .i64 ((cl : Int) + 1)) hs (by omega)
  have Q1 : Hid _ := blk_set_ne (c := tb) (i := 0) (.int .i64 ((cl : Int) + 1)) hq ne2
  have F1 : Hid _ := Fr.setCell (Fr.refl [tb, sb] w) (p := ⟨tb, 0, none⟩) (Or.inl (by simp)) (.int .i64 ((cl : Int) + 1))
  have z0 := frozen_of ht 0
  clear hq ht hs
  go_enter Yba.func17, Yba.ntmps17
  go_wp2_with fail
  refine (chunk_load qb 1 tb _ c1 s1).mono ?_
  rintro e w' ⟨rfl, rfl⟩
  go_wp2_with fail
  refine wp_loop_rounds 1 ?_
  rw [rounds_succ]
  go_wp2_with fail
  refine (i64_add1 tb 0 cl _ (by omega) (by omega) c0 z0).mono ?_
  rintro e w' ⟨rfl, rfl⟩
  clear c0 c1 s1 z0
  generalize (w.setCell ⟨tb, 0, none⟩ (.int .i64 ((cl : Int) + 1))) = W at *
  have d1 : W.cell? ⟨tb, 1, none⟩ = some (.slice (some ⟨sb, 0, none⟩) L L) := cell_of T1 rfl
  have d6 : W.cell? ⟨tb, 6, none⟩ = some (.int .u32 0) := cell_of T1 rfl
  have hi : 2 * cl + 1 < cs.size := by omega
  have hi0 : 2 * cl < cs.size := by omega
  have d7 : W.cell? ⟨sb, cl * 2 + 1, none⟩ = some (cs[2 * cl + 1]) := cell_of S1 (by rw [show cl * 2 + 1 = 2 * cl + 1 by omega]; simp)
  have d8 : W.cell? ⟨sb, cl * 2, none⟩ = some (cs[2 * cl]) := cell_of S1 (by rw [show cl * 2 = 2 * cl by omega]; simp)
  have z7 := frozen_of S1 (cl * 2 + 1)
  have z8 := frozen_of S1 (cl * 2)
  go_wp2_with fail
  have T2 : Hid _ := blk_set_ne (c := sb) (i := cl * 2 + 1) (.int .i64 v) T1 ne1
  have S2 : Hid _ := blk_set S1 (cl * 2 + 1) (.int .i64 v)
  have Q2 : Hid _ := blk_set_ne (c := sb) (i := cl * 2 + 1) (.int .i64 v) Q1 ne3
  have F2 : Hid _ := Fr.setCell F1 (p := ⟨sb, cl * 2 + 1, none⟩) (Or.inl (by simp)) (.int .i64 v)
  have e8 : (W.setCell ⟨sb, cl * 2 + 1, none⟩ (.int .i64 v)).cell? ⟨sb, cl * 2, none⟩ = some (cs[2 * cl]) := by
    rw [World.cell?_setCell_other _ _ _ _ (by simp)]; exact d8
  clear d1 d6 d7 d8 z7 z8
  generalize (W.setCell ⟨sb, cl * 2 + 1, none⟩ (.int .i64 v)) = W2 at *
  refine (mark_any tb sb (cl * 2) k _ W2 hk (cell_of T2 rfl) e8 (frozen_of S2 _)).mono ?_
  rintro e w' ⟨rfl, rfl⟩
  have T3 : Hid (((W2.setCell ⟨sb, cl * 2, none⟩ (.int .u32 k)).drew).heap[tb]? = _) := blk_set_ne (c := sb) (i := cl * 2) (.int .u32 k) T2 ne1
  have S3 : Hid (((W2.setCell ⟨sb, cl * 2, none⟩ (.int .u32 k)).drew).heap[sb]? = _) := blk_set S2 (cl * 2) (.int .u32 k)
  have Q3 : Hid (((W2.setCell ⟨sb, cl * 2, none⟩ (.int .u32 k)).drew).heap[qb]? = _) := blk_set_ne (c := sb) (i := cl * 2) (.int .u32 k) Q2 ne3
  have F3 : Hid _ := Fr.drew (Fr.setCell F2 (p := ⟨sb, cl * 2, none⟩) (Or.inl (by simp)) (.int .u32 k))
  clear e8
  generalize ((W2.setCell ⟨sb, cl * 2, none⟩ (.int .u32 k)).drew) = W3 at *
  have d1 : W3.cell? ⟨tb, 1, none⟩ = some (.slice (some ⟨sb, 0, none⟩) L L) := cell_of T3 rfl
  have d3 : W3.cell? ⟨qb, 3, none⟩ = some (.pointer none) := cell_of Q3 rfl
  by_cases hlast : (cl : Int) = (L : Int) - 1
  · go_wp2_with (go_at_call 32; refine (weak_load_nil qb 3 _ d3).mono ?_; rintro e w' ⟨rfl, rfl⟩)
    go_ret
    exact ⟨rfl, T3, ⟨_, S3, by simp; omega⟩, F3⟩
  · go_wp2_with fail
    go_ret
    exact ⟨rfl, T3, ⟨_, S3, by simp; omega⟩, F3⟩

end Go.Proofs.Ybulkbxjy
