/-
  Push, PushCounted.
-/
import Derived.Test.YbulkbxjyState
namespace Go.Proofs.Ybulkbxjy
open Go.RowKit

theorem Push_any (B0 qb n tot : Nat) (v : Int) (w : World) (h : QS w B0 qb n tot) (ht : tot < 1024) (hB : B0 ≤ w.heap.size) :
    Calls Yba.prog 6 #[.pointer (some ⟨qb, 0, none⟩), .int .i64 v] w fun e w' => e = .returned (.bool false) ∧ QS w' B0 qb n (tot + 1) ∧ Below B0 w w' := by
  have HB : Hid _ := hB
  clear hB
  go_enter Yba.func6, Yba.ntmps6
  go_wp2_with fail
  refine (evicting_qs B0 qb n tot w h).mono ?_
  rintro e w' ⟨rfl, rfl⟩
  go_wp2_with fail
  refine (push_any B0 qb n tot v 1 w (Or.inl rfl) h ht HB).mono ?_
  rintro e w' ⟨rfl, r1, r2⟩
  go_wp2_with fail
  go_ret
  exact ⟨rfl, r1, r2⟩

/-- As QS, the caps made. -/
def QC (w : World) (B0 qb cb n tot : Nat) : Prop :=
  ∃ h t, w.heap[qb]? = some (.cells (qCells h t (some ⟨cb, 0, none⟩)) 39) ∧ B0 ≤ qb ∧ B0 ≤ cb ∧ w.heap[cb]? = some (.cells (capCells n) 64) ∧ TailS w B0 h t tot

theorem QC.qs {w : World} {B0 qb cb n tot : Nat} (h : QC w B0 qb cb n tot) : QS w B0 qb n tot := by
  obtain ⟨h, t, q1, q2, q3, q4, q5⟩ := h
  exact ⟨h, t, _, q1, q2, Or.inr ⟨cb, rfl, q3, q4⟩, q5⟩

theorem caps_qs (B0 qb n tot : Nat) (w : World) (h : QS w B0 qb n tot) (hB : B0 ≤ w.heap.size) :
    Calls Yba.prog 14 #[.pointer (some ⟨qb, 0, none⟩)] w fun e w' => ∃ cb, e = .returned (.pointer (some ⟨cb, 0, none⟩)) ∧ QC w' B0 qb cb n tot ∧ Below B0 w w' := by
  obtain ⟨h, t, c, q1, q2, q3, q4⟩ := h
  rcases q3 with ⟨rfl, rfl⟩ | ⟨cb, rfl, k1, k2⟩
  · refine (caps_nil qb h t w q1).mono ?_
    rintro e w' ⟨rfl, a1, a2, a3⟩
    refine ⟨_, rfl, ⟨h, t, a1, q2, hB, a2, q4.keep a3 ?_⟩, a3.below hB (by simpa using q2)⟩
    rintro b cs (hb | hb)
    · simpa using (blk_ne hb q1 (by decide))
    · simpa using (blk_ne hb q1 (by decide))
  · refine (caps_cap qb cb h t n w q1 k2).mono ?_
    rintro e w' ⟨rfl, rfl⟩
    exact ⟨cb, rfl, ⟨h, t, q1, q2, k1, k2, q4⟩, Below.refl _ _⟩

theorem QC.load {w : World} {B0 qb cb n tot : Nat} (h : QC w B0 qb cb n tot) : w.cell? ⟨cb, 0, none⟩ = some (.int .i64 n) ∧ w.frozen? ⟨cb, 0, none⟩ = false := by
  obtain ⟨h, t, q1, q2, q3, q4, q5⟩ := h
  exact ⟨cell_of q4 rfl, frozen_of q4 0⟩

theorem QC.inc {w : World} {B0 qb cb n tot : Nat} (h : QC w B0 qb cb n tot) : QC (w.setCell ⟨cb, 0, none⟩ (.int .i64 ((n : Int) + 1))) B0 qb cb (n + 1) tot ∧ Below B0 w (w.setCell ⟨cb, 0, none⟩ (.int .i64 ((n : Int) + 1))) := by
  obtain ⟨h, t, q1, q2, q3, q4, q5⟩ := h
  have hf : Fr [cb] w (w.setCell ⟨cb, 0, none⟩ (.int .i64 ((n : Int) + 1))) := (Fr.refl _ w).setCell (Or.inl (by simp)) _
  refine ⟨⟨h, t, hf.keep q1 (by simpa using (blk_ne q1 q4 (by decide))), q2, q3, blk_set q4 0 _, q5.keep hf ?_⟩, (Below.refl _ w).setCell q3 _⟩
  rintro b cs (hb | hb)
  · simpa using (blk_ne hb q4 (by decide))
  · simpa using (blk_ne hb q4 (by decide))

theorem PushCounted_no (B0 qb n tot : Nat) (v m : Int) (w : World) (h : QS w B0 qb n tot) (hB : B0 ≤ w.heap.size) (hm : m ≤ n) :
    Calls Yba.prog 5 #[.pointer (some ⟨qb, 0, none⟩), .int .i64 v, .int .i64 m] w fun e w' => e = .returned (.bool false) ∧ QS w' B0 qb n tot ∧ Below B0 w w' := by
  have HB : Hid _ := hB
  clear hB
  go_enter Yba.func5, Yba.ntmps5
  go_wp2_with fail
  refine (evicting_qs B0 qb n tot w h).mono ?_
  rintro e w' ⟨rfl, rfl⟩
  go_wp2_with fail
  refine (caps_qs B0 qb n tot w h HB).mono ?_
  rintro e W ⟨cb, rfl, r1, r2⟩
  obtain ⟨c1, c2⟩ := r1.load
  go_wp2_with fail
  refine wp_loop_rounds 1 ?_
  rw [rounds_succ]
  go_wp2_with fail
  refine (i64_load cb 0 n W c1).mono ?_
  rintro e w' ⟨rfl, rfl⟩
  go_wp2_with fail
  go_ret
  exact ⟨rfl, r1.qs, r2⟩

theorem PushCounted_yes (B0 qb n tot : Nat) (v m : Int) (w : World) (h : QS w B0 qb n tot) (hB : B0 ≤ w.heap.size) (ht : tot < 1024) (hn : n ≤ 1024) (hm : (n : Int) < m) :
    Calls Yba.prog 5 #[.pointer (some ⟨qb, 0, none⟩), .int .i64 v, .int .i64 m] w fun e w' => e = .returned (.bool true) ∧ QS w' B0 qb (n + 1) (tot + 1) ∧ Below B0 w w' := by
  have HB : Hid _ := hB
  clear hB
  go_enter Yba.func5, Yba.ntmps5
  go_wp2_with fail
  refine (evicting_qs B0 qb n tot w h).mono ?_
  rintro e w' ⟨rfl, rfl⟩
  go_wp2_with fail
  refine (caps_qs B0 qb n tot w h HB).mono ?_
  rintro e W ⟨cb, rfl, r1, r2⟩
  obtain ⟨c1, c2⟩ := r1.load
  obtain ⟨i1, i2⟩ := r1.inc
  go_wp2_with fail
  refine wp_loop_rounds 1 ?_
  rw [rounds_succ]
  go_wp2_with fail
  refine (i64_load cb 0 n W c1).mono ?_
  rintro e w' ⟨rfl, rfl⟩
  go_wp2_with fail
  refine (i64_cas cb 0 n ((n : Int) + 1) W c1 c2).mono ?_
  rintro e w' ⟨rfl, rfl⟩
  have i3 := r2.trans i2
  have i4 : B0 ≤ (W.setCell ⟨cb, 0, none⟩ (.int .i64 ((n : Int) + 1))).heap.size := Nat.le_trans HB.out i3.size
  have H4 : Hid _ := i4
  clear i4
  generalize (W.setCell ⟨cb, 0, none⟩ (.int .i64 ((n : Int) + 1))) = W2 at *
  go_wp2_with fail
  refine (push_any B0 qb (n + 1) tot v 2 W2 (Or.inr rfl) i1.qs ht H4).mono ?_
  rintro e w' ⟨rfl, r1, r2⟩
  go_wp2_with fail
  go_ret
  exact ⟨rfl, r1, i3.trans r2⟩

end Go.Proofs.Ybulkbxjy
