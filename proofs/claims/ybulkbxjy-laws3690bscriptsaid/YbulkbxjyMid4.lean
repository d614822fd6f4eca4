/-
  heldPast, takeSpare, Len.
-/
import Derived.Test.YbulkbxjyMid3
namespace Go.Proofs.Ybulkbxjy
open Go.RowKit

theorem quiet_load (b o : Nat) (x : Int) (w : World) (hc : w.cell? ⟨b, o, none⟩ = some (.int .i64 x)) :
    Calls Yba.prog 15 #[.pointer (some ⟨b, o, none⟩)] w fun e w' => e = .returned (.int .i64 x) ∧ w' = w :=
  (i64_load b o x w hc).mono fun _ _ h => ⟨h.1, h.2.symm⟩
theorem quiet_load32 (b o : Nat) (x : Int) (w : World) (hc : w.cell? ⟨b, o, none⟩ = some (.int .i32 x)) :
    Calls Yba.prog 20 #[.pointer (some ⟨b, o, none⟩)] w fun e w' => e = .returned (.int .i32 x) ∧ w' = w :=
  (i32_load b o x w hc).mono fun _ _ h => ⟨h.1, h.2.symm⟩

theorem heldPast_any (qb tb hb : Nat) (t c : Option Addr) (cl cl' : Int) (sb sb' L L' : Nat) (B : Int) (nx nx' : Option Addr) (w : World)
    (hq : w.heap[qb]? = some (.cells (qCells (some ⟨hb, 0, none⟩) t c) 39)) (ht : w.heap[tb]? = some (.cells (kCells cl sb L B nx) 75)) (hh : w.heap[hb]? = some (.cells (kCells cl' sb' L' 0 nx') 75))
    (hB0 : 0 ≤ B) (hB1 : B ≤ 1024) (hL : L ≤ 1024) :
    Calls Yba.prog 57 #[.pointer (some ⟨qb, 0, none⟩), .pointer (some ⟨tb, 0, none⟩)] w fun e w' => e = .returned (.int .i64 (B + L + 1)) ∧ ∃ n, w.drewN n = w' := by
  have c1 : w.cell? ⟨qb, 0, none⟩ = some (.pointer (some ⟨hb, 0, none⟩)) := cell_of hq rfl
  have c2 : w.cell? ⟨tb, 2, none⟩ = some (.int .i64 B) := cell_of ht rfl
  have c3 : w.cell? ⟨tb, 1, none⟩ = some (.slice (some ⟨sb, 0, none⟩) L L) := cell_of ht rfl
  have c4 : w.cell? ⟨hb, 2, none⟩ = some (.int .i64 0) := cell_of hh rfl
  have c5 : w.cell? ⟨hb, 5, none⟩ = some (.int .i32 0) := cell_of hh rfl
  have s1 : w.shape? hb = some (75, 7) := shape_of hh
  clear hq ht hh
  go_enter Yba.func57, Yba.ntmps57
  go_wp2_with fail
  go_quiet ((go_at_call 15; exact Calls.quiet_of_same (quiet_load _ _ _ _ (by simpa using c2))))
  obtain ⟨n1, rfl⟩ : ∃ n1, n1 = nq := ⟨_, rfl⟩
  generalize hw2 : w.drewN n1 = w2
  have d1 : w2.cell? ⟨qb, 0, none⟩ = some (.pointer (some ⟨hb, 0, none⟩)) := by rw [← hw2]; exact c1
  have d4 : w2.cell? ⟨hb, 2, none⟩ = some (.int .i64 0) := by rw [← hw2]; exact c4
  have d5 : w2.cell? ⟨hb, 5, none⟩ = some (.int .i32 0) := by rw [← hw2]; exact c5
  have t1 : w2.shape? hb = some (75, 7) := by rw [← hw2]; exact s1
  have H2 : Hid (w.drewN n1 = w2) := hw2
  clear hw2 c1 c2 c3 c4 c5 s1
  go_wp2_with fail
  refine (chunk_load qb 0 hb _ d1 t1).mono ?_
  rintro e w' ⟨rfl, rfl⟩
  go_wp2_with fail
  go_quiet ((first | (go_at_call 15; exact Calls.quiet_of_same (quiet_load _ _ _ _ (by simpa using d4))) | (go_at_call 20; exact Calls.quiet_of_same (quiet_load32 _ _ _ _ (by simpa using d5)))))
  go_wp2
  go_ret
  exact ⟨by simp, n1 + nq, by rw [← H2.out, World.drewN_drewN]⟩

theorem takeSpare_nil (qb : Nat) (h t c : Option Addr) (n : Int) (b : Bool) (w : World) (hq : w.heap[qb]? = some (.cells (qCells h t c) 39)) :
    Calls Yba.prog 59 #[.pointer (some ⟨qb, 0, none⟩), .int .i64 n, .bool b] w fun e w' => e = .returned (.pointer none) ∧ w = w' := by
  have hc : w.cell? ⟨qb, 2, none⟩ = some (.pointer none) := cell_of hq rfl
  go_enter Yba.func59, Yba.ntmps59
  go_wp2
  refine wp_loop_rounds 1 ?_
  rw [rounds_succ]
  go_wp2_with (go_at_call 19; refine (chunk_load_nil qb 2 _ hc).mono ?_; rintro e w' ⟨rfl, rfl⟩)
  go_ret
  exact ⟨rfl, rfl⟩

theorem len_nil (qb : Nat) (t c : Option Addr) (w : World) (hq : w.heap[qb]? = some (.cells (qCells none t c) 39)) :
    Calls Yba.prog 8 #[.pointer (some ⟨qb, 0, none⟩)] w fun e w' => e = .returned (.int .i64 0) ∧ w = w' := by
  have hc : w.cell? ⟨qb, 0, none⟩ = some (.pointer none) := cell_of hq rfl
  go_enter Yba.func8, Yba.ntmps8
  go_wp2
  refine wp_loop_rounds 1 ?_
  rw [rounds_succ]
  go_wp2_with (go_at_call 19; refine (chunk_load_nil qb 0 _ hc).mono ?_; rintro e w' ⟨rfl, rfl⟩)
  go_ret
  exact ⟨rfl, rfl⟩

theorem len_any (qb tb hb : Nat) (c : Option Addr) (cl cl' : Int) (sb sb' L L' : Nat) (B : Int) (nx nx' : Option Addr) (w : World)
    (hq : w.heap[qb]? = some (.cells (qCells (some ⟨hb, 0, none⟩) (some ⟨tb, 0, none⟩) c) 39)) (ht : w.heap[tb]? = some (.cells (kCells cl sb L B nx) 75)) (hh : w.heap[hb]? = some (.cells (kCells cl' sb' L' 0 nx') 75))
    (hB0 : 0 ≤ B) (hB1 : B ≤ 1024) (hc0 : 0 ≤ cl) (hc1 : cl ≤ 1024) :
    Calls Yba.prog 8 #[.pointer (some ⟨qb, 0, none⟩)] w fun e w' => e = .returned (.int .i64 (B + cl)) ∧ w = w' := by
  have c0 : w.cell? ⟨qb, 0, none⟩ = some (.pointer (some ⟨hb, 0, none⟩)) := cell_of hq rfl
  have c1 : w.cell? ⟨qb, 1, none⟩ = some (.pointer (some ⟨tb, 0, none⟩)) := cell_of hq rfl
  have c2 : w.cell? ⟨tb, 2, none⟩ = some (.int .i64 B) := cell_of ht rfl
  have c3 : w.cell? ⟨tb, 0, none⟩ = some (.int .i64 cl) := cell_of ht rfl
  have c4 : w.cell? ⟨hb, 2, none⟩ = some (.int .i64 0) := cell_of hh rfl
  have c5 : w.cell? ⟨hb, 5, none⟩ = some (.int .i32 0) := cell_of hh rfl
  have s1 : w.shape? hb = some (75, 7) := shape_of hh
  have s2 : w.shape? tb = some (75, 7) := shape_of ht
  clear hq ht hh
  go_enter Yba.func8, Yba.ntmps8
  go_wp2
  refine wp_loop_rounds 1 ?_
  rw [rounds_succ]
  go_wp2_with fail
  refine (chunk_load qb 0 hb _ c0 s1).mono ?_
  rintro e w' ⟨rfl, rfl⟩
  go_wp2_with fail
  refine (i64_load hb 2 0 _ c4).mono ?_
  rintro e w' ⟨rfl, rfl⟩
  go_wp2_with fail
  refine (i32_load hb 5 0 _ c5).mono ?_
  rintro e w' ⟨rfl, rfl⟩
  go_wp2_with fail
  refine (chunk_load qb 1 tb _ c1 s2).mono ?_
  rintro e w' ⟨rfl, rfl⟩
  go_wp2_with fail
  refine (i64_load tb 2 B _ c2).mono ?_
  rintro e w' ⟨rfl, rfl⟩
  go_wp2_with fail
  refine (i64_load tb 0 cl _ c3).mono ?_
  rintro e w' ⟨rfl, rfl⟩
  go_wp2_with fail
  refine (i64_load hb 2 0 _ c4).mono ?_
  rintro e w' ⟨rfl, rfl⟩
  go_wp2_with fail
  refine (i64_load tb 2 B _ c2).mono ?_
  rintro e w' ⟨rfl, rfl⟩
  go_wp2_with fail
  go_ret
  exact ⟨rfl, rfl⟩

end Go.Proofs.Ybulkbxjy
