/-
  caps (made), Counted, newChunk, heldPast, chunkSize, takeSpare.
-/
import Derived.Test.YbulkbxjyMid
namespace Go.Proofs.Ybulkbxjy
open Go.RowKit

/-- Outside the blocks of S, and below the old size, the world w' is as w was. -/
structure Fr (S : List Nat) (w w' : World) : Prop where
  os : w'.os = w.os
  tape : w'.tape = w.tape
  output : w'.output = w.output
  size : w.heap.size ≤ w'.heap.size
  block : ∀ k, k < w.heap.size → k ∉ S → w'.heap[k]? = w.heap[k]?

theorem Fr.refl (S : List Nat) (w : World) : Fr S w w := ⟨rfl, rfl, rfl, Nat.le_refl _, fun _ _ _ => rfl⟩
theorem Fr.trans {S : List Nat} {a b c : World} (h : Fr S a b) (k : Fr S b c) : Fr S a c :=
  ⟨k.os.trans h.os, k.tape.trans h.tape, k.output.trans h.output, Nat.le_trans h.size k.size, fun i hi hn => (k.block i (Nat.lt_of_lt_of_le hi h.size) hn).trans (h.block i hi hn)⟩
theorem Fr.drew {S : List Nat} {a w : World} (h : Fr S a w) : Fr S a w.drew := ⟨h.os, h.tape, h.output, h.size, h.block⟩
theorem Fr.drewN {S : List Nat} {a w : World} (h : Fr S a w) (n : Nat) : Fr S a (w.drewN n) := ⟨h.os, h.tape, h.output, h.size, h.block⟩
theorem Fr.alloc {S : List Nat} {a w : World} (h : Fr S a w) (o : Obj) : Fr S a (w.alloc o) :=
  h.trans ⟨rfl, rfl, rfl, by simp, fun k hk _ => Below.heap_alloc _ _ _ hk⟩
theorem Fr.setCell {S : List Nat} {a w : World} (h : Fr S a w) {p : Addr} (hp : p.block ∈ S ∨ a.heap.size ≤ p.block) (u : Value) : Fr S a (w.setCell p u) :=
  ⟨h.os, h.tape, h.output, by simpa using h.size, fun k hk hn => by
    rw [Below.heap_setCell _ _ _ _ (by rintro rfl; rcases hp with hp | hp; exact hn hp; omega)]; exact h.block k hk hn⟩
theorem Fr.mono {S T : List Nat} {a w : World} (h : Fr S a w) (hs : ∀ k ∈ S, k ∈ T) : Fr T a w :=
  ⟨h.os, h.tape, h.output, h.size, fun k hk hn => h.block k hk fun hm => hn (hs k hm)⟩
theorem Fr.keep {S : List Nat} {a w : World} (h : Fr S a w) {k : Nat} {o : Obj} (hk : a.heap[k]? = some o) (hn : k ∉ S) : w.heap[k]? = some o := by
  rw [h.block k (blk_lt hk) hn]; exact hk
theorem Fr.below {S : List Nat} {a w : World} {B : Nat} (h : Fr S a w) (hB : B ≤ a.heap.size) (hs : ∀ k ∈ S, B ≤ k) : Below B a w :=
  ⟨h.os, h.tape, h.output, h.size, fun k hk => h.block k (by omega) fun hm => by have := hs k hm; omega⟩

theorem caps_nil (qb : Nat) (h t : Option Addr) (w : World) (hq : w.heap[qb]? = some (.cells (qCells h t none) 39)) :
    Calls Yba.prog 14 #[.pointer (some ⟨qb, 0, none⟩)] w fun e w' => e = .returned (.pointer (some ⟨w.heap.size, 0, none⟩)) ∧
      w'.heap[qb]? = some (.cells (qCells h t (some ⟨w.heap.size, 0, none⟩)) 39) ∧ w'.heap[w.heap.size]? = some (.cells (capCells 0) 64) ∧ Fr [qb] w w' := by
  have hc : w.cell? ⟨qb, 4, none⟩ = some (.pointer none) := cell_of hq rfl
  have hz : w.frozen? ⟨qb, 4, none⟩ = false := frozen_of hq 4
  have hlt := blk_lt hq
  have hw1 := blk_alloc (.cells (capCells 0) 64) hq
  have hw2 := blk_new w (.cells (capCells 0) 64)
  have hw1' := blk_set hw1 4 (.pointer (some ⟨w.heap.size, 0, none⟩))
  have hw2' := blk_set_ne (c := qb) (i := 4) (.pointer (some ⟨w.heap.size, 0, none⟩)) hw2 (by omega)
  have H1 : Hid _ := hw1'
  have H2 : Hid _ := hw2'
  have H3 : Hid (Fr [qb] w ((w.alloc (.cells (capCells 0) 64)).setCell ⟨qb, 4, none⟩ (.pointer (some ⟨w.heap.size, 0, none⟩)))) := ((Fr.refl _ w).alloc _).setCell (Or.inl (by simp)) _
  clear hw1' hw2'
  go_enter Yba.func14, Yba.ntmps14
  go_wp2_with fail
  refine (cap_load_nil qb 4 _ hc).mono ?_
  rintro e w' ⟨rfl, rfl⟩
  go_wp2_with fail
  refine (cap_cas_nil qb 4 ⟨w.heap.size, 0, none⟩ (.int .i64 0) (w.alloc (.cells (capCells 0) 64)) (cell_of hw1 rfl) (frozen_of hw1 4) (cell_of hw2 rfl)).mono ?_
  rintro e w' ⟨rfl, rfl⟩
  generalize ((w.alloc (.cells (capCells 0) 64)).setCell ⟨qb, 4, none⟩ (.pointer (some ⟨w.heap.size, 0, none⟩))) = W at *
  go_wp2_with fail
  refine (cap_load qb 4 w.heap.size _ (cell_of H1 rfl) (shape_of H2)).mono ?_
  rintro e w' ⟨rfl, rfl⟩
  go_wp2_with fail
  go_ret
  exact ⟨rfl, H1, H2, H3⟩

end Go.Proofs.Ybulkbxjy
