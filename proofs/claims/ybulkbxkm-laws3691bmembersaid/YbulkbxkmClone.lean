/-
  zzs3691bclone, zzs3691bcopy.
-/
import Derived.Test.YbulkbxkmRowsOf
import Derived.Lib.SliceRun
namespace Go.Proofs.Ybulkbxkm
open Go.RowKit

theorem Yba.info68 : (Yba.prog.info? 68).map (fun i => (i.zero, i.size, i.bytes)) = some (some (.int .u64 0), 1, 8) := by kernel_rfl
theorem Yba.info63 : (Yba.prog.info? 63).map (fun i => (i.zero, i.size, i.bytes)) = some (some (.slice none 0 0), 1, 24) := by kernel_rfl

theorem run_make_u64 (t : TypeId) (ht : Yba.prog.underlying t = some (.slice 68)) (x : Int) (n : Nat) (hx : x = n) (hn : n ≤ 1000000) (w : World) :
    (Instr.makeSlice t (.int .i64 x) (.int .i64 x)).run Yba.prog w = .ok (.slice (some ⟨w.heap.size, 0, none⟩) n n) (w.alloc (.cells (madeCells #[.int .u64 0] n) 68)) := by
  subst hx
  obtain ⟨i, hi, hz0, hz1, hz2⟩ := info_parts Yba.info68
  have h := run_make (P := Yba.prog) w t 68 i _ ht hi hz0 .i64 .i64 n n (by omega) (by omega) (by rw [hz2]; omega) (by omega)
  rw [hz1] at h
  simpa [Value.cells] using h
theorem run_make_oids (x : Int) (n : Nat) (hx : x = n) (hn : n ≤ 1000000) (w : World) :
    (Instr.makeSlice 38 (.int .i64 x) (.int .i64 x)).run Yba.prog w = .ok (.slice (some ⟨w.heap.size, 0, none⟩) n n) (w.alloc (.cells (madeCells #[.slice none 0 0] n) 63)) := by
  subst hx
  obtain ⟨i, hi, hz0, hz1, hz2⟩ := info_parts Yba.info63
  have h := run_make (P := Yba.prog) w 38 63 i _ Yba.underlying38 hi hz0 .i64 .i64 n n (by omega) (by omega) (by rw [hz2]; omega) (by omega)
  rw [hz1] at h
  simpa [Value.cells] using h

/-- Block M is a row of n cells of type t; its first k cells are the numbers ys begins with. -/
def Filled (w : World) (M n : Nat) (ys : List Int) (k : Nat) : Prop :=
  ∃ cur : Array Value, w.heap[M]? = some (.cells cur 68) ∧ cur.size = n ∧ ∀ j, j < k → cur[j]? = some (.int .u64 (ys.getD j 0))

theorem blk_new (w : World) (o : Obj) : (w.alloc o).heap[w.heap.size]? = some o := by
  show (w.heap.push o)[w.heap.size]? = _
  simp
theorem cell_in {w : World} {b : Nat} {cs : Array Value} {t : TypeId} (h : w.heap[b]? = some (.cells cs t)) {i : Nat} {v : Value} (hi : cs[i]? = some v) : w.cell? ⟨b, i, none⟩ = some v := by
  simp [World.cell?, h, hi]
theorem frozen_in {w : World} {b : Nat} {cs : Array Value} {t : TypeId} (h : w.heap[b]? = some (.cells cs t)) (i : Nat) : w.frozen? ⟨b, i, none⟩ = false := by simp [World.frozen?, h]
theorem blk_put {w : World} {b : Nat} {cs : Array Value} {t : TypeId} (h : w.heap[b]? = some (.cells cs t)) (i : Nat) (v : Value) : (w.setCell ⟨b, i, none⟩ v).heap[b]? = some (.cells (cs.setIfInBounds i v) t) := by
  simp [World.setCell, Array.getElem?_modify, h]

theorem Filled.step {w : World} {M n k : Nat} {ys : List Int} (h : Filled w M n ys k) (hk : k < n) (y : Int) (hy : ys.getD k 0 = y) : Filled (w.setCell ⟨M, k, none⟩ (.int .u64 y)) M n ys (k + 1) := by
  obtain ⟨cur, h1, h2, h3⟩ := h
  refine ⟨_, blk_put h1 k _, by simpa using h2, fun j hj => ?_⟩
  by_cases e : j = k
  · subst e
    rw [hy]
    simp [h2, hk]
  · rw [Array.getElem?_setIfInBounds_ne (by omega)]
    exact h3 j (by omega)
theorem Filled.cell {w : World} {M n k : Nat} {ys : List Int} (h : Filled w M n ys k) (j : Nat) (hj : j < n) : (∃ v, w.cell? ⟨M, j, none⟩ = some v) ∧ w.frozen? ⟨M, j, none⟩ = false := by
  obtain ⟨cur, h1, h2, h3⟩ := h
  exact ⟨⟨cur[j], cell_in h1 (by simp [h2, hj])⟩, frozen_in h1 j⟩
theorem Filled.done {w : World} {M n : Nat} {ys : List Int} (h : Filled w M n ys n) (hl : ys.length ≤ n) : U w (some ⟨M, 0, none⟩) ys := by
  obtain ⟨cur, h1, h2, h3⟩ := h
  exact Or.inr ⟨M, 0, rfl, fun j hj => by rw [Nat.zero_add]; exact cell_in h1 (h3 j (by omega))⟩

theorem clone_nil (c d : Nat) (w : World) :
    Calls Yba.prog 13 #[.slice none c d] w fun e w' => e = .returned (.slice none 0 0) ∧ w = w' := by
  have hnil := fun w => Lib.run_eql_slice_nil (P := Yba.prog) w 35 68 none c d 0 0 Yba.underlying35
  go_enter Yba.func13, Yba.ntmps13
  go_wp2
  go_ret
  exact ⟨rfl, rfl⟩

set_option maxHeartbeats 400000 in
theorem clone_row (ad : Addr) (d : Nat) (ys : List Int) (w : World) (hl : ys.length ≤ 2000) (h1 : U w (some ad) ys) :
    Calls Yba.prog 13 #[.slice (some ad) ys.length d] w fun e w' => e = .returned (.slice (some ⟨w.heap.size, 0, none⟩) ys.length ys.length) ∧ U w' (some ⟨w.heap.size, 0, none⟩) ys ∧ Fr [] w w' := by
  have H1 : Hid (U w (some ad) ys) := h1
  clear h1
  have hnil := fun w => Lib.run_eql_slice_nil (P := Yba.prog) w 35 68 (some ad) ys.length d 0 0 Yba.underlying35
  have hmk := run_make_u64 63 Yba.underlying63 (ys.length : Int) ys.length rfl (by omega)
  have F0 : Hid (Filled (w.alloc (.cells (madeCells #[.int .u64 0] ys.length) 68)) w.heap.size ys.length ys 0) := ⟨_, blk_new w _, size_madeCells _ _, fun j hj => by omega⟩
  have R0 : Hid (Fr [] w (w.alloc (.cells (madeCells #[.int .u64 0] ys.length) 68))) := (Fr.refl _ w).alloc _
  go_enter Yba.func13, Yba.ntmps13
  go_wp2
  go_loopw [4] (fun i wr => ∃ k : Nat, k ≤ ys.length ∧ i = .int .i64 k ∧ Hid (Filled wr w.heap.size ys.length ys k) ∧ Hid (Fr [] w wr)) (fun i _ => ys.length - (intOf i).toNat)
  case atStart => exact ⟨0, Nat.zero_le _, rfl, F0, R0⟩
  case round =>
    clear F0 R0 hmk hnil
    obtain ⟨k, hk, rfl, HF, HR⟩ := hrel
    by_cases hlt : k < ys.length
    · obtain ⟨b, o, e1, c1⟩ := (H1.out.keep HR.out (by simp)).at k hlt
      cases e1
      obtain ⟨⟨v, c2⟩, z2⟩ := HF.out.cell k hlt
      have HS : Hid (∀ y, ys.getD k 0 = y → Filled (wr.setCell ⟨w.heap.size, k, none⟩ (.int .u64 y)) w.heap.size ys.length ys (k + 1)) := fun y hy => HF.out.step hlt y hy
      generalize ys.getD k 0 = yk at *
      go_wp2
      go_roundw
      case rel => exact ⟨k + 1, by omega, by go_num, HS.out yk rfl, HR.out.setCell (Or.inr (Nat.le_refl _)) _⟩
      case measure => simp [intOf]; omega
    · obtain rfl : k = ys.length := by omega
      go_wp2
      go_ret
      exact ⟨rfl, HF.out.done (Nat.le_refl _), HR⟩

/-- Of a clone: nil stays nil, else a row of its own. -/
theorem clone_any (p : Option Addr) (d : Nat) (ys : List Int) (w : World) (hl : ys.length ≤ 2000) (h1 : U w p ys) :
    Calls Yba.prog 13 #[.slice p ys.length d] w fun e w' => ∃ p' c', e = .returned (.slice p' ys.length c') ∧ U w' p' ys ∧ (∀ k ∈ pb p', w.heap.size ≤ k) ∧ Fr [] w w' := by
  rcases p with _ | ad
  · have hys : ys = [] := by
      rcases h1 with h | ⟨b, o, h, _⟩
      · exact h
      · cases h
    subst hys
    refine (clone_nil _ d w).mono ?_
    rintro e w' ⟨rfl, rfl⟩
    exact ⟨none, 0, rfl, Or.inl rfl, by simp [pb], Fr.refl _ _⟩
  · refine (clone_row ad d ys w hl h1).mono ?_
    rintro e w' ⟨rfl, h2, h3⟩
    exact ⟨_, _, rfl, h2, by simp [pb], h3⟩

/-- Block M is a row of n slices; its first k hold what Y says. -/
def FilledR (w : World) (M n : Nat) (P : Nat → Option Addr) (C : Nat → Nat) (Y : Nat → List Int) (k : Nat) : Prop :=
  ∃ cur : Array Value, w.heap[M]? = some (.cells cur 63) ∧ cur.size = n ∧ ∀ j, j < k → cur[j]? = some (.slice (P j) (Y j).length (C j)) ∧ U w (P j) (Y j) ∧ ∀ b ∈ pb (P j), M < b

theorem FilledR.keep {w w' : World} {M n : Nat} {P : Nat → Option Addr} {C : Nat → Nat} {Y : Nat → List Int} {k : Nat} (h : FilledR w M n P C Y k) (hf : Fr [] w w') : FilledR w' M n P C Y k := by
  obtain ⟨cur, h1, h2, h3⟩ := h
  exact ⟨cur, hf.keep h1 (by simp), h2, fun j hj => ⟨(h3 j hj).1, (h3 j hj).2.1.keep hf (by simp), (h3 j hj).2.2⟩⟩
theorem FilledR.lt {w : World} {M n : Nat} {P : Nat → Option Addr} {C : Nat → Nat} {Y : Nat → List Int} {k : Nat} (h : FilledR w M n P C Y k) : M < w.heap.size := by
  obtain ⟨cur, h1, _⟩ := h
  exact blk_lt h1
theorem FilledR.cell {w : World} {M n : Nat} {P : Nat → Option Addr} {C : Nat → Nat} {Y : Nat → List Int} {k : Nat} (h : FilledR w M n P C Y k) (j : Nat) (hj : j < n) : (∃ v, w.cell? ⟨M, j, none⟩ = some v) ∧ w.frozen? ⟨M, j, none⟩ = false := by
  obtain ⟨cur, h1, h2, h3⟩ := h
  exact ⟨⟨cur[j], cell_in h1 (by simp [h2, hj])⟩, frozen_in h1 j⟩
theorem FilledR.step {w : World} {M n : Nat} {P : Nat → Option Addr} {C : Nat → Nat} {Y : Nat → List Int} {k : Nat} (h : FilledR w M n P C Y k) (hk : k < n) (p : Option Addr) (c : Nat) (hu : U w p (Y k)) (hp : ∀ b ∈ pb p, M < b) :
    FilledR (w.setCell ⟨M, k, none⟩ (.slice p (Y k).length c)) M n (fun j => if j = k then p else P j) (fun j => if j = k then c else C j) Y (k + 1) := by
  obtain ⟨cur, h1, h2, h3⟩ := h
  have hf : Fr [M] w (w.setCell ⟨M, k, none⟩ (.slice p (Y k).length c)) := (Fr.refl _ w).setCell (Or.inl (by simp)) _
  refine ⟨_, blk_put h1 k _, by simpa using h2, fun j hj => ?_⟩
  by_cases e : j = k
  · subst e
    refine ⟨by simp [h2, hk], ?_, ?_⟩
    · simpa using hu.keep hf (fun b hb hm => by have := hp b hb; simp at hm; omega)
    · simpa using hp
  · obtain ⟨a1, a2, a3⟩ := h3 j (by omega)
    refine ⟨?_, ?_, ?_⟩
    · rw [Array.getElem?_setIfInBounds_ne (by omega)]
      simpa [e] using a1
    · simpa [e] using a2.keep hf (fun b hb hm => by have := a3 b hb; simp at hm; omega)
    · simpa [e] using a3
theorem FilledR.done {w : World} {M n : Nat} {P : Nat → Option Addr} {C : Nat → Nat} {Y : Nat → List Int} (h : FilledR w M n P C Y n) : RowsOf w (some ⟨M, 0, none⟩) n P C Y := by
  obtain ⟨cur, h1, h2, h3⟩ := h
  exact Or.inr ⟨M, 0, rfl, fun j hj => ⟨by rw [Nat.zero_add]; exact cell_in h1 (h3 j hj).1, (h3 j hj).2.1⟩⟩

set_option maxHeartbeats 400000 in
theorem copy_nil (n d : Nat) (w : World) :
    Calls Yba.prog 12 #[.slice none n d] w fun e w' => e = .returned (.slice none 0 0) ∧ w = w' := by
  have hnil := fun w => Lib.run_eql_slice_nil (P := Yba.prog) w 34 35 none n d 0 0 Yba.underlying34
  go_enter Yba.func12, Yba.ntmps12
  go_wp2
  go_ret
  exact ⟨rfl, rfl⟩

set_option maxHeartbeats 400000 in
theorem copy_row (ad : Addr) (n d : Nat) (P : Nat → Option Addr) (C : Nat → Nat) (Y : Nat → List Int) (w : World) (hn : n ≤ 1024) (hl : ∀ i, i < n → (Y i).length ≤ 1024) (h1 : RowsOf w (some ad) n P C Y) :
    Calls Yba.prog 12 #[.slice (some ad) n d] w fun e w' => ∃ P' C', e = .returned (.slice (some ⟨w.heap.size, 0, none⟩) n n) ∧ RowsOf w' (some ⟨w.heap.size, 0, none⟩) n P' C' Y ∧ Fr [] w w' := by
  have H1 : Hid (RowsOf w (some ad) n P C Y) := h1
  have HL : Hid (∀ i, i < n → (Y i).length ≤ 1024) := hl
  clear h1 hl
  have hnil := fun w => Lib.run_eql_slice_nil (P := Yba.prog) w 34 35 (some ad) n d 0 0 Yba.underlying34
  have hmk := run_make_oids (n : Int) n rfl (by omega)
  have F0 : Hid (FilledR (w.alloc (.cells (madeCells #[.slice none 0 0] n) 63)) w.heap.size n P C Y 0) := ⟨_, blk_new w _, size_madeCells _ _, fun j hj => by omega⟩
  have R0 : Hid (Fr [] w (w.alloc (.cells (madeCells #[.slice none 0 0] n) 63))) := (Fr.refl _ w).alloc _
  go_enter Yba.func12, Yba.ntmps12
  go_wp2
  go_loopw [4] (fun i wr => ∃ (k : Nat) (P' : Nat → Option Addr) (C' : Nat → Nat), k ≤ n ∧ i = .int .i64 k ∧ Hid (FilledR wr w.heap.size n P' C' Y k) ∧ Hid (Fr [] w wr)) (fun i _ => n - (intOf i).toNat)
  case atStart => exact ⟨0, P, C, Nat.zero_le _, rfl, F0, R0⟩
  case round =>
    clear F0 R0 hmk hnil
    obtain ⟨k, P', C', hk, rfl, HF, HR⟩ := hrel
    by_cases hlt : k < n
    · obtain ⟨b, o, e1, c1, u1⟩ := (H1.out.keep HR.out).at k hlt
      cases e1
      have U1 : Hid (U wr (P k) (Y k)) := u1
      have hy := HL.out k hlt
      clear u1
      go_wp2_with fail
      refine (clone_any (P k) (C k) (Y k) wr (by omega) U1).mono ?_
      rintro e w2 ⟨p2, c2, rfl, v1, v2, v3⟩
      have hM := HF.out.lt
      have HF2 : Hid (FilledR w2 w.heap.size n P' C' Y k) := HF.out.keep v3
      have HR2 : Hid (Fr [] w w2) := HR.out.trans v3
      have HS : Hid (FilledR (w2.setCell ⟨w.heap.size, k, none⟩ (.slice p2 (Y k).length c2)) w.heap.size n (fun j => if j = k then p2 else P' j) (fun j => if j = k then c2 else C' j) Y (k + 1)) :=
        HF2.out.step hlt p2 c2 v1 (fun b hb => by have := v2 b hb; omega)
      have HR3 : Hid (Fr [] w (w2.setCell ⟨w.heap.size, k, none⟩ (.slice p2 (Y k).length c2))) := HR2.out.setCell (Or.inr (Nat.le_refl _)) _
      obtain ⟨⟨v, c3⟩, z3⟩ := HF2.out.cell k hlt
      clear v1 v2 v3 c1 hM
      go_wp2_with fail
      go_roundw
      case rel => exact ⟨k + 1, _, _, by omega, by go_num, HS, HR3⟩
      case measure => simp [intOf]; omega
    · obtain rfl : k = n := by omega
      go_wp2_with fail
      go_ret
      exact ⟨P', C', rfl, HF.out.done, HR⟩

theorem copy_any (p : Option Addr) (n d : Nat) (P : Nat → Option Addr) (C : Nat → Nat) (Y : Nat → List Int) (w : World) (hn : n ≤ 1024) (hl : ∀ i, i < n → (Y i).length ≤ 1024) (hp : p = none → n = 0) (h1 : RowsOf w p n P C Y) :
    Calls Yba.prog 12 #[.slice p n d] w fun e w' => ∃ p' c' P' C', e = .returned (.slice p' n c') ∧ RowsOf w' p' n P' C' Y ∧ Fr [] w w' := by
  rcases p with _ | ad
  · obtain rfl := hp rfl
    refine (copy_nil 0 d w).mono ?_
    rintro e w' ⟨rfl, rfl⟩
    exact ⟨none, 0, P, C, rfl, Or.inl rfl, Fr.refl _ _⟩
  · refine (copy_row ad n d P C Y w hn hl h1).mono ?_
    rintro e w' ⟨P', C', rfl, h2, h3⟩
    exact ⟨_, _, P', C', rfl, h2, h3⟩

end Go.Proofs.Ybulkbxkm
