/-
  ReadIdentifier at a tag number of 31 and more.
-/
import Derived.Test.YbulkbxkmFmtRdId
namespace Go.Proofs.YbulkbxkmFmt
open Go.RowKit

theorem blk_put2 {W : World} {R : Nat} {a b c : Value} {t : TypeId} (h : W.heap[R]? = some (.cells #[a, b, c] t)) (x : Value) : (W.setCell ⟨R, 2, none⟩ x).heap[R]? = some (.cells #[a, b, x] t) :=
  (blk_set h 2 x).trans rfl

set_option maxRecDepth 100000 in
set_option maxHeartbeats 2000000 in
theorem readId_long (bb o cap L : Nat) (c f : Int) (b : Bool) (t J : Nat) (w : World) (hc : w.cell? ⟨bb, o, none⟩ = some (.int .u8 f)) (ht : t < 4294967296) (h31 : 31 ≤ t) (hJ : J = nJ t) (hL : J + 2 ≤ L) (hx : L ≤ 4000)
    (hT : ∀ j, j ≤ J → w.cell? ⟨bb, o + (j + 1), none⟩ = some (.int .u8 (tailAt t J j)))
    (f1 : f / 64 = c) (f2 : bits .and .u8 f 32 = (if b then 32 else 0)) (f3 : bits .and .u8 f 31 = 31) :
    Calls Ybaf.prog 10 #[.slice (some ⟨bb, o, none⟩) L cap] w fun e w' => e = .returned (.tuple #[.agg #[.int .u8 c, .bool b, .int .u32 t], .int .i64 ((J + 2 : Nat) : Int), .nilIface]) ∧ Fr [] w w' := by
  have f2' : (bits .and .u8 f 32 != 0) = b := by rw [f2]; cases b <;> rfl
  have HT : Hid (∀ j, j ≤ J → w.cell? ⟨bb, o + (j + 1), none⟩ = some (.int .u8 (tailAt t J j))) := hT
  have HJ : Hid (J = nJ t) := hJ
  have hJ4 : J ≤ 4 := by rw [hJ]; exact nJ_le t
  have hbb := World.block_lt_of_cell? _ _ hc
  have hb0 : Hid (bb < w.heap.size) := hbb
  obtain ⟨x1, hx1⟩ : ∃ x1, tailAt t J 0 = x1 := ⟨_, rfl⟩
  have hc1 : w.cell? ⟨bb, o + 1, none⟩ = some (.int .u8 x1) := by rw [← hx1]; exact hT 0 (by omega)
  have hx127 : (bits .and .u8 x1 127 == 0) = false := by
    obtain ⟨d, d1, d2, d3, d4⟩ := tail_facts t J 0 ht hJ (by omega)
    have hd := tail_first t ht h31
    obtain ⟨_, _, e3, e4⟩ := and128_all ⟨d, d1⟩
    have hdd : d = dig t J := by
      unfold dig
      simp at d3
      omega
    have hne : d ≠ 0 := by rw [hdd, hJ]; exact hd
    rw [← hx1, d2]
    by_cases h0 : 0 < J
    · rw [if_pos h0, e3]
      simp; omega
    · rw [if_neg h0, e4]
      simp; omega
  clear f2 hT hJ hx1
  go_enter Ybaf.func10, Ybaf.ntmps10
  go_wp2_with fail
  have F0 : Hid (Fr [] w (w.alloc (.cells #[.int .u8 0, .bool false, .int .u32 0] 29))) := (Fr.refl [] w).alloc _
  have R0 : Hid ((w.alloc (.cells #[.int .u8 0, .bool false, .int .u32 0] 29)).heap[w.heap.size]? = some (.cells #[.int .u8 0, .bool false, .int .u32 0] 29)) := by show (w.heap.push _)[w.heap.size]? = _; simp
  have c0 : (w.alloc (.cells #[.int .u8 0, .bool false, .int .u32 0] 29)).cell? ⟨bb, o, none⟩ = some (.int .u8 f) := by rw [F0.out.cell hbb (by simp)]; exact hc
  generalize w.alloc (.cells #[.int .u8 0, .bool false, .int .u32 0] 29) = W0 at *
  have c1 : ∀ ob, (W0.alloc ob).cell? ⟨bb, o, none⟩ = some (.int .u8 f) := fun ob => by rw [((Fr.refl [] W0).alloc ob).cell (World.block_lt_of_cell? _ _ c0) (by simp)]; exact c0
  have hsz : Hid (w.heap.size < W0.heap.size) := blk_lt R0.out
  have hc1' : Hid (w.cell? ⟨bb, o + 1, none⟩ = some (.int .u8 x1)) := hc1
  clear hc hbb hc1
  go_region
  have R1 : Hid ((W0.alloc (.cells #[.int .u8 c, .bool b, .int .u32 31] 29)).drew.heap[w.heap.size]? = some (.cells #[.int .u8 0, .bool false, .int .u32 0] 29)) := ((Fr.refl [] W0).alloc _).keep R0.out (by simp)
  have I1 : Hid ((W0.alloc (.cells #[.int .u8 c, .bool b, .int .u32 31] 29)).drew.heap[W0.heap.size]? = some (.cells #[.int .u8 c, .bool b, .int .u32 31] 29)) := by show (W0.heap.push _)[W0.heap.size]? = _; simp
  have F1 : Hid (Fr [] w (W0.alloc (.cells #[.int .u8 c, .bool b, .int .u32 31] 29)).drew) := (F0.out.trans ((Fr.refl [] W0).alloc _)).drew
  generalize (W0.alloc (.cells #[.int .u8 c, .bool b, .int .u32 31] 29)).drew = W1 at *
  have i2 : W1.cell? ⟨W0.heap.size, 2, none⟩ = some (.int .u32 31) := cell_of I1.out rfl
  have y2 : W1.frozen? ⟨W0.heap.size, 2, none⟩ = false := frozen_of I1.out 2
  have k1 : W1.cell? ⟨bb, o + 1, none⟩ = some (.int .u8 x1) := by rw [F1.out.cell hb0.out (by simp)]; exact hc1'.out
  have I2 : Hid ((W1.setCell ⟨W0.heap.size, 2, none⟩ (.int .u32 0)).heap[W0.heap.size]? = some (.cells #[.int .u8 c, .bool b, .int .u32 0] 29)) := blk_put2 I1.out _
  have R2 : Hid ((W1.setCell ⟨W0.heap.size, 2, none⟩ (.int .u32 0)).heap[w.heap.size]? = some (.cells #[.int .u8 0, .bool false, .int .u32 0] 29)) :=
    ((Fr.refl [W0.heap.size] W1).setCell (Or.inl (by simp)) _).keep R1.out (by have := hsz.out; simp; omega)
  have F2 : Hid (Fr [] w (W1.setCell ⟨W0.heap.size, 2, none⟩ (.int .u32 0))) := F1.out.setCell (Or.inr (Nat.le_of_lt hsz.out)) _
  clear c0 c1
  go_wp2_with fail
  go_loopw [6] (fun i wr => ∃ k : Nat, 1 ≤ k ∧ k ≤ J + 1 ∧ i = .int .i64 k ∧ Hid (wr.heap[W0.heap.size]? = some (.cells #[.int .u8 c, .bool b, .int .u32 ((t / 128 ^ (J + 2 - k) : Nat) : Int)] 29)) ∧ Hid (wr.heap[w.heap.size]? = some (.cells #[.int .u8 0, .bool false, .int .u32 0] 29)) ∧ Hid (Fr [] w wr)) (fun i _ => J + 2 - (intOf i).toNat)
  case atStart =>
    refine ⟨1, by omega, by omega, rfl, ?_, R2, F2⟩
    have e : t / 128 ^ (J + 2 - 1) = 0 := by
      rw [show J + 2 - 1 = J + 1 by omega, HJ.out]
      exact Nat.div_eq_of_lt (nJ_lt ht)
    show _ = _
    rw [e]
    exact I2.out
  case round =>
    clear I2 R2 F2 i2 y2 k1 I1 R1 F1
    obtain ⟨k, hk1, hk2, rfl, HI, HR, HF⟩ := hrel
    obtain ⟨d, d1, d2, d3, d4⟩ := tail_facts t J (k - 1) ht HJ.out (by omega)
    have hcell : wr.cell? ⟨bb, o + k, none⟩ = some (.int .u8 (tailAt t J (k - 1))) := by
      have h := HT.out (k - 1) (by omega)
      rw [show k - 1 + 1 = k by omega] at h
      rw [HF.out.cell hb0.out (by simp)]
      exact h
    rw [show J + 1 - (k - 1) = J + 2 - k by omega] at d3 d4
    obtain ⟨e1, e2, e3, e4⟩ := and128_all ⟨d, d1⟩
    have hj := join_u32 (t / 128 ^ (J + 2 - k)) d d4 d1
    obtain ⟨T, hTT⟩ : ∃ T, t / 128 ^ (J + 2 - k) = T := ⟨_, rfl⟩
    rw [hTT] at hj d3 d4 HI
    obtain ⟨T', hT'⟩ : ∃ T', t / 128 ^ (J - (k - 1)) = T' := ⟨_, rfl⟩
    rw [hT'] at d3
    have hj' : bits .or .u32 ((T : Int) * 128) (d : Int) = (T' : Int) := by rw [hj]; omega
    have i2 : wr.cell? ⟨W0.heap.size, 2, none⟩ = some (.int .u32 T) := cell_of HI.out rfl
    have y2 : wr.frozen? ⟨W0.heap.size, 2, none⟩ = false := frozen_of HI.out 2
    have I3 : Hid ((wr.setCell ⟨W0.heap.size, 2, none⟩ (.int .u32 T')).drew.heap[W0.heap.size]? = some (.cells #[.int .u8 c, .bool b, .int .u32 T'] 29)) := blk_put2 HI.out _
    have R3 : Hid ((wr.setCell ⟨W0.heap.size, 2, none⟩ (.int .u32 T')).drew.heap[w.heap.size]? = some (.cells #[.int .u8 0, .bool false, .int .u32 0] 29)) :=
      (((Fr.refl [W0.heap.size] wr).setCell (Or.inl (by simp)) _).drew).keep HR.out (by have := hsz.out; simp; omega)
    have F3 : Hid (Fr [] w (wr.setCell ⟨W0.heap.size, 2, none⟩ (.int .u32 T')).drew) := (HF.out.setCell (Or.inr (Nat.le_of_lt hsz.out)) _).drew
    have hcell3 : Hid (∀ y, wr.cell? ⟨bb, o + k, none⟩ = some y → (wr.setCell ⟨W0.heap.size, 2, none⟩ (.int .u32 T')).drew.cell? ⟨bb, o + k, none⟩ = some y) := fun y hy => by
      rw [← hy, F3.out.cell hb0.out (by simp), HF.out.cell hb0.out (by simp)]
    have HD3 : Hid (T' = T * 128 + d) := d3
    have HTT : Hid (t / 128 ^ (J + 2 - k) = T) := hTT
    have HT' : Hid (t / 128 ^ (J - (k - 1)) = T') := hT'
    clear hj d3 hTT hT'
    have hwrap : (T : Int) ≤ 33554431 := by omega
    by_cases hlt : k - 1 < J
    · rw [if_pos hlt] at d2
      rw [d2] at hcell
      have hc3 := hcell3.out _ hcell
      have hne : (bits .and .u8 ((d + 128 : Nat) : Int) 128 != 0) = true := by rw [show bits .and .u8 ((d + 128 : Nat) : Int) 128 = 128 from e1]; rfl
      have e3' : bits .and .u8 ((d + 128 : Nat) : Int) 127 = (d : Int) := e3
      clear e1 e2 e3 e4 d2
      generalize ((d + 128 : Nat) : Int) = x at *
      go_wp2_with fail
      go_region
      generalize (wr.setCell ⟨W0.heap.size, 2, none⟩ (.int .u32 T')).drew = wq at *
      go_wp2_with fail
      go_roundw
      case rel => exact ⟨k + 1, by omega, by omega, by go_num, by rw [show J + 2 - (k + 1) = J - (k - 1) by omega, HT'.out]; exact I3, R3, F3⟩
      case measure => simp [intOf]; omega
    · rw [if_neg hlt] at d2
      rw [d2] at hcell
      have hc3 := hcell3.out _ hcell
      have hne : (bits .and .u8 (d : Int) 128 != 0) = false := by rw [show bits .and .u8 (d : Int) 128 = 0 from e2]; rfl
      have e4' : bits .and .u8 (d : Int) 127 = (d : Int) := e4
      clear e1 e2 e3 e4 d2
      obtain rfl : k = J + 1 := by omega
      have hTt : T' = t := by rw [← HT'.out]; simp
      subst hTt
      go_wp2_with fail
      go_region
      generalize (wr.setCell ⟨W0.heap.size, 2, none⟩ (.int .u32 T')).drew = wq at *
      have i0 : wq.cell? ⟨W0.heap.size, 0, none⟩ = some (.int .u8 c) := cell_of I3.out rfl
      have i1 : wq.cell? ⟨W0.heap.size, 1, none⟩ = some (.bool b) := cell_of I3.out rfl
      have i2' : wq.cell? ⟨W0.heap.size, 2, none⟩ = some (.int .u32 T') := cell_of I3.out rfl
      have r0 : wq.cell? ⟨w.heap.size, 0, none⟩ = some (.int .u8 0) := cell_of R3.out rfl
      have r1 : wq.cell? ⟨w.heap.size, 1, none⟩ = some (.bool false) := cell_of R3.out rfl
      have r2 : wq.cell? ⟨w.heap.size, 2, none⟩ = some (.int .u32 0) := cell_of R3.out rfl
      have z0 : wq.frozen? ⟨w.heap.size, 0, none⟩ = false := frozen_of R3.out 0
      have z1 : wq.frozen? ⟨w.heap.size, 1, none⟩ = false := frozen_of R3.out 1
      have z2 : wq.frozen? ⟨w.heap.size, 2, none⟩ = false := frozen_of R3.out 2
      go_wp2_with fail
      have FE : Hid (Fr [] w (((wq.setCell ⟨w.heap.size, 0, none⟩ (.int .u8 c)).setCell ⟨w.heap.size, 1, none⟩ (.bool b)).setCell ⟨w.heap.size, 2, none⟩ (.int .u32 T'))) :=
        ((F3.out.setCell (Or.inr (Nat.le_refl _)) _).setCell (Or.inr (Nat.le_refl _)) _).setCell (Or.inr (Nat.le_refl _)) _
      exact bodyPost_ret (res_cell (by kernel_rfl) _ _ w.heap.size _ _ _ rfl (blk_put3 R3.out _ _ _)) rfl ⟨by first | rfl | go_num, FE⟩

end Go.Proofs.YbulkbxkmFmt
