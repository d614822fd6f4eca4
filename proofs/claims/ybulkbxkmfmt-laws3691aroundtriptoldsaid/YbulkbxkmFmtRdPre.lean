/-
  ReadPrefix, on a canonical header and its contents.
-/
import Derived.Test.YbulkbxkmFmtRdId2
namespace Go.Proofs.YbulkbxkmFmt
open Go.RowKit

theorem getD_left {xs ys : List Int} {j : Nat} (h : j < xs.length) : (xs ++ ys).getD j 0 = xs.getD j 0 := by simp [List.getD, List.getElem?_append_left h]
theorem getD_right {xs ys : List Int} (j : Nat) : (xs ++ ys).getD (xs.length + j) 0 = ys.getD j 0 := by simp [List.getD, List.getElem?_append_right]

theorem readId_any (bb o cap : Nat) (c : Int) (b : Bool) (t : Nat) (ys : List Int) (w : World) (hR : Rd w (some ⟨bb, o, none⟩) (tagPart (fst8 c b) t ++ ys)) (hx : (tagPart (fst8 c b) t ++ ys).length ≤ 4000) (h0 : 0 ≤ c) (h1 : c ≤ 3) (ht : t < 4294967296) :
    Calls Ybaf.prog 10 #[.slice (some ⟨bb, o, none⟩) (tagPart (fst8 c b) t ++ ys).length cap] w fun e w' => e = .returned (.tuple #[.agg #[.int .u8 c, .bool b, .int .u32 t], .int .i64 ((tagPart (fst8 c b) t).length : Int), .nilIface]) ∧ Fr [] w w' := by
  by_cases h31 : t < 31
  · have e : tagPart (fst8 c b) t = [orB (fst8 c b) (t : Int)] := by simp [tagPart, h31]
    rw [e] at hR hx ⊢
    obtain ⟨f1, f2, f3, _, _⟩ := first_at c b t h0 h1 (by omega)
    exact readId_short bb o cap _ c _ b t w (hR.cell 0 (by simp) (by simp)) (by simp) hx h31 f1 f2 f3
  · have e : tagPart (fst8 c b) t = [orB (fst8 c b) ((31 : Nat) : Int)] ++ tagTail t (nJ t) := by simp [tagPart, h31]
    obtain ⟨f1, f2, f3, _, _⟩ := first_at c b 31 h0 h1 (by omega)
    have hl : (tagPart (fst8 c b) t).length = nJ t + 2 := by rw [e]; simp [tagTail_length]
    rw [hl]
    refine readId_long bb o cap _ c _ b t (nJ t) w (hR.cell 0 (by rw [List.length_append, hl]; omega) (by rw [e]; rfl)) ht (by omega) rfl (by rw [List.length_append, hl]; omega) hx ?_ f1 f2 f3
    intro j hj
    refine hR.cell (j + 1) (by rw [List.length_append, hl]; omega) ?_
    rw [getD_left (by rw [hl]; omega), e]
    have hj' : j < nJ t + 1 := by omega
    simp [List.getD, tagTail, hj']

set_option maxRecDepth 100000 in
set_option maxHeartbeats 2000000 in
theorem readPrefix_any (bb o cap : Nat) (c : Int) (b : Bool) (t n : Nat) (ys : List Int) (w : World) (hR : Rd w (some ⟨bb, o, none⟩) (hdrList c b t n ++ ys)) (hn : ys.length = n) (hx : (hdrList c b t n ++ ys).length ≤ 4000) (hcap : (hdrList c b t n ++ ys).length ≤ cap) (h0 : 0 ≤ c) (h1 : c ≤ 3) (ht : t < 4294967296) :
    Calls Ybaf.prog 8 #[.slice (some ⟨bb, o, none⟩) (hdrList c b t n ++ ys).length cap] w fun e w' => ∃ q c', e = .returned (.tuple #[.agg #[.int .u8 c, .bool b, .int .u32 t], .slice q ys.length c', .nilIface]) ∧ Rd w' q ys ∧ Pl q ∧ Fr [] w w' := by
  subst hn
  obtain ⟨n, hn⟩ : ∃ n, ys.length = n := ⟨_, rfl⟩
  rw [hn] at hR hx hcap ⊢
  have HR : Hid (Rd w (some ⟨bb, o, none⟩) (hdrList c b t n ++ ys)) := hR
  obtain ⟨k, hk⟩ : ∃ k, (tagPart (fst8 c b) t).length = k := ⟨_, rfl⟩
  obtain ⟨xs, hxs⟩ : ∃ xs, hdrList c b t n ++ ys = xs := ⟨_, rfl⟩
  have hxt : xs = tagPart (fst8 c b) t ++ (lenPart n ++ ys) := by rw [← hxs]; simp [hdrList]
  have HX : Hid (xs = tagPart (fst8 c b) t ++ (lenPart n ++ ys)) := hxt
  have hll := lenPart_length n
  have hkl := tagPart_length (fst8 c b) t
  have hlen : xs.length = k + (lenPart n).length + ys.length := by rw [hxt]; simp [hk]; omega
  have hat : ∀ j, j < (lenPart n).length → xs.getD (k + j) 0 = (lenPart n).getD j 0 := fun j hj => by rw [hxt, ← hk, getD_right, getD_left hj]
  have hyy : ∀ j, j < ys.length → xs.getD (k + (lenPart n).length + j) 0 = ys.getD j 0 := fun j hj => by rw [hxt, ← hk, Nat.add_assoc, getD_right, getD_right]
  rw [hxs] at hx hcap HR ⊢
  have HAT : Hid (∀ j, j < (lenPart n).length → xs.getD (k + j) 0 = (lenPart n).getD j 0) := hat
  have HYY : Hid (∀ j, j < ys.length → xs.getD (k + (lenPart n).length + j) 0 = ys.getD j 0) := hyy
  have HK : Hid ((tagPart (fst8 c b) t).length = k) := hk
  have HLEN : Hid (xs.length = k + (lenPart n).length + ys.length) := hlen
  have hid : ∀ w : World, Rd w (some ⟨bb, o, none⟩) xs → Calls Ybaf.prog 10 #[.slice (some ⟨bb, o, none⟩) xs.length cap] w fun e w' => e = .returned (.tuple #[.agg #[.int .u8 c, .bool b, .int .u32 t], .int .i64 (k : Int), .nilIface]) ∧ Fr [] w w' := by
    intro w hw
    have := readId_any bb o cap c b t (lenPart n ++ ys) w (by rw [← hxt]; exact hw) (by rw [← hxt]; exact hx) h0 h1 ht
    rw [← hxt, hk] at this
    exact this
  have HID : Hid (∀ w : World, Rd w (some ⟨bb, o, none⟩) xs → Calls Ybaf.prog 10 #[.slice (some ⟨bb, o, none⟩) xs.length cap] w fun e w' => e = .returned (.tuple #[.agg #[.int .u8 c, .bool b, .int .u32 t], .int .i64 (k : Int), .nilIface]) ∧ Fr [] w w') := hid
  have hkb : k ≤ 6 := by omega
  obtain ⟨m, hm⟩ : ∃ m, (lenPart n).length = m := ⟨_, rfl⟩
  have hm3 : m ≤ 3 := by omega
  have HM : Hid ((lenPart n).length = m) := hm
  have hkm : k + m + ys.length = xs.length := by omega
  have hkn : k + m + n = xs.length := by omega
  have HN : Hid (ys.length = n) := hn
  clear hR hid hxt hk hxs hat hyy hlen hll hkl hm hkm hn
  go_enter Ybaf.func8, Ybaf.ntmps8
  go_wp2_with fail
  have F0 : Hid (Fr [] w (w.alloc (.cells #[.int .u8 0, .bool false, .int .u32 0] 29))) := (Fr.refl [] w).alloc _
  have R0 : Hid ((w.alloc (.cells #[.int .u8 0, .bool false, .int .u32 0] 29)).heap[w.heap.size]? = some (.cells #[.int .u8 0, .bool false, .int .u32 0] 29)) := by show (w.heap.push _)[w.heap.size]? = _; simp
  generalize w.alloc (.cells #[.int .u8 0, .bool false, .int .u32 0] 29) = W0 at *
  refine (HID.out W0 (HR.out.keep F0.out (by simp))).mono ?_
  rintro e W1 ⟨rfl, g1⟩
  have F1 : Hid (Fr [] w W1) := F0.out.trans g1
  have R1 : Hid (W1.heap[w.heap.size]? = some (.cells #[.int .u8 0, .bool false, .int .u32 0] 29)) := g1.keep R0.out (by simp)
  have hsz : Hid (w.heap.size < W1.heap.size) := blk_lt R1.out
  clear g1
  go_wp2_with fail
  have R2 : Hid ((W1.alloc (.cells #[.int .u8 c, .bool b, .int .u32 t] 29)).heap[w.heap.size]? = some (.cells #[.int .u8 0, .bool false, .int .u32 0] 29)) := ((Fr.refl [] W1).alloc _).keep R1.out (by simp)
  have I2 : Hid ((W1.alloc (.cells #[.int .u8 c, .bool b, .int .u32 t] 29)).heap[W1.heap.size]? = some (.cells #[.int .u8 c, .bool b, .int .u32 t] 29)) := by show (W1.heap.push _)[W1.heap.size]? = _; simp
  have F2 : Hid (Fr [] w (W1.alloc (.cells #[.int .u8 c, .bool b, .int .u32 t] 29))) := F1.out.trans ((Fr.refl [] W1).alloc _)
  generalize W1.alloc (.cells #[.int .u8 c, .bool b, .int .u32 t] 29) = W2 at *
  have RR2 : Hid (Rd W2 (some ⟨bb, o, none⟩) xs) := HR.out.keep F2.out (by simp)
  refine (readLen_any bb o cap k n xs b W2 RR2 (by omega) (by rw [HLEN.out, HN.out]) hx hcap HAT).mono ?_
  rintro e W3 ⟨rfl, rfl⟩
  rw [HM.out]
  obtain ⟨km, hkm⟩ : ∃ km, k + m = km := ⟨_, rfl⟩
  rw [hkm] at hkn ⊢
  have HKM : Hid (k + m = km) := hkm
  have i0 : W2.cell? ⟨W1.heap.size, 0, none⟩ = some (.int .u8 c) := cell_of I2.out rfl
  have i1 : W2.cell? ⟨W1.heap.size, 1, none⟩ = some (.bool b) := cell_of I2.out rfl
  have i2 : W2.cell? ⟨W1.heap.size, 2, none⟩ = some (.int .u32 t) := cell_of I2.out rfl
  have r0 : W2.cell? ⟨w.heap.size, 0, none⟩ = some (.int .u8 0) := cell_of R2.out rfl
  have r1 : W2.cell? ⟨w.heap.size, 1, none⟩ = some (.bool false) := cell_of R2.out rfl
  have r2 : W2.cell? ⟨w.heap.size, 2, none⟩ = some (.int .u32 0) := cell_of R2.out rfl
  have z0 : W2.frozen? ⟨w.heap.size, 0, none⟩ = false := frozen_of R2.out 0
  have z1 : W2.frozen? ⟨w.heap.size, 1, none⟩ = false := frozen_of R2.out 1
  have z2 : W2.frozen? ⟨w.heap.size, 2, none⟩ = false := frozen_of R2.out 2
  have b1 : km ≤ 9 := by omega
  have b2 : km + n ≤ cap := by omega
  clear hkm
  have b4 : n ≤ 4000 := by omega
  have q1 : ((n : Int) == -1) = false := by simp
  have q2 : ((n : Int) == -2) = false := by simp
  have FE : Hid (Fr [] w (((W2.setCell ⟨w.heap.size, 0, none⟩ (.int .u8 c)).setCell ⟨w.heap.size, 1, none⟩ (.bool b)).setCell ⟨w.heap.size, 2, none⟩ (.int .u32 t)).drew) :=
    (((F2.out.setCell (Or.inr (Nat.le_refl _)) _).setCell (Or.inr (Nat.le_refl _)) _).setCell (Or.inr (Nat.le_refl _)) _).drew
  have RE : Hid ((((W2.setCell ⟨w.heap.size, 0, none⟩ (.int .u8 c)).setCell ⟨w.heap.size, 1, none⟩ (.bool b)).setCell ⟨w.heap.size, 2, none⟩ (.int .u32 t)).drew.heap[w.heap.size]? = some (.cells #[.int .u8 c, .bool b, .int .u32 t] 29)) := blk_put3 R2.out _ _ _
  by_cases hcq : cap = km
  · have hy0 : ys = [] := List.length_eq_zero_iff.1 (by have := HN.out; omega)
    go_wp2_with fail
    go_region
    generalize (((W2.setCell ⟨w.heap.size, 0, none⟩ (.int .u8 c)).setCell ⟨w.heap.size, 1, none⟩ (.bool b)).setCell ⟨w.heap.size, 2, none⟩ (.int .u32 t)).drew = WE at *
    go_wp2_with fail
    refine bodyPost_ret (res_cell (by kernel_rfl) _ _ w.heap.size _ _ _ rfl RE.out) rfl ⟨some ⟨bb, o, none⟩, 0, ?_, Or.inl hy0, Or.inr ⟨_, _, rfl⟩, FE⟩
    show Ending.returned (.tuple #[_, .slice (some ⟨bb, o, none⟩) (km + n - km) 0, .nilIface]) = _
    rw [Nat.add_sub_cancel_left]
  · have RY : Hid (Rd w (some ⟨bb, o + km, none⟩) ys) := Rd.sub HR.out km ys (fun j hj => by
      have h1 := HLEN.out
      have h2 := HYY.out j hj
      rw [HM.out, HKM.out] at h1 h2
      exact ⟨by omega, h2.symm⟩)
    go_wp2_with fail
    go_region
    generalize (((W2.setCell ⟨w.heap.size, 0, none⟩ (.int .u8 c)).setCell ⟨w.heap.size, 1, none⟩ (.bool b)).setCell ⟨w.heap.size, 2, none⟩ (.int .u32 t)).drew = WE at *
    go_wp2_with fail
    refine bodyPost_ret (res_cell (by kernel_rfl) _ _ w.heap.size _ _ _ rfl RE.out) rfl ⟨some ⟨bb, o + km, none⟩, cap - km, ?_, RY.out.keep FE.out (by simp), Or.inr ⟨_, _, rfl⟩, FE⟩
    show Ending.returned (.tuple #[_, .slice (some ⟨bb, o + km, none⟩) (km + n - km) (cap - km), .nilIface]) = _
    rw [Nat.add_sub_cancel_left]

end Go.Proofs.YbulkbxkmFmt
