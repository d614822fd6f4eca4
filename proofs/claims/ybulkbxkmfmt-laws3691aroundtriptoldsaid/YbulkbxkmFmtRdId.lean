/-
  ReadIdentifier, on the identifier octets that tagPart says.
-/
import Derived.Test.YbulkbxkmFmtRdLen
namespace Go.Proofs.YbulkbxkmFmt
open Go.RowKit

theorem first_all : ∀ (c : Fin 4) (b : Bool) (k : Fin 32),
    orB (fst8 (c.val : Int) b) (k.val : Int) / 64 = (c.val : Int) ∧ bits .and .u8 (orB (fst8 (c.val : Int) b) (k.val : Int)) 32 = (if b then 32 else 0) ∧ bits .and .u8 (orB (fst8 (c.val : Int) b) (k.val : Int)) 31 = (k.val : Int) ∧
      0 ≤ orB (fst8 (c.val : Int) b) (k.val : Int) ∧ orB (fst8 (c.val : Int) b) (k.val : Int) < 256 := by decide +kernel

theorem first_at (c : Int) (b : Bool) (k : Nat) (h0 : 0 ≤ c) (h1 : c ≤ 3) (hk : k < 32) :
    orB (fst8 c b) (k : Int) / 64 = c ∧ bits .and .u8 (orB (fst8 c b) (k : Int)) 32 = (if b then 32 else 0) ∧ bits .and .u8 (orB (fst8 c b) (k : Int)) 31 = (k : Int) ∧ 0 ≤ orB (fst8 c b) (k : Int) ∧ orB (fst8 c b) (k : Int) < 256 := by
  obtain ⟨m, rfl⟩ := Int.eq_ofNat_of_zero_le h0
  exact first_all ⟨m, by omega⟩ b ⟨k, hk⟩

theorem res_cell {fn : Func} (hres : fn.results = #[.cell 2 29, .tmp 3, .tmp 4]) (tmps : Array Value) (W : World) (R : Nat) (v0 v1 v2 : Value) (h2 : tmps[2]?.getD undef = .pointer (some ⟨R, 0, none⟩))
    (hb : W.heap[R]? = some (.cells #[v0, v1, v2] 29)) : (results fn tmps).run Ybaf.prog W = .ok (.tuple #[.agg #[v0, v1, v2], tmps.getD 3 undef, tmps.getD 4 undef]) W := by
  have q0 : W.cell? ⟨R, 0, none⟩ = some v0 := cell_of hb rfl
  have q1 : W.cell? ⟨R, 1, none⟩ = some v1 := cell_of hb rfl
  have q2 : W.cell? ⟨R, 2, none⟩ = some v2 := cell_of hb rfl
  simp [results, hres, h2, go_sem, q0, q1, q2]

theorem blk_put3 {W : World} {R : Nat} {a b c : Value} {t : TypeId} (h : W.heap[R]? = some (.cells #[a, b, c] t)) (u v x : Value) :
    (((W.setCell ⟨R, 0, none⟩ u).setCell ⟨R, 1, none⟩ v).setCell ⟨R, 2, none⟩ x).heap[R]? = some (.cells #[u, v, x] t) := by
  have h1 := blk_set (blk_set (blk_set h 0 u) 1 v) 2 x
  simpa using h1

set_option maxRecDepth 100000 in
set_option maxHeartbeats 1000000 in
theorem readId_short (bb o cap L : Nat) (c f : Int) (b : Bool) (t : Nat) (w : World) (hc : w.cell? ⟨bb, o, none⟩ = some (.int .u8 f)) (hL : 0 < L) (hx : L ≤ 4000) (ht : t < 31)
    (f1 : f / 64 = c) (f2 : bits .and .u8 f 32 = (if b then 32 else 0)) (f3 : bits .and .u8 f 31 = (t : Int)) :
    Calls Ybaf.prog 10 #[.slice (some ⟨bb, o, none⟩) L cap] w fun e w' => e = .returned (.tuple #[.agg #[.int .u8 c, .bool b, .int .u32 t], .int .i64 1, .nilIface]) ∧ Fr [] w w' := by
  have f2' : (bits .and .u8 f 32 != 0) = b := by rw [f2]; cases b <;> rfl
  clear f2
  go_enter Ybaf.func10, Ybaf.ntmps10
  go_wp2_with fail
  have F0 : Hid (Fr [] w (w.alloc (.cells #[.int .u8 0, .bool false, .int .u32 0] 29))) := (Fr.refl [] w).alloc _
  have R0 : Hid ((w.alloc (.cells #[.int .u8 0, .bool false, .int .u32 0] 29)).heap[w.heap.size]? = some (.cells #[.int .u8 0, .bool false, .int .u32 0] 29)) := by show (w.heap.push _)[w.heap.size]? = _; simp
  have hbb := World.block_lt_of_cell? _ _ hc
  have hb0 : Hid (bb < w.heap.size) := hbb
  have c0 : (w.alloc (.cells #[.int .u8 0, .bool false, .int .u32 0] 29)).cell? ⟨bb, o, none⟩ = some (.int .u8 f) := by rw [F0.out.cell hbb (by simp)]; exact hc
  generalize w.alloc (.cells #[.int .u8 0, .bool false, .int .u32 0] 29) = W0 at *
  have c1 : ∀ ob, (W0.alloc ob).cell? ⟨bb, o, none⟩ = some (.int .u8 f) := fun ob => by rw [((Fr.refl [] W0).alloc ob).cell (World.block_lt_of_cell? _ _ c0) (by simp)]; exact c0
  clear hc hbb
  have hsz : Hid (w.heap.size < W0.heap.size) := blk_lt R0.out
  go_region
  have R1 : Hid ((W0.alloc (.cells #[.int .u8 c, .bool b, .int .u32 t] 29)).drew.heap[w.heap.size]? = some (.cells #[.int .u8 0, .bool false, .int .u32 0] 29)) := ((Fr.refl [] W0).alloc _).keep R0.out (by simp)
  have I1 : Hid ((W0.alloc (.cells #[.int .u8 c, .bool b, .int .u32 t] 29)).drew.heap[W0.heap.size]? = some (.cells #[.int .u8 c, .bool b, .int .u32 t] 29)) := by show (W0.heap.push _)[W0.heap.size]? = _; simp
  have F1 : Hid (Fr [] w (W0.alloc (.cells #[.int .u8 c, .bool b, .int .u32 t] 29)).drew) := (F0.out.trans ((Fr.refl [] W0).alloc _)).drew
  generalize (W0.alloc (.cells #[.int .u8 c, .bool b, .int .u32 t] 29)).drew = W1 at *
  have i0 : W1.cell? ⟨W0.heap.size, 0, none⟩ = some (.int .u8 c) := cell_of I1.out rfl
  have i1 : W1.cell? ⟨W0.heap.size, 1, none⟩ = some (.bool b) := cell_of I1.out rfl
  have i2 : W1.cell? ⟨W0.heap.size, 2, none⟩ = some (.int .u32 t) := cell_of I1.out rfl
  have r0 : W1.cell? ⟨w.heap.size, 0, none⟩ = some (.int .u8 0) := cell_of R1.out rfl
  have r1 : W1.cell? ⟨w.heap.size, 1, none⟩ = some (.bool false) := cell_of R1.out rfl
  have r2 : W1.cell? ⟨w.heap.size, 2, none⟩ = some (.int .u32 0) := cell_of R1.out rfl
  have z0 : W1.frozen? ⟨w.heap.size, 0, none⟩ = false := frozen_of R1.out 0
  have z1 : W1.frozen? ⟨w.heap.size, 1, none⟩ = false := frozen_of R1.out 1
  have z2 : W1.frozen? ⟨w.heap.size, 2, none⟩ = false := frozen_of R1.out 2
  clear c0 c1
  go_wp2_with fail
  have FE : Hid (Fr [] w (((W1.setCell ⟨w.heap.size, 0, none⟩ (.int .u8 c)).setCell ⟨w.heap.size, 1, none⟩ (.bool b)).setCell ⟨w.heap.size, 2, none⟩ (.int .u32 t))) :=
    ((F1.out.setCell (Or.inr (Nat.le_refl _)) _).setCell (Or.inr (Nat.le_refl _)) _).setCell (Or.inr (Nat.le_refl _)) _
  exact bodyPost_ret (res_cell (by kernel_rfl) _ _ w.heap.size _ _ _ rfl (blk_put3 R1.out _ _ _)) rfl ⟨rfl, FE⟩

/-- What the round of the loop needs to know of the j-th octet behind the first. -/
theorem tail_facts (t J j : Nat) (ht : t < 4294967296) (hJ : J = nJ t) (hj : j ≤ J) :
    ∃ d : Nat, d < 128 ∧ tailAt t J j = ((if j < J then d + 128 else d : Nat) : Int) ∧ t / 128 ^ (J - j) = t / 128 ^ (J + 1 - j) * 128 + d ∧ t / 128 ^ (J + 1 - j) ≤ 33554431 := by
  refine ⟨dig t (J - j), dig_lt _ _, ?_, ?_, ?_⟩
  · unfold tailAt
    by_cases h : j < J
    · simp [h]
    · have : J - j = 0 := by omega
      simp [h, this]
  · have e : J + 1 - j = (J - j) + 1 := by omega
    rw [e, Nat.pow_succ, ← Nat.div_div_eq_div_mul]
    unfold dig
    omega
  · have e : J + 1 - j = (J - j) + 1 := by omega
    rw [e, Nat.pow_succ, Nat.mul_comm, ← Nat.div_div_eq_div_mul]
    have : t / 128 ≤ 33554431 := by omega
    exact Nat.le_trans (Nat.div_le_self _ _) this

theorem and128_all : ∀ d : Fin 128, bits .and .u8 ((d.val + 128 : Nat) : Int) 128 = 128 ∧ bits .and .u8 ((d.val : Nat) : Int) 128 = 0 ∧ bits .and .u8 ((d.val + 128 : Nat) : Int) 127 = (d.val : Int) ∧ bits .and .u8 ((d.val : Nat) : Int) 127 = (d.val : Int) := by decide +kernel
theorem wraps_u32 (n : Int) (h0 : 0 ≤ n) (h1 : n < 2 ^ 32) : IntKind.u32.wrap n = n := by rw [IntKind.wrap_u32]; omega
theorem join_u32 (T d : Nat) (h1 : T ≤ 33554431) (h2 : d < 128) : bits .or .u32 ((T : Int) * 128) (d : Int) = (T : Int) * 128 + (d : Int) :=
  bits_join .u32 32 (by decide) wraps_u32 7 ((T : Int) * 128) (d : Int) (by omega) (by omega) (by omega) (by omega) (by omega) (by omega)

theorem tail_first (t : Nat) (ht : t < 4294967296) (h31 : 31 ≤ t) : dig t (nJ t) ≠ 0 := by
  unfold dig nJ
  split
  · simp; omega
  · split
    · simp; omega
    · split
      · simp; omega
      · split
        · simp; omega
        · simp; omega

end Go.Proofs.YbulkbxkmFmt
