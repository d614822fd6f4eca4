/-
  LawS3690BScript: the walk.
-/
import Derived.Test.YbulkbxjyOps
namespace Go.Proofs.Ybulkbxjy
open Go.RowKit

/-- What the walk is told of the slice of operations: it has no element; or its cells hold numbers of their kinds. -/
def IsOps (w : World) (a : Option Addr) (len : Nat) : Prop :=
  len = 0 ∨ ∃ (b off : Nat) (O V M : Nat → Int), a = some ⟨b, off, none⟩ ∧ b < w.heap.size ∧ ∀ i, i < len →
    w.cell? ⟨b, off + i * 3, none⟩ = some (.int .u8 (O i)) ∧ w.cell? ⟨b, off + i * 3 + 1, none⟩ = some (.int .i64 (V i)) ∧ w.cell? ⟨b, off + i * 3 + 2, none⟩ = some (.int .i64 (M i)) ∧ 0 ≤ O i ∧ O i ≤ 255

theorem QS.fr {w w' : World} {B0 qb n tot : Nat} (h : QS w B0 qb n tot) (hf : Fr [] w w') : QS w' B0 qb n tot := by
  obtain ⟨h, t, c, q1, q2, q3, q4⟩ := h
  exact ⟨h, t, c, hf.keep q1 (by simp), q2, q3.keep hf (fun _ _ => by simp), q4.keep hf (fun _ _ _ => by simp)⟩

theorem QS.start (w : World) : QS (w.alloc (.cells #[.pointer none, .pointer none, .pointer none, .pointer none, .pointer none] 39)) w.heap.size w.heap.size 0 0 :=
  ⟨none, none, none, blk_new w _, Nat.le_refl _, Or.inl ⟨rfl, rfl⟩, Or.inl ⟨rfl, rfl, rfl⟩⟩

theorem counted_at (x : Int) (B0 qb n tot : Nat) (w : World) (hx : x = n) (h : QS w B0 qb n tot) :
    Calls Yba.prog 7 #[.pointer (some ⟨qb, 0, none⟩)] w fun e w' => e = .returned (.int .i64 x) ∧ w = w' := by
  subst hx
  exact counted_qs B0 qb n tot w h

theorem len_at (x : Int) (B0 qb n tot : Nat) (w : World) (hx : x = tot) (ht : tot ≤ 1024) (h : QS w B0 qb n tot) :
    Calls Yba.prog 8 #[.pointer (some ⟨qb, 0, none⟩)] w fun e w' => e = .returned (.int .i64 x) ∧ w = w' := by
  subst hx
  exact len_qs B0 qb n tot w h ht

theorem script_long (a : Option Addr) (len cap : Nat) (w : World) (h : 1024 < len) :
    Calls Yba.prog 3 #[.slice a len cap] w fun e w' => e = .returned (.bool true) ∧ Below w.heap.size w w' := by
  go_enter Yba.func3, Yba.ntmps3
  go_wp2
  go_ret
  exact ⟨rfl, Below.refl _ _⟩

set_option maxRecDepth 100000 in
set_option maxHeartbeats 1000000 in
theorem script_short (a : Option Addr) (len cap : Nat) (w : World) (hl : len ≤ 1024) (ho : IsOps w a len) :
    Calls Yba.prog 3 #[.slice a len cap] w fun e w' => e = .returned (.bool true) ∧ Below w.heap.size w w' := by
  have S0 : Hid _ := QS.start w
  have B0 : Hid (Below w.heap.size w (w.alloc (.cells #[.pointer none, .pointer none, .pointer none, .pointer none, .pointer none] 39))) := (Below.refl _ w).alloc (Nat.le_refl _) _
  have Ho : Hid _ := ho
  clear ho
  go_enter Yba.func3, Yba.ntmps3
  go_wp2_with fail
  go_loopw [4, 5, 14] (fun cn tt i wr => ∃ k n t : Nat, k ≤ len ∧ cn = .int .i64 n ∧ tt = .int .i64 t ∧ i = .int .i64 k ∧ n ≤ t ∧ t ≤ k ∧ Hid (QS wr w.heap.size w.heap.size n t) ∧ Hid (Below w.heap.size w wr))
    (fun _ _ i _ => len - (intOf i).toNat)
  case atStart => exact ⟨0, 0, 0, Nat.zero_le _, rfl, rfl, rfl, Nat.le_refl _, Nat.le_refl _, S0, B0⟩
  case round =>
    clear S0 B0
    obtain ⟨k, n, t, hk, rfl, rfl, rfl, hnt, htk, hqs, hbe⟩ := hrel
    by_cases hlt : k < len
    · rcases Ho.out with hz | ⟨b, off, O, V, M, rfl, hb, hcells⟩
      · omega
      obtain ⟨k0, k1, k2, o0, o1⟩ := hcells k hlt
      have g0 : wr.cell? ⟨b, off + k * 3, none⟩ = some (.int .u8 (O k)) := by rw [hbe.out.cell (by exact hb)]; exact k0
      have g1 : wr.cell? ⟨b, off + k * 3 + 1, none⟩ = some (.int .i64 (V k)) := by rw [hbe.out.cell (by exact hb)]; exact k1
      have g2 : wr.cell? ⟨b, off + k * 3 + 2, none⟩ = some (.int .i64 (M k)) := by rw [hbe.out.cell (by exact hb)]; exact k2
      have hsz : w.heap.size ≤ wr.heap.size := hbe.out.size
      clear k0 k1 k2 Ho hcells
      generalize O k = ok at *
      generalize V k = vk at *
      generalize M k = mk at *
      have A1 : Hid (QS (wr.alloc (.cells #[.int .u8 ok, .int .i64 vk, .int .i64 mk] 41)) w.heap.size w.heap.size n t) := hqs.out.fr ((Fr.refl _ wr).alloc _)
      have A2 : Hid (Below w.heap.size w (wr.alloc (.cells #[.int .u8 ok, .int .i64 vk, .int .i64 mk] 41))) := hbe.out.alloc hsz _
      have A3 : Hid (w.heap.size ≤ (wr.alloc (.cells #[.int .u8 ok, .int .i64 vk, .int .i64 mk] 41)).heap.size) := by simp [Hid]; omega
      clear hqs hbe
      by_cases hev : (ok % 2 == 0) = true
      · by_cases hm : (n : Int) < mk
        · go_wp2_with fail
          refine (PushCounted_yes w.heap.size w.heap.size n t vk mk _ A1 A3 (by omega) (by omega) hm).mono ?_
          rintro e W ⟨rfl, s1, s2⟩
          have C1 : Hid _ := s1
          have C2 : Hid (Below w.heap.size w W) := A2.out.trans s2
          clear s1 s2 A1 A2 A3 g0 g1 g2
          go_wp2_with fail
          refine (counted_at ((n : Int) + 1) w.heap.size w.heap.size (n + 1) (t + 1) W (by omega) C1).mono ?_
          rintro e w' ⟨rfl, rfl⟩
          go_wp2_with fail
          refine (len_at ((t : Int) + 1) w.heap.size w.heap.size (n + 1) (t + 1) W (by omega) (by omega) C1).mono ?_
          rintro e w' ⟨rfl, rfl⟩
          go_wp2_with fail
          go_roundw
          case rel => exact ⟨k + 1, n + 1, t + 1, by omega, by go_num, by go_num, by go_num, by omega, by omega, C1, C2⟩
          case measure => simp [intOf]; omega
        · go_wp2_with fail
          refine (PushCounted_no w.heap.size w.heap.size n t vk mk _ A1 A3 (by omega)).mono ?_
          rintro e W ⟨rfl, s1, s2⟩
          have C1 : Hid _ := s1
          have C2 : Hid (Below w.heap.size w W) := A2.out.trans s2
          clear s1 s2 A1 A2 A3 g0 g1 g2
          go_wp2_with fail
          refine (counted_at (n : Int) w.heap.size w.heap.size n t W (by omega) C1).mono ?_
          rintro e w' ⟨rfl, rfl⟩
          go_wp2_with fail
          refine (len_at (t : Int) w.heap.size w.heap.size n t W (by omega) (by omega) C1).mono ?_
          rintro e w' ⟨rfl, rfl⟩
          go_wp2_with fail
          go_roundw
          case rel => exact ⟨k + 1, n, t, by omega, by go_num, by go_num, by go_num, by omega, by omega, C1, C2⟩
          case measure => simp [intOf]; omega
      · have hod : (ok % 2 == 0) = false := by simpa using hev
        clear hev
        go_wp2_with fail
        refine (Push_any w.heap.size w.heap.size n t vk _ A1 (by omega) A3).mono ?_
        rintro e W ⟨rfl, s1, s2⟩
        have C1 : Hid _ := s1
        have C2 : Hid (Below w.heap.size w W) := A2.out.trans s2
        clear s1 s2 A1 A2 A3 g0 g1 g2
        go_wp2_with fail
        refine (counted_at (n : Int) w.heap.size w.heap.size n (t + 1) W (by omega) C1).mono ?_
        rintro e w' ⟨rfl, rfl⟩
        go_wp2_with fail
        refine (len_at ((t : Int) + 1) w.heap.size w.heap.size n (t + 1) W (by omega) (by omega) C1).mono ?_
        rintro e w' ⟨rfl, rfl⟩
        go_wp2_with fail
        go_roundw
        case rel => exact ⟨k + 1, n, t + 1, by omega, by go_num, by go_num, by go_num, by omega, by omega, C1, C2⟩
        case measure => simp [intOf]; omega
    · go_wp2_with fail
      go_ret
      exact ⟨rfl, hbe⟩

end Go.Proofs.Ybulkbxjy
