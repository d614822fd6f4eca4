/-
  readLength, on the length octets that lenPart says.
-/
import Derived.Test.YbulkbxkmFmtEq
import Derived.OwnWalk
import Derived.Laws.BitsLemmas
import Derived.Laws.Bits64b
namespace Go.Proofs.YbulkbxkmFmt
open Go.RowKit

theorem Rd.cell {w : World} {bb o : Nat} {xs : List Int} (h : Rd w (some ⟨bb, o, none⟩) xs) (j : Nat) (hj : j < xs.length) {y : Int} (hy : xs.getD j 0 = y) : w.cell? ⟨bb, o + j, none⟩ = some (.int .u8 y) := by
  rcases h with h | ⟨b', o', h, hc⟩
  · subst h; simp at hj
  · cases h; rw [← hy]; exact hc j hj

theorem wraps_u64 (n : Int) (h0 : 0 ≤ n) (h1 : n < 2 ^ 64) : IntKind.u64.wrap n = n := by rw [IntKind.wrap_u64]; omega
theorem or0_u64 (n : Nat) (h : n < 18446744073709551616) : bits .or .u64 0 (n : Int) = (n : Int) := by
  have := bits_or_u64_nat 0 n (by omega) h
  rw [show ((0 : Nat) : Int) = 0 from rfl] at this
  rw [this]
  simp
theorem join_u64 (hi lo : Nat) (h1 : hi < 256) (h2 : lo < 256) : bits .or .u64 ((hi : Int) * 256) (lo : Int) = (hi : Int) * 256 + (lo : Int) :=
  bits_join .u64 64 (by decide) wraps_u64 8 ((hi : Int) * 256) (lo : Int) (by omega) (by omega) (by omega) (by omega) (by omega) (by omega)

set_option maxRecDepth 100000 in
theorem readLen_short (bb o cap L i n : Nat) (cons : Bool) (w : World) (hc : w.cell? ⟨bb, o + i, none⟩ = some (.int .u8 n)) (hn : n < 128) (hL : L = i + 1 + n) (hx : L ≤ 4000) :
    Calls Ybaf.prog 11 #[.slice (some ⟨bb, o, none⟩) L cap, .int .i64 i, .bool cons] w fun e w' => e = .returned (.tuple #[.int .i64 n, .int .i64 ((i + 1 : Nat) : Int), .nilIface]) ∧ w = w' := by
  have h1 : i < L := by omega
  have h2 : (L : Int) - ((i : Int) + 1) = (n : Int) := by omega
  have h3 : (n : Int) < 128 := by omega
  have h4 : i ≤ 4000 := by omega
  clear hL
  go_enter Ybaf.func11, Ybaf.ntmps11
  go_wp2_with fail
  go_ret3
  exact ⟨by go_num, rfl⟩

set_option maxRecDepth 100000 in
theorem readLen_one (bb o cap L i n : Nat) (cons : Bool) (w : World) (hc : w.cell? ⟨bb, o + i, none⟩ = some (.int .u8 129)) (hc1 : w.cell? ⟨bb, o + (i + 1), none⟩ = some (.int .u8 n)) (hn : n < 256) (hL : L = i + 2 + n) (hx : L ≤ 4000) (hcap : L ≤ cap) (hn1 : 128 ≤ n) :
    Calls Ybaf.prog 11 #[.slice (some ⟨bb, o, none⟩) L cap, .int .i64 i, .bool cons] w fun e w' => e = .returned (.tuple #[.int .i64 n, .int .i64 ((i + 2 : Nat) : Int), .nilIface]) ∧ w = w' := by
  have h127 : bits .and .u8 129 127 = 1 := by decide
  have h1 : i < L := by omega
  have h2 : (L : Int) - ((i : Int) + 1) = (n : Int) + 1 := by omega
  have h3 : (L : Int) - ((i : Int) + 1 + 1) = (n : Int) := by omega
  have h4 : i ≤ 4000 := by omega
  have h5 : i + 1 + 1 ≤ cap := by omega
  have h6 : i + 1 + 1 ≤ L := by omega
  have h7 : bits .or .u64 0 (n : Int) = (n : Int) := or0_u64 n (by omega)
  clear hL
  go_enter Ybaf.func11, Ybaf.ntmps11
  go_wp2_with fail
  refine wp_loop_rounds 2 ?_
  rw [rounds_succ]
  go_wp2_with fail
  rw [rounds_succ]
  go_wp2_with fail
  go_ret3
  exact ⟨by go_num, rfl⟩

set_option maxRecDepth 100000 in
theorem readLen_two (bb o cap L i n : Nat) (cons : Bool) (w : World) (hc : w.cell? ⟨bb, o + i, none⟩ = some (.int .u8 130)) (hc1 : w.cell? ⟨bb, o + (i + 1), none⟩ = some (.int .u8 ((n / 256 : Nat) : Int))) (hc2 : w.cell? ⟨bb, o + (i + 1) + 1, none⟩ = some (.int .u8 ((n % 256 : Nat) : Int)))
    (hn : n < 60000) (hL : L = i + 3 + n) (hx : L ≤ 4000) (hcap : L ≤ cap) (hn1 : 256 ≤ n) :
    Calls Ybaf.prog 11 #[.slice (some ⟨bb, o, none⟩) L cap, .int .i64 i, .bool cons] w fun e w' => e = .returned (.tuple #[.int .i64 n, .int .i64 ((i + 3 : Nat) : Int), .nilIface]) ∧ w = w' := by
  have h127 : bits .and .u8 130 127 = 2 := by decide
  have h1 : i < L := by omega
  have h2 : (L : Int) - ((i : Int) + 1) = (n : Int) + 2 := by omega
  have h3 : (L : Int) - ((i : Int) + 1 + 2) = (n : Int) := by omega
  have h4 : i ≤ 4000 := by omega
  have h5 : i + 1 + 2 ≤ cap := by omega
  have h6 : i + 1 + 2 ≤ L := by omega
  obtain ⟨hi, hhi⟩ : ∃ hi, n / 256 = hi := ⟨_, rfl⟩
  obtain ⟨lo, hlo⟩ : ∃ lo, n % 256 = lo := ⟨_, rfl⟩
  rw [hhi] at hc1
  rw [hlo] at hc2
  have h7 : n = hi * 256 + lo := by omega
  have h8 : lo < 256 := by omega
  have h9 : hi < 256 := by omega
  have h10 : bits .or .u64 0 (hi : Int) = (hi : Int) := or0_u64 hi (by omega)
  have h11 : bits .or .u64 ((hi : Int) * 256) (lo : Int) = (hi : Int) * 256 + (lo : Int) := join_u64 hi lo h9 h8
  have h12 : (n : Int) = (hi : Int) * 256 + (lo : Int) := by omega
  clear hL
  go_enter Ybaf.func11, Ybaf.ntmps11
  go_wp2_with fail
  refine wp_loop_rounds 3 ?_
  rw [rounds_succ]
  go_wp2_with fail
  rw [rounds_succ]
  go_wp2_with fail
  rw [rounds_succ]
  go_wp2_with fail
  go_ret3
  exact ⟨by go_num, rfl⟩

theorem readLen_any (bb o cap i n : Nat) (xs : List Int) (cons : Bool) (w : World) (hR : Rd w (some ⟨bb, o, none⟩) xs) (hn : n < 60000) (hL : xs.length = i + (lenPart n).length + n) (hx : xs.length ≤ 4000) (hcap : xs.length ≤ cap)
    (hat : ∀ j, j < (lenPart n).length → xs.getD (i + j) 0 = (lenPart n).getD j 0) :
    Calls Ybaf.prog 11 #[.slice (some ⟨bb, o, none⟩) xs.length cap, .int .i64 i, .bool cons] w fun e w' => e = .returned (.tuple #[.int .i64 n, .int .i64 ((i + (lenPart n).length : Nat) : Int), .nilIface]) ∧ w = w' := by
  by_cases h1 : n < 128
  · have e : lenPart n = [(n : Int)] := by simp [lenPart, h1]
    rw [e] at hL hat ⊢
    have a0 := hat 0 (by simp)
    exact readLen_short bb o cap xs.length i n cons w (hR.cell i (by simp at hL; omega) (by simpa using a0)) h1 (by simpa using hL) hx
  · by_cases h2 : n < 256
    · have e : lenPart n = [129, (n : Int)] := by simp [lenPart, h1, h2]
      rw [e] at hL hat ⊢
      have a0 := hat 0 (by simp)
      have a1 := hat 1 (by simp)
      exact readLen_one bb o cap xs.length i n cons w (hR.cell i (by simp at hL; omega) (by simpa using a0)) (hR.cell (i + 1) (by simp at hL; omega) (by simpa using a1)) h2 (by simpa using hL) hx hcap (by omega)
    · have e : lenPart n = [130, ((n / 256 : Nat) : Int), ((n % 256 : Nat) : Int)] := by simp [lenPart, h1, h2]
      rw [e] at hL hat ⊢
      have a0 := hat 0 (by simp)
      have a1 := hat 1 (by simp)
      have a2 := hat 2 (by simp)
      have c2 := hR.cell (i + 2) (by simp at hL; omega) (y := ((n % 256 : Nat) : Int)) (by simpa using a2)
      rw [show o + (i + 2) = o + (i + 1) + 1 by omega] at c2
      exact readLen_two bb o cap xs.length i n cons w (hR.cell i (by simp at hL; omega) (by simpa using a0)) (hR.cell (i + 1) (by simp at hL; omega) (by simpa using a1)) c2 hn (by simpa using hL) hx hcap (by omega)

end Go.Proofs.YbulkbxkmFmt
