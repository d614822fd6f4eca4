/-
  The canonical header, as plain lists of numbers.
-/
import Derived.Laws.BitsAllLaws
import Derived.Laws.BitsLemmas
namespace Go.Proofs.YbulkbxkmFmt

def dig (t j : Nat) : Nat := t / 128 ^ j % 128
def tailAt (t J m : Nat) : Int := if m < J then ((dig t (J - m) + 128 : Nat) : Int) else ((dig t 0 : Nat) : Int)
def tagTail (t J : Nat) : List Int := (List.range (J + 1)).map (tailAt t J)
def nJ (t : Nat) : Nat := if t < 128 then 0 else if t < 16384 then 1 else if t < 2097152 then 2 else if t < 268435456 then 3 else 4

theorem nJ_le (t : Nat) : nJ t ≤ 4 := by unfold nJ; repeat (first | omega | split)
theorem nJ_eq {t J : Nat} (hJ : J ≤ 4) (h1 : t < 128 ^ (J + 1)) (h2 : J = 0 ∨ 128 ^ J ≤ t) : nJ t = J := by
  unfold nJ
  match J, hJ with
  | 0, _ => simp at h1; rw [if_pos h1]
  | 1, _ => simp at h1 h2; rw [if_neg (by omega), if_pos h1]
  | 2, _ => simp at h1 h2; rw [if_neg (by omega), if_neg (by omega), if_pos h1]
  | 3, _ => simp at h1 h2; rw [if_neg (by omega), if_neg (by omega), if_neg (by omega), if_pos h1]
  | 4, _ => simp at h1 h2; rw [if_neg (by omega), if_neg (by omega), if_neg (by omega), if_neg (by omega)]
theorem nJ_lt {t : Nat} (ht : t < 4294967296) : t < 128 ^ (nJ t + 1) := by
  unfold nJ
  split
  · simpa using by omega
  · split
    · simpa using by omega
    · split
      · simpa using by omega
      · split
        · simpa using by omega
        · simp; omega

theorem tagTail_length (t J : Nat) : (tagTail t J).length = J + 1 := by simp [tagTail]
theorem tagTail_snoc (t J m : Nat) (h : m ≤ J) : (tagTail t J).take (m + 1) = (tagTail t J).take m ++ [tailAt t J m] := by
  have hl : m < (tagTail t J).length := by rw [tagTail_length]; omega
  rw [List.take_succ_eq_append_getElem hl]
  simp [tagTail]
theorem tagTail_all (t J : Nat) : (tagTail t J).take (J + 1) = tagTail t J := List.take_of_length_le (by rw [tagTail_length]; omega)

theorem tailAt_pos {t J r : Nat} (h : 0 < r) (hr : r ≤ J) : tailAt t J (J - r) = ((dig t r + 128 : Nat) : Int) := by
  unfold tailAt
  rw [if_pos (by omega), show J - (J - r) = r by omega]
theorem tailAt_zero (t J : Nat) : tailAt t J (J - 0) = ((dig t 0 : Nat) : Int) := by simp [tailAt]
theorem dig_lt (t j : Nat) : dig t j < 128 := Nat.mod_lt _ (by decide)

def groups (t k : Nat) : List Int := (List.range k).map fun j => ((dig t j : Nat) : Int)
theorem groups_length (t k : Nat) : (groups t k).length = k := by simp [groups]
theorem groups_succ (t k : Nat) : groups t (k + 1) = groups t k ++ [((dig t k : Nat) : Int)] := by simp [groups, List.range_succ]
theorem groups_at (t k j : Nat) (h : j < k) : (groups t k).getD j 0 = ((dig t j : Nat) : Int) := by simp [groups, List.getD, h]

theorem grp_step {t k x : Nat} (hx : x = t / 128 ^ k) (h0 : x ≠ 0) (ht : t < 4294967296) (hk : k ≤ 5) : k ≤ 4 ∧ x / 128 = t / 128 ^ (k + 1) ∧ 128 ^ k ≤ t ∧ x % 128 = dig t k := by
  subst hx
  have hp : 0 < 128 ^ k := Nat.pow_pos (by decide)
  have h1 : 128 ^ k ≤ t := by
    rcases Nat.lt_or_ge t (128 ^ k) with h | h
    · exact absurd (Nat.div_eq_of_lt h) h0
    · exact h
  refine ⟨?_, by rw [Nat.div_div_eq_div_mul, Nat.pow_succ], h1, rfl⟩
  rcases Nat.lt_or_ge k 5 with h | h
  · omega
  · obtain rfl : k = 5 := by omega
    simp at h1
    omega

theorem grp_done {t k : Nat} (hx : 0 = t / 128 ^ k) (ht : 31 ≤ t) (hk : k ≤ 5) (h : k = 0 ∨ 128 ^ (k - 1) ≤ t) : ∃ J, k = J + 1 ∧ J = nJ t := by
  have hp : 0 < 128 ^ k := Nat.pow_pos (by decide)
  have hlt : t < 128 ^ k := by
    rcases Nat.lt_or_ge t (128 ^ k) with h | h
    · exact h
    · have := Nat.div_pos h hp; omega
  rcases k with _ | J
  · simp at hlt; omega
  · exact ⟨J, rfl, (nJ_eq (by omega) hlt (by rcases h with h | h; omega; right; simpa using h)).symm⟩

def orB (x y : Int) : Int := bits .or .u8 x y
/-- the first octet, less the tag -/
def fst8 (c : Int) (b : Bool) : Int := if b then orB (c * 64) 32 else c * 64
def tagPart (f : Int) (t : Nat) : List Int := if t < 31 then [orB f t] else [orB f 31] ++ tagTail t (nJ t)
def lenPart (n : Nat) : List Int := if n < 128 then [(n : Int)] else if n < 256 then [129, (n : Int)] else [130, ((n / 256 : Nat) : Int), ((n % 256 : Nat) : Int)]
def hdrList (c : Int) (b : Bool) (t n : Nat) : List Int := tagPart (fst8 c b) t ++ lenPart n

theorem tagPart_length (f : Int) (t : Nat) : (tagPart f t).length ≤ 6 := by
  unfold tagPart
  split
  · simp
  · have := nJ_le t; simp [tagTail_length]; omega
theorem lenPart_length (n : Nat) : (lenPart n).length ≤ 3 := by unfold lenPart; split; simp; split <;> simp

theorem orB_comm (x y z : Int) (hx : 0 ≤ x ∧ x < 256) (hy : 0 ≤ y ∧ y < 256) (hz : 0 ≤ z ∧ z < 256) : orB (orB x y) z = orB (orB x z) y := by
  unfold orB
  have b1 : x.toNat ||| y.toNat < 256 := Nat.or_lt_two_pow (n := 8) (by omega) (by omega)
  have b2 : x.toNat ||| z.toNat < 256 := Nat.or_lt_two_pow (n := 8) (by omega) (by omega)
  rw [u8_or x y hx.1 hx.2 hy.1 hy.2, u8_or x z hx.1 hx.2 hz.1 hz.2, u8_or _ z (by omega) (by omega) hz.1 hz.2, u8_or _ y (by omega) (by omega) hy.1 hy.2]
  simp only [Int.toNat_natCast]
  rw [Nat.or_assoc, Nat.or_assoc, Nat.or_comm y.toNat]

theorem or128 (n : Nat) (h : n < 256) : bits .or .u8 (n : Int) 128 = ((n % 128 + 128 : Nat) : Int) := by
  have h2 := u8_or_nat n 128 h (by omega)
  rw [show ((128 : Nat) : Int) = 128 from rfl] at h2
  rw [h2]
  congr 1
  have : ∀ k : Fin 256, (k.val ||| 128) = k.val % 128 + 128 := by decide +kernel
  exact this ⟨n, h⟩
theorem or128' (n : Nat) (h : n < 128) : bits .or .u8 128 (n : Int) = ((n + 128 : Nat) : Int) := by
  have h2 := u8_or_nat 128 n (by omega) (by omega)
  rw [show ((128 : Nat) : Int) = 128 from rfl] at h2
  rw [h2]
  congr 1
  have : ∀ k : Fin 128, (128 ||| k.val) = k.val + 128 := by decide +kernel
  exact this ⟨n, h⟩
theorem pow7 (j : Nat) : (2 : Nat) ^ (7 * j) = 128 ^ j := by rw [Nat.pow_mul]
theorem shr7 (t j : Nat) (x : Int) (hx : x = 7 * (j : Int)) : (t : Int) / 2 ^ x.toNat = ((t / 128 ^ j : Nat) : Int) := by
  rw [show x.toNat = 7 * j by omega, ← pow7]
  norm_cast
theorem or_shr7 (t j : Nat) (x : Int) (hx : x = 7 * (j : Int)) : bits .or .u8 ((t : Int) / 2 ^ x.toNat % 256) 128 = ((dig t j + 128 : Nat) : Int) := by
  rw [shr7 t j x hx, show (((t / 128 ^ j : Nat) : Int) % 256) = ((t / 128 ^ j % 256 : Nat) : Int) by omega, or128 _ (Nat.mod_lt _ (by decide))]
  unfold dig
  congr 1
  omega
theorem and127_tag (t : Nat) : bits .and .u8 ((t : Int) % 256) 127 = ((dig t 0 : Nat) : Int) := by
  have h : bits .and .u8 ((t : Int) % 256) 127 = (t : Int) % 256 % 128 := bits_mask .u8 8 (by decide) wraps_u8 7 (by decide) _ (by omega) (by omega)
  rw [h]
  unfold dig
  simp

theorem and127_u32 (x : Int) (h0 : 0 ≤ x) (h1 : x < 4294967296) : bits .and .u32 x 127 = x % 128 :=
  bits_mask .u32 32 (by decide) (fun n a b => by rw [IntKind.wrap_u32]; omega) 7 (by decide) x h0 h1
theorem and127_u8 (x : Int) (h0 : 0 ≤ x) (h1 : x < 256) : bits .and .u8 x 127 = x % 128 :=
  bits_mask .u8 8 (by decide) wraps_u8 7 (by decide) x h0 h1
theorem and3_u8 (x : Int) (h0 : 0 ≤ x) (h1 : x ≤ 3) : bits .and .u8 x 3 = x := by
  have := bits_mask .u8 8 (by decide) wraps_u8 2 (by decide) x h0 (by omega)
  rw [show bits .and .u8 x 3 = x % 4 from this]
  omega

end Go.Proofs.YbulkbxkmFmt
