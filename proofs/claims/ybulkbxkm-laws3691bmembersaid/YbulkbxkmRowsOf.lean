/-
  Slices of slices of uint64: zzs3691bmodel, (*Endpoint).accepts, zzs3691bbig, zzs3691bkept.
-/
import Derived.Test.YbulkbxkmU64
namespace Go.Proofs.Ybulkbxkm
open Go.RowKit

def RowsOf (w : World) (p : Option Addr) (n : Nat) (P : Nat → Option Addr) (C : Nat → Nat) (Y : Nat → List Int) : Prop :=
  n = 0 ∨ ∃ b o, p = some ⟨b, o, none⟩ ∧ ∀ i, i < n → w.cell? ⟨b, o + i, none⟩ = some (.slice (P i) (Y i).length (C i)) ∧ U w (P i) (Y i)

theorem RowsOf.at {w : World} {p : Option Addr} {n : Nat} {P : Nat → Option Addr} {C : Nat → Nat} {Y : Nat → List Int} (h : RowsOf w p n P C Y) (k : Nat) (hk : k < n) :
    ∃ b o, p = some ⟨b, o, none⟩ ∧ w.cell? ⟨b, o + k, none⟩ = some (.slice (P k) (Y k).length (C k)) ∧ U w (P k) (Y k) := by
  rcases h with h | ⟨b, o, rfl, hc⟩
  · omega
  · exact ⟨b, o, rfl, hc k hk⟩

theorem RowsOf.keep {w w' : World} {p : Option Addr} {n : Nat} {P : Nat → Option Addr} {C : Nat → Nat} {Y : Nat → List Int} (h : RowsOf w p n P C Y) (hf : Fr [] w w') : RowsOf w' p n P C Y := by
  rcases h with h | ⟨b, o, rfl, hc⟩
  · exact Or.inl h
  · refine Or.inr ⟨b, o, rfl, fun i hi => ?_⟩
    obtain ⟨h1, h2⟩ := hc i hi
    have h3 := World.block_lt_of_cell? _ _ h1
    exact ⟨by rw [hf.cell (by exact h3) (by simp)]; exact h1, h2.keep hf (by simp)⟩

def acc (n : Nat) (Y : Nat → List Int) (a : List Int) : Bool := (List.range n).any fun i => decide (Y i = a)
theorem acc_yes {n : Nat} {Y : Nat → List Int} {a : List Int} {k : Nat} (hk : k < n) (h : Y k = a) : acc n Y a = true := by
  simp [acc]; exact ⟨k, hk, h⟩
theorem acc_no {n : Nat} {Y : Nat → List Int} {a : List Int} (h : ∀ j, j < n → ¬ Y j = a) : acc n Y a = false := by
  simp [acc]; exact h

set_option maxHeartbeats 400000 in
theorem model_any (p q : Option Addr) (n cap d : Nat) (P : Nat → Option Addr) (C : Nat → Nat) (Y : Nat → List Int) (zs : List Int) (w : World) (hn : n ≤ 1024) (hl : ∀ i, i < n → (Y i).length ≤ 1024) (h1 : RowsOf w p n P C Y) (h2 : U w q zs) :
    Calls Yba.prog 15 #[.slice p n cap, .slice q zs.length d] w fun e w' => e = .returned (.bool (acc n Y zs)) ∧ ∃ m, w' = w.drewN m := by
  have H1 : Hid (RowsOf w p n P C Y) := h1
  have H2 : Hid (U w q zs) := h2
  have HL : Hid (∀ i, i < n → (Y i).length ≤ 1024) := hl
  clear h1 h2 hl
  go_enter Yba.func15, Yba.ntmps15
  go_wp2_with fail
  go_loopw [5] (fun i wr => ∃ k : Nat, k ≤ n ∧ i = .int .i64 k ∧ Hid (∀ j, j < k → ¬ Y j = zs) ∧ Hid (∃ m, wr = w.drewN m)) (fun i _ => n - (intOf i).toNat)
  case atStart => exact ⟨0, Nat.zero_le _, rfl, fun j hj => by omega, 0, rfl⟩
  case round =>
    obtain ⟨k, hk, rfl, HT, HM⟩ := hrel
    by_cases hlt : k < n
    · obtain ⟨b, o, rfl, c1, u1⟩ := H1.out.at k hlt
      obtain ⟨m, hm⟩ := HM.out
      have c2 : wr.cell? ⟨b, o + k, none⟩ = some (.slice (P k) (Y k).length (C k)) := by rw [hm]; exact c1
      have U1 : Hid (U wr (P k) (Y k)) := by rw [hm]; exact u1
      have U2 : Hid (U wr q zs) := by rw [hm]; exact H2
      have hy := HL.out k hlt
      have Hm : Hid (wr = w.drewN m) := hm
      clear hm c1 u1
      go_wp2_with fail
      refine (same_any (P k) q (C k) d (Y k) zs wr (by omega) U1 U2).mono ?_
      rintro e w' ⟨rfl, m2, rfl⟩
      by_cases he : Y k = zs
      · have hd : decide (Y k = zs) = true := by simpa using he
        have HA : Hid (acc n Y zs = true) := acc_yes hlt he
        clear he
        go_wp2_with fail
        go_ret
        exact ⟨by rw [HA.out]; rfl, m + m2, by rw [Hm.out, World.drewN_drewN]⟩
      · have hd : decide (Y k = zs) = false := by simpa using he
        have HN : Hid (¬ Y k = zs) := he
        clear he
        go_wp2_with fail
        go_roundw
        case rel => exact ⟨k + 1, by omega, by go_num, fun j hj => by
          rcases Nat.lt_or_ge j k with h | h
          · exact HT.out j h
          · obtain rfl : j = k := by omega
            exact HN.out, m + m2, by rw [Hm.out, World.drewN_drewN]⟩
        case measure => simp [intOf]; omega
    · obtain ⟨m, hm⟩ := HM.out
      obtain rfl : k = n := by omega
      have HA : Hid (acc k Y zs = false) := acc_no HT.out
      have Hm : Hid (wr = w.drewN m) := hm
      clear hm
      go_wp2_with fail
      go_ret
      exact ⟨by rw [HA.out]; rfl, m, Hm.out⟩

set_option maxHeartbeats 400000 in
theorem accepts_any (eb : Nat) (p q : Option Addr) (n cap d : Nat) (P : Nat → Option Addr) (C : Nat → Nat) (Y : Nat → List Int) (zs : List Int) (w : World) (hn : n ≤ 1024) (hl : ∀ i, i < n → (Y i).length ≤ 1024) (he : w.cell? ⟨eb, 11, none⟩ = some (.slice p n cap)) (h1 : RowsOf w p n P C Y) (h2 : U w q zs) :
    Calls Yba.prog 14 #[.pointer (some ⟨eb, 0, none⟩), .slice q zs.length d] w fun e w' => e = .returned (.bool (acc n Y zs)) ∧ ∃ m, w' = w.drewN m := by
  have H1 : Hid (RowsOf w p n P C Y) := h1
  have H2 : Hid (U w q zs) := h2
  have HL : Hid (∀ i, i < n → (Y i).length ≤ 1024) := hl
  clear h1 h2 hl
  go_enter Yba.func14, Yba.ntmps14
  go_wp2_with fail
  go_loopw [12] (fun i wr => ∃ k : Nat, k ≤ n ∧ i = .int .i64 k ∧ Hid (∀ j, j < k → ¬ Y j = zs) ∧ Hid (∃ m, wr = w.drewN m)) (fun i _ => n - (intOf i).toNat)
  case atStart => exact ⟨0, Nat.zero_le _, rfl, fun j hj => by omega, 0, rfl⟩
  case round =>
    obtain ⟨k, hk, rfl, HT, HM⟩ := hrel
    by_cases hlt : k < n
    · obtain ⟨b, o, rfl, c1, u1⟩ := H1.out.at k hlt
      obtain ⟨m, hm⟩ := HM.out
      have c2 : wr.cell? ⟨b, o + k, none⟩ = some (.slice (P k) (Y k).length (C k)) := by rw [hm]; exact c1
      have U1 : Hid (U wr (P k) (Y k)) := by rw [hm]; exact u1
      have U2 : Hid (U wr q zs) := by rw [hm]; exact H2
      have hy := HL.out k hlt
      have Hm : Hid (wr = w.drewN m) := hm
      clear hm c1 u1
      go_wp2_with fail
      refine (oidEqual_any (P k) q (C k) d (Y k) zs wr (by omega) U1 U2).mono ?_
      rintro e w' ⟨rfl, m2, rfl⟩
      by_cases hh : Y k = zs
      · have hd : decide (Y k = zs) = true := by simpa using hh
        have HA : Hid (acc n Y zs = true) := acc_yes hlt hh
        clear hh
        go_wp2_with fail
        go_ret
        exact ⟨by rw [HA.out]; rfl, m + m2, by rw [Hm.out, World.drewN_drewN]⟩
      · have hd : decide (Y k = zs) = false := by simpa using hh
        have HN : Hid (¬ Y k = zs) := hh
        clear hh
        go_wp2_with fail
        go_roundw
        case rel => exact ⟨k + 1, by omega, by go_num, fun j hj => by
          rcases Nat.lt_or_ge j k with h | h
          · exact HT.out j h
          · obtain rfl : j = k := by omega
            exact HN.out, m + m2, by rw [Hm.out, World.drewN_drewN]⟩
        case measure => simp [intOf]; omega
    · obtain ⟨m, hm⟩ := HM.out
      obtain rfl : k = n := by omega
      have HA : Hid (acc k Y zs = false) := acc_no HT.out
      have Hm : Hid (wr = w.drewN m) := hm
      clear hm
      go_wp2_with fail
      go_ret
      exact ⟨by rw [HA.out]; rfl, m, Hm.out⟩


def bigB (n l : Nat) (Y : Nat → List Int) : Bool := decide (1024 < n) || decide (1024 < l) || (List.range n).any fun i => decide (1024 < (Y i).length)
theorem bigB_no {n l : Nat} {Y : Nat → List Int} (h : bigB n l Y = false) : n ≤ 1024 ∧ l ≤ 1024 ∧ ∀ i, i < n → (Y i).length ≤ 1024 := by
  simp [bigB] at h
  exact ⟨h.1.1, h.1.2, h.2⟩
theorem bigB_n {n l : Nat} {Y : Nat → List Int} (h : 1024 < n) : bigB n l Y = true := by simp [bigB, h]
theorem bigB_l {n l : Nat} {Y : Nat → List Int} (h : 1024 < l) : bigB n l Y = true := by simp [bigB, h]
theorem bigB_row {n l k : Nat} {Y : Nat → List Int} (hk : k < n) (h : 1024 < (Y k).length) : bigB n l Y = true := by
  simp only [bigB, Bool.or_eq_true, List.any_eq_true]
  right
  exact ⟨k, by simpa using hk, by simpa using h⟩
theorem bigB_false {n l : Nat} {Y : Nat → List Int} (h1 : n ≤ 1024) (h2 : l ≤ 1024) (h3 : ∀ i, i < n → (Y i).length ≤ 1024) : bigB n l Y = false := by
  simp [bigB]
  exact ⟨⟨h1, h2⟩, h3⟩

set_option maxHeartbeats 400000 in
theorem big_any (p q : Option Addr) (n cap l d : Nat) (P : Nat → Option Addr) (C : Nat → Nat) (Y : Nat → List Int) (w : World) (h1 : RowsOf w p n P C Y) :
    Calls Yba.prog 11 #[.slice p n cap, .slice q l d] w fun e w' => e = .returned (.bool (bigB n l Y)) ∧ w = w' := by
  have H1 : Hid (RowsOf w p n P C Y) := h1
  clear h1
  by_cases hn : 1024 < n
  · have HB : Hid (bigB n l Y = true) := bigB_n hn
    go_enter Yba.func11, Yba.ntmps11
    go_wp2
    go_ret
    exact ⟨by rw [HB.out]; rfl, rfl⟩
  by_cases hl : 1024 < l
  · have HB : Hid (bigB n l Y = true) := bigB_l hl
    go_enter Yba.func11, Yba.ntmps11
    go_wp2
    go_ret
    exact ⟨by rw [HB.out]; rfl, rfl⟩
  have hn' : n ≤ 1024 := by omega
  have hl' : l ≤ 1024 := by omega
  have hd1 : decide (1024 < (n : Int)) = false := by simp; omega
  have hd2 : decide (1024 < (l : Int)) = false := by simp; omega
  clear hn hl
  go_enter Yba.func11, Yba.ntmps11
  go_wp2
  go_loop [5] (fun i => ∃ k : Nat, k ≤ n ∧ i = .int .i64 k ∧ Hid (∀ j, j < k → (Y j).length ≤ 1024)) (fun i => n - (intOf i).toNat)
  case atStart => exact ⟨0, Nat.zero_le _, rfl, fun j hj => by omega⟩
  case round =>
    obtain ⟨k, hk, rfl, HT⟩ := hrel
    by_cases hlt : k < n
    · obtain ⟨b, o, rfl, c1, u1⟩ := H1.out.at k hlt
      clear u1
      by_cases hb : 1024 < (Y k).length
      · have HB : Hid (bigB n l Y = true) := bigB_row hlt hb
        go_wp2
        go_ret
        exact ⟨by rw [HB.out]; rfl, rfl⟩
      · go_wp2
        go_round
        case rel => exact ⟨k + 1, by omega, by go_num, fun j hj => by
          rcases Nat.lt_or_ge j k with h | h
          · exact HT.out j h
          · obtain rfl : j = k := by omega
            omega⟩
        case measure => simp [intOf]; omega
    · obtain rfl : k = n := by omega
      have HB : Hid (bigB k l Y = false) := bigB_false hn' hl' HT.out
      go_wp2
      go_ret
      exact ⟨by rw [HB.out]; rfl, rfl⟩

set_option maxHeartbeats 400000 in
theorem kept_any (eb : Nat) (p q : Option Addr) (n cap d : Nat) (P P2 : Nat → Option Addr) (C C2 : Nat → Nat) (Y : Nat → List Int) (w : World) (hn : n ≤ 1024) (hl : ∀ i, i < n → (Y i).length ≤ 1024)
    (he : w.cell? ⟨eb, 11, none⟩ = some (.slice p n cap)) (h1 : RowsOf w p n P C Y) (h2 : RowsOf w q n P2 C2 Y) :
    Calls Yba.prog 16 #[.pointer (some ⟨eb, 0, none⟩), .slice q n d] w fun e w' => e = .returned (.bool true) ∧ ∃ m, w' = w.drewN m := by
  have H1 : Hid (RowsOf w p n P C Y) := h1
  have H2 : Hid (RowsOf w q n P2 C2 Y) := h2
  have HL : Hid (∀ i, i < n → (Y i).length ≤ 1024) := hl
  have hne : ((n : Int) != (n : Int)) = false := by simp
  clear h1 h2 hl
  go_enter Yba.func16, Yba.ntmps16
  go_wp2_with fail
  go_loopw [5] (fun i wr => ∃ k : Nat, k ≤ n ∧ i = .int .i64 k ∧ Hid (∃ m, wr = w.drewN m)) (fun i _ => n - (intOf i).toNat)
  case atStart => exact ⟨0, Nat.zero_le _, rfl, 0, rfl⟩
  case round =>
    obtain ⟨k, hk, rfl, HM⟩ := hrel
    obtain ⟨m, hm⟩ := HM.out
    have Hm : Hid (wr = w.drewN m) := hm
    by_cases hlt : k < n
    · obtain ⟨b, o, rfl, c1, u1⟩ := H1.out.at k hlt
      obtain ⟨b2, o2, rfl, d1, v1⟩ := H2.out.at k hlt
      have e2 : wr.cell? ⟨eb, 11, none⟩ = some (.slice (some ⟨b, o, none⟩) n cap) := by rw [hm]; exact he
      have c2 : wr.cell? ⟨b, o + k, none⟩ = some (.slice (P k) (Y k).length (C k)) := by rw [hm]; exact c1
      have d2 : wr.cell? ⟨b2, o2 + k, none⟩ = some (.slice (P2 k) (Y k).length (C2 k)) := by rw [hm]; exact d1
      have U1 : Hid (U wr (P k) (Y k)) := by rw [hm]; exact u1
      have U2 : Hid (U wr (P2 k) (Y k)) := by rw [hm]; exact v1
      have hy := HL.out k hlt
      have hy2 : Hid ((Y k).length ≤ 2000) := by show _ ≤ _; omega
      have HQ : Hid (∀ j, Calls Yba.prog 17 #[.slice (P k) (Y k).length (C k), .slice (P2 k) (Y k).length (C2 k)] (wr.drewN j) fun e w' => e = .returned (.bool true) ∧ ∃ m, w' = (wr.drewN j).drewN m) := fun j => by
        have := same_any (P k) (P2 k) (C k) (C2 k) (Y k) (Y k) (wr.drewN j) hy2 (U1.out.drewN j) (U2.out.drewN j)
        simpa using this
      clear hm c1 d1 u1 v1 he
      go_wp2_with fail
      go_quiet ((go_at_call 17; exact Calls.quiet_of (HQ.out _)))
      go_wp2_with fail
      go_roundw
      case rel => exact ⟨k + 1, by omega, by go_num, m + nq, by rw [Hm.out, World.drewN_drewN]⟩
      case measure => simp [intOf]; omega
    · clear hm
      go_wp2_with fail
      go_ret
      exact ⟨rfl, m, Hm.out⟩

end Go.Proofs.Ybulkbxkm
