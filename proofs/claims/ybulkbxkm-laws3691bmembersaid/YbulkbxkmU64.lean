/-
  Slices of uint64, and slices of such: what can be read; zzs3691bsame, (ber.OID).Equal.
-/
import Derived.Test.YbulkbxkmBytes
import Derived.Deep.QuietTactic
import Derived.BigQuiet
namespace Go.Proofs.Ybulkbxkm
open Go.RowKit

/-- The numbers ys can be read from p on. -/
def U (w : World) (p : Option Addr) (ys : List Int) : Prop :=
  ys = [] ∨ ∃ b o, p = some ⟨b, o, none⟩ ∧ ∀ j, j < ys.length → w.cell? ⟨b, o + j, none⟩ = some (.int .u64 (ys.getD j 0))

theorem U.drewN {w : World} {p : Option Addr} {ys : List Int} (h : U w p ys) (n : Nat) : U (w.drewN n) p ys := h

theorem U.keep {w w' : World} {p : Option Addr} {ys : List Int} {S : List Nat} (h : U w p ys) (hf : Fr S w w') (hn : ∀ k ∈ pb p, k ∉ S) : U w' p ys := by
  rcases h with h | ⟨b, o, rfl, hc⟩
  · exact Or.inl h
  · refine Or.inr ⟨b, o, rfl, fun j hj => ?_⟩
    have h1 := World.block_lt_of_cell? _ _ (hc j hj)
    rw [hf.cell (by exact h1) (by exact hn b (by simp [pb]))]
    exact hc j hj

theorem U.at {w : World} {p : Option Addr} {ys : List Int} (h : U w p ys) (k : Nat) (hk : k < ys.length) : ∃ b o, p = some ⟨b, o, none⟩ ∧ w.cell? ⟨b, o + k, none⟩ = some (.int .u64 (ys.getD k 0)) := by
  rcases h with h | ⟨b, o, rfl, hc⟩
  · rw [h] at hk; simp at hk
  · exact ⟨b, o, rfl, hc k hk⟩

theorem take_eq_succ {ys zs : List Int} {k : Nat} (hy : k < ys.length) (hz : k < zs.length) : ys.take (k + 1) = zs.take (k + 1) ↔ ys.take k = zs.take k ∧ ys.getD k 0 = zs.getD k 0 := by
  rw [List.take_succ_eq_append_getElem hy, List.take_succ_eq_append_getElem hz]
  simp only [List.getD, List.getElem?_eq_getElem hy, List.getElem?_eq_getElem hz, Option.getD_some]
  constructor
  · intro h
    have := List.append_inj h (by simp; omega)
    exact ⟨this.1, by simpa using this.2⟩
  · rintro ⟨h1, h2⟩
    rw [h1, h2]

set_option maxHeartbeats 400000 in
theorem same_any (p q : Option Addr) (c d : Nat) (ys zs : List Int) (w : World) (hl : ys.length ≤ 2000) (h1 : U w p ys) (h2 : U w q zs) :
    Calls Yba.prog 17 #[.slice p ys.length c, .slice q zs.length d] w fun e w' => e = .returned (.bool (decide (ys = zs))) ∧ ∃ n, w' = w.drewN n := by
  have H1 : Hid (U w p ys) := h1
  have H2 : Hid (U w q zs) := h2
  clear h1 h2
  by_cases hlen : ys.length = zs.length
  · have hne : ((ys.length : Int) != (zs.length : Int)) = false := by simp [hlen]
    have Hlen : Hid (ys.length = zs.length) := hlen
    clear hlen
    go_enter Yba.func17, Yba.ntmps17
    go_wp2
    go_loopw [5] (fun i wr => ∃ k : Nat, k ≤ ys.length ∧ i = .int .i64 k ∧ Hid (ys.take k = zs.take k) ∧ Hid (∃ n, wr = w.drewN n)) (fun i _ => ys.length - (intOf i).toNat)
    case atStart => exact ⟨0, Nat.zero_le _, rfl, by simp [Hid], 0, rfl⟩
    case round =>
      obtain ⟨k, hk, rfl, HT, n, rfl⟩ := hrel
      by_cases hlt : k < ys.length
      · have hltz : k < zs.length := by have := Hlen.out; omega
        obtain ⟨b1, o1, rfl, c1⟩ := H1.out.at k hlt
        obtain ⟨b2, o2, rfl, c2⟩ := H2.out.at k hltz
        have hs := take_eq_succ hlt hltz
        have HS : Hid (ys.take (k + 1) = zs.take (k + 1) ↔ ys.take k = zs.take k ∧ ys.getD k 0 = zs.getD k 0) := hs
        clear hs
        have HE : Hid (¬ ys.getD k 0 = zs.getD k 0 → ¬ ys = zs) := fun h e => h (by rw [e])
        generalize ys.getD k 0 = yk at *
        generalize zs.getD k 0 = zk at *
        by_cases he : yk = zk
        · have hb : (yk != zk) = false := by simp [he]
          have HE2 : Hid (yk = zk) := he
          clear he
          go_wp2
          go_quiet (fail)
          go_wp2
          go_roundw
          case rel => exact ⟨k + 1, by omega, by go_num, HS.out.2 ⟨HT.out, HE2.out⟩, _, rfl⟩
          case measure => simp [intOf]; omega
        · have hb : (yk != zk) = true := by rw [bne_iff_ne]; exact he
          have HN : Hid (decide (ys = zs) = false) := by have := HE.out he; simp [Hid, this]
          clear he HE
          go_wp2
          go_quiet (fail)
          go_wp2
          go_ret
          exact ⟨by rw [HN.out]; rfl, n + nq, by rw [World.drewN_drewN]⟩
      · have HY : Hid (decide (ys = zs) = true) := by
          have h1 := HT.out
          rw [List.take_of_length_le (by omega), List.take_of_length_le (by have := Hlen.out; omega)] at h1
          simp [Hid, h1]
        go_wp2
        go_ret
        exact ⟨by rw [HY.out]; rfl, _, rfl⟩
  · have hne : ((ys.length : Int) != (zs.length : Int)) = true := by rw [bne_iff_ne]; omega
    go_enter Yba.func17, Yba.ntmps17
    go_wp2
    go_ret
    have : decide (ys = zs) = false := by simp; intro h; exact hlen (by rw [h])
    exact ⟨by rw [this]; rfl, 0, rfl⟩

set_option maxHeartbeats 400000 in
theorem oidEqual_any (p q : Option Addr) (c d : Nat) (ys zs : List Int) (w : World) (hl : ys.length ≤ 2000) (h1 : U w p ys) (h2 : U w q zs) :
    Calls Yba.prog 24 #[.slice p ys.length c, .slice q zs.length d] w fun e w' => e = .returned (.bool (decide (ys = zs))) ∧ ∃ n, w' = w.drewN n := by
  have H1 : Hid (U w p ys) := h1
  have H2 : Hid (U w q zs) := h2
  clear h1 h2
  by_cases hlen : ys.length = zs.length
  · have hne : ((ys.length : Int) != (zs.length : Int)) = false := by simp [hlen]
    have Hlen : Hid (ys.length = zs.length) := hlen
    clear hlen
    go_enter Yba.func24, Yba.ntmps24
    go_wp2
    go_loopw [13] (fun i wr => ∃ k : Nat, k ≤ ys.length ∧ i = .int .i64 k ∧ Hid (ys.take k = zs.take k) ∧ Hid (∃ n, wr = w.drewN n)) (fun i _ => ys.length - (intOf i).toNat)
    case atStart => exact ⟨0, Nat.zero_le _, rfl, by simp [Hid], 0, rfl⟩
    case round =>
      obtain ⟨k, hk, rfl, HT, n, rfl⟩ := hrel
      by_cases hlt : k < ys.length
      · have hltz : k < zs.length := by have := Hlen.out; omega
        obtain ⟨b1, o1, rfl, c1⟩ := H1.out.at k hlt
        obtain ⟨b2, o2, rfl, c2⟩ := H2.out.at k hltz
        have hs := take_eq_succ hlt hltz
        have HS : Hid (ys.take (k + 1) = zs.take (k + 1) ↔ ys.take k = zs.take k ∧ ys.getD k 0 = zs.getD k 0) := hs
        clear hs
        have HE : Hid (¬ ys.getD k 0 = zs.getD k 0 → ¬ ys = zs) := fun h e => h (by rw [e])
        generalize ys.getD k 0 = yk at *
        generalize zs.getD k 0 = zk at *
        by_cases he : yk = zk
        · have hb : (yk != zk) = false := by simp [he]
          have HE2 : Hid (yk = zk) := he
          clear he
          go_wp2
          go_quiet (fail)
          go_wp2
          go_roundw
          case rel => exact ⟨k + 1, by omega, by go_num, HS.out.2 ⟨HT.out, HE2.out⟩, _, rfl⟩
          case measure => simp [intOf]; omega
        · have hb : (yk != zk) = true := by rw [bne_iff_ne]; exact he
          have HN : Hid (decide (ys = zs) = false) := by have := HE.out he; simp [Hid, this]
          clear he HE
          go_wp2
          go_quiet (fail)
          go_wp2
          go_ret
          exact ⟨by rw [HN.out]; rfl, n + nq, by rw [World.drewN_drewN]⟩
      · have HY : Hid (decide (ys = zs) = true) := by
          have h1 := HT.out
          rw [List.take_of_length_le (by omega), List.take_of_length_le (by have := Hlen.out; omega)] at h1
          simp [Hid, h1]
        go_wp2
        go_ret
        exact ⟨by rw [HY.out]; rfl, _, rfl⟩
  · have hne : ((ys.length : Int) != (zs.length : Int)) = true := by rw [bne_iff_ne]; omega
    go_enter Yba.func24, Yba.ntmps24
    go_wp2
    go_ret
    have : decide (ys = zs) = false := by simp; intro h; exact hlen (by rw [h])
    exact ⟨by rw [this]; rfl, 0, rfl⟩

end Go.Proofs.Ybulkbxkm
