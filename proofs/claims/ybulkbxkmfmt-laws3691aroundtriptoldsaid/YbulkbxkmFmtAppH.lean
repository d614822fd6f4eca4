/-
  AppendHeader, onto an empty slice of a [16]byte.
-/
import Derived.Test.YbulkbxkmFmtArr
import Derived.Deep.CutRange
namespace Go.Proofs.YbulkbxkmFmt
open Go.RowKit

/-- The header's box. -/
def Box (w : World) (N : Nat) (c : Int) (b : Bool) (t n : Nat) : Prop := w.heap[N]? = some (.cells #[.int .u8 c, .bool b, .int .u32 t, .int .i64 n] 39)

theorem Box.keep {w w' : World} {N : Nat} {c : Int} {b : Bool} {t n : Nat} {S : List Nat} (h : Box w N c b t n) (hf : Fr S w w') (hn : N ∉ S) : Box w' N c b t n := Fr.keep hf h hn
theorem Box.cells {w : World} {N : Nat} {c : Int} {b : Bool} {t n : Nat} (h : Box w N c b t n) :
    w.cell? ⟨N, 0, none⟩ = some (.int .u8 c) ∧ w.cell? ⟨N, 1, none⟩ = some (.bool b) ∧ w.cell? ⟨N, 2, none⟩ = some (.int .u32 t) ∧ w.cell? ⟨N, 3, none⟩ = some (.int .i64 n) := by
  unfold Box at h
  simp [World.cell?, h]

def OutA (w : World) (g N : Nat) (c : Int) (b : Bool) (t n : Nat) (xs : List Int) (v : Value) (w' : World) : Prop :=
  ∃ zs : List Int, v = .slice (some ⟨g, 0, none⟩) zs.length 16 ∧ zs.length ≤ 6 ∧ Hid (zs = xs) ∧ Hid (Ab w' g zs) ∧ Hid (Box w' N c b t n) ∧ Hid (Fr [g] w w')

set_option maxRecDepth 100000 in
set_option maxHeartbeats 1000000 in
theorem appendHeader_any (g : Nat) (c : Int) (b : Bool) (t n : Nat) (w : World) (hg : Ab w g []) (hc0 : 0 ≤ c) (hc1 : c ≤ 3) (ht1 : t < 4294967296) (hn1 : n ≤ 60000) :
    Calls Ybaf.prog 9 #[.slice (some ⟨g, 0, none⟩) 0 16, .agg #[.int .u8 c, .bool b, .int .u32 t, .int .i64 n]] w fun e w' => ∃ zs, e = .returned (.slice (some ⟨g, 0, none⟩) zs.length 16) ∧ zs = hdrList c b t n ∧ Ab w' g zs ∧ Fr [g] w w' := by
  have Hg : Hid _ := hg
  have HB0 : Hid (Box (w.alloc (.cells #[.int .u8 c, .bool b, .int .u32 t, .int .i64 n] 39)) w.heap.size c b t n) := by
    show (w.heap.push _)[w.heap.size]? = _; simp
  have HG0 : Hid (Ab (w.alloc (.cells #[.int .u8 c, .bool b, .int .u32 t, .int .i64 n] 39)) g []) := hg.keep ((Fr.refl [] w).alloc _) (by simp)
  have HF0 : Hid (Fr [g] w (w.alloc (.cells #[.int .u8 c, .bool b, .int .u32 t, .int .i64 n] 39))) := (Fr.refl _ w).alloc _
  have HN : Hid (w.heap.size ≠ g) := by have := hg.lt; show _ ≠ _; omega
  clear hg
  go_enter Ybaf.func9, Ybaf.ntmps9
  go_upto_if 15 with fail
  generalize (w.alloc (.cells #[.int .u8 c, .bool b, .int .u32 t, .int .i64 n] 39)) = W0 at *
  generalize w.heap.size = N at *
  go_cut [5] from 9 to 17 (fun v w' => ∃ f, v = .int .u8 f ∧ 0 ≤ f ∧ f ≤ 255 ∧ Hid (f = fst8 c b) ∧ W0 = w')
  case first =>
    cases b
    · go_wp2_with fail
      go_meet
      exact ⟨_, rfl, by omega, by omega, rfl, rfl⟩
    · have hb := u8_or (c * 64) 32 (by omega) (by omega) (by omega) (by omega)
      have hl : (c * 64).toNat ||| (32 : Int).toNat < 256 := Nat.or_lt_two_pow (n := 8) (by omega) (by decide)
      have H : Hid (0 ≤ bits .or .u8 (c * 64) 32 ∧ bits .or .u8 (c * 64) 32 ≤ 255) := by rw [hb]; constructor <;> omega
      clear hb hl
      go_wp2_with fail
      go_meet
      exact ⟨_, rfl, H.out.1, H.out.2, rfl, rfl⟩
  case rest =>
    obtain ⟨f, rfl, hf0, hf1, Hf, rfl⟩ := hcut
    obtain ⟨k0, k1, k2, k3⟩ := HB0.out.cells
    go_upto_if 21 with fail
    go_cut [0] from 18 to 69 (fun v w' => OutA w g N c b t n (tagPart f t) v w')
    case first =>
      by_cases h31 : t < 31
      · have h31' : (t : Int) < 31 := by omega
        go_wp2_with (at_builtin; refine app1_arr rfl (.tmp 22) (.tmp 29) rfl g [] rfl HG0 (bits .or .u8 f t) rfl (by simp) ?_; intro w1 zs K1 K2 K3)
        go_meet
        exact ⟨zs, rfl, by rw [K1.out]; simp, by rw [K1.out]; simp [tagPart, h31, orB, Hid], K2, HB0.out.keep K3.out (by simpa using HN.out), HF0.out.trans K3.out⟩
      · have h31' : ¬ (t : Int) < 31 := by omega
        go_wp2_with (at_builtin; refine app1_arr rfl (.tmp 31) (.tmp 34) rfl g [] rfl HG0 (bits .or .u8 f 31) rfl (by simp) ?_; intro w1 os K1 K2 K3)
        have L0 : Hid (os = [orB f 31]) := by rw [K1.out]; simp [orB, Hid]
        have HB1 : Hid (Box w1 N c b t n) := HB0.out.keep K3.out (by simpa using HN.out)
        have HF1 : Hid (Fr [g] w w1) := HF0.out.trans K3.out
        clear K1 K3 k0 k1 k2 k3
        obtain ⟨k0, k1, k2, k3⟩ := HB1.out.cells
        go_loop [6] (fun s => ∃ (j : Nat) (x : Int), j ≤ 4 ∧ Hid (x = 7 * (j : Int)) ∧ 0 ≤ x ∧ x ≤ 28 ∧ s = .int .i64 x ∧ Hid (t < 128 ^ (j + 1))) (fun s => (intOf s).toNat)
        case atStart => exact ⟨4, 28, by omega, by simp [Hid], by omega, by omega, rfl, by simp [Hid]; omega⟩
        case round =>
          obtain ⟨j, x, hj, HX, hx0, hx1, rfl, HT⟩ := hrel
          by_cases hgo : 0 < x ∧ t / 128 ^ j = 0
          · obtain ⟨hx, hz⟩ := hgo
            have hz' : ((t : Int) / 2 ^ x.toNat == 0) = true := by rw [shr7 t j x HX.out, hz]; rfl
            have HZ : Hid (t < 128 ^ j) := by
              have hp : 0 < 128 ^ j := Nat.pow_pos (by decide)
              rcases Nat.lt_or_ge t (128 ^ j) with h | h
              · exact h
              · have := Nat.div_pos h hp; omega
            clear hz
            go_wp2_with fail
            obtain ⟨j, rfl⟩ : ∃ i, j = i + 1 := ⟨j - 1, by have := HX.out; omega⟩
            go_round
            case rel => exact ⟨j, x - 7, by omega, by have := HX.out; show _ = _; omega, by have := HX.out; omega, by omega, rfl, HZ⟩
            case measure => simp [intOf]; omega
          · have HJ : Hid (nJ t = j) := by
              refine nJ_eq hj HT.out ?_
              by_cases hx : 0 < x
              · right
                rcases Nat.lt_or_ge t (128 ^ j) with h | h
                · exact absurd ⟨hx, Nat.div_eq_of_lt h⟩ hgo
                · exact h
              · left; have := HX.out; omega
            have Hdone : Hid (tagPart f t = [orB f 31] ++ tagTail t j) := by
              show _ = _
              unfold tagPart
              rw [if_neg h31, HJ.out]
            by_cases hx : 0 < x
            · have hz' : ((t : Int) / 2 ^ x.toNat == 0) = false := by
                rw [shr7 t j x HX.out, beq_eq_false_iff_ne]
                have : t / 128 ^ j ≠ 0 := fun h => hgo ⟨hx, h⟩
                intro h
                exact this (Int.natCast_eq_zero.1 h)
              clear hgo
              go_wp2_with fail
              clear hz'
              go_loopw [0, 6] (fun v s wr => ∃ (r : Nat) (x : Int) (vs : List Int), r ≤ j ∧ Hid (x = 7 * (r : Int)) ∧ 0 ≤ x ∧ x ≤ 28 ∧ s = .int .i64 x ∧ v = .slice (some ⟨g, 0, none⟩) vs.length 16 ∧ vs.length ≤ 5 ∧
                  Hid (vs = [orB f 31] ++ (tagTail t j).take (j - r)) ∧ Hid (Ab wr g vs) ∧ Hid (Box wr N c b t n) ∧ Hid (Fr [g] w wr)) (fun _ s _ => (intOf s).toNat)
              case atStart => exact ⟨j, x, os, Nat.le_refl _, HX, hx0, hx1, rfl, rfl, by rw [L0.out]; simp, by rw [L0.out]; simp [Hid], K2, HB1, HF1⟩
              case round =>
                clear K2 HB1 HF1 k0 k1 k2 k3 hx HX hx0 hx1
                obtain ⟨r, y, vs, hr, HY, hy0, hy1, rfl, rfl, hvl, HV, HA, HB, HF⟩ := hrel
                obtain ⟨k0, k1, k2, k3⟩ := HB.out.cells
                by_cases hy : 0 < y
                · have hor := or_shr7 t r y HY.out
                  go_wp2_with (at_builtin; refine app1_arr rfl (.tmp 52) (.tmp 60) rfl g vs rfl HA ((dig t r + 128 : Nat) : Int) rfl (by omega) ?_; intro w2 vs2 M1 M2 M3)
                  obtain ⟨r, rfl⟩ : ∃ i, r = i + 1 := ⟨r - 1, by have := HY.out; omega⟩
                  have G1 : Hid (vs2 = [orB f 31] ++ (tagTail t j).take (j - r)) := by
                    show _ = _
                    rw [M1.out, HV.out, show j - r = (j - (r + 1)) + 1 by omega, tagTail_snoc t j (j - (r + 1)) (by omega), tailAt_pos (by omega) (by omega), List.append_assoc]
                  have G2 : vs2.length ≤ 5 := by rw [G1.out]; simp [tagTail_length]; omega
                  go_roundw
                  case rel => exact ⟨r, y - 7, vs2, by omega, by have := HY.out; show _ = _; omega, by have := HY.out; omega, by omega, rfl, rfl, G2, G1, M2, HB.out.keep M3.out (by simpa using HN.out), HF.out.trans M3.out⟩
                  case measure => simp [intOf]; omega
                · obtain rfl : r = 0 := by have := HY.out; omega
                  have hand := and127_tag t
                  go_wp2_with (at_builtin; refine app1_arr rfl (.tmp 62) (.tmp 68) rfl g vs rfl HA ((dig t 0 : Nat) : Int) rfl (by omega) ?_; intro w2 vs2 M1 M2 M3)
                  go_meet
                  have G1 : vs2 = tagPart f t := by
                    rw [Hdone.out, ← tagTail_all, M1.out, HV.out, tagTail_snoc t j j (Nat.le_refl _), List.append_assoc]
                    have := tailAt_zero t j
                    simp only [Nat.sub_zero] at this
                    rw [this, Nat.sub_zero]
                  exact ⟨vs2, rfl, by rw [M1.out]; simp; omega, G1, M2, HB.out.keep M3.out (by simpa using HN.out), HF.out.trans M3.out⟩
            · clear hgo
              go_wp2_with fail
              go_loopw [0, 6] (fun v s wr => ∃ (r : Nat) (x : Int) (vs : List Int), r ≤ j ∧ Hid (x = 7 * (r : Int)) ∧ 0 ≤ x ∧ x ≤ 28 ∧ s = .int .i64 x ∧ v = .slice (some ⟨g, 0, none⟩) vs.length 16 ∧ vs.length ≤ 5 ∧
                  Hid (vs = [orB f 31] ++ (tagTail t j).take (j - r)) ∧ Hid (Ab wr g vs) ∧ Hid (Box wr N c b t n) ∧ Hid (Fr [g] w wr)) (fun _ s _ => (intOf s).toNat)
              case atStart => exact ⟨j, x, os, Nat.le_refl _, HX, hx0, hx1, rfl, rfl, by rw [L0.out]; simp, by rw [L0.out]; simp [Hid], K2, HB1, HF1⟩
              case round =>
                clear K2 HB1 HF1 k0 k1 k2 k3 hx HX hx0 hx1
                obtain ⟨r, y, vs, hr, HY, hy0, hy1, rfl, rfl, hvl, HV, HA, HB, HF⟩ := hrel
                obtain ⟨k0, k1, k2, k3⟩ := HB.out.cells
                by_cases hy : 0 < y
                · have hor := or_shr7 t r y HY.out
                  go_wp2_with (at_builtin; refine app1_arr rfl (.tmp 52) (.tmp 60) rfl g vs rfl HA ((dig t r + 128 : Nat) : Int) rfl (by omega) ?_; intro w2 vs2 M1 M2 M3)
                  obtain ⟨r, rfl⟩ : ∃ i, r = i + 1 := ⟨r - 1, by have := HY.out; omega⟩
                  have G1 : Hid (vs2 = [orB f 31] ++ (tagTail t j).take (j - r)) := by
                    show _ = _
                    rw [M1.out, HV.out, show j - r = (j - (r + 1)) + 1 by omega, tagTail_snoc t j (j - (r + 1)) (by omega), tailAt_pos (by omega) (by omega), List.append_assoc]
                  have G2 : vs2.length ≤ 5 := by rw [G1.out]; simp [tagTail_length]; omega
                  go_roundw
                  case rel => exact ⟨r, y - 7, vs2, by omega, by have := HY.out; show _ = _; omega, by have := HY.out; omega, by omega, rfl, rfl, G2, G1, M2, HB.out.keep M3.out (by simpa using HN.out), HF.out.trans M3.out⟩
                  case measure => simp [intOf]; omega
                · obtain rfl : r = 0 := by have := HY.out; omega
                  have hand := and127_tag t
                  go_wp2_with (at_builtin; refine app1_arr rfl (.tmp 62) (.tmp 68) rfl g vs rfl HA ((dig t 0 : Nat) : Int) rfl (by omega) ?_; intro w2 vs2 M1 M2 M3)
                  go_meet
                  have G1 : vs2 = tagPart f t := by
                    rw [Hdone.out, ← tagTail_all, M1.out, HV.out, tagTail_snoc t j j (Nat.le_refl _), List.append_assoc]
                    have := tailAt_zero t j
                    simp only [Nat.sub_zero] at this
                    rw [this, Nat.sub_zero]
                  exact ⟨vs2, rfl, by rw [M1.out]; simp; omega, G1, M2, HB.out.keep M3.out (by simpa using HN.out), HF.out.trans M3.out⟩
    case rest =>
      clear k0 k1 k2 k3 HB0 HG0 HF0
      obtain ⟨vs, rfl, hvl, HV, HA, HB, HF⟩ := hcut
      obtain ⟨k0, k1, k2, k3⟩ := HB.out.cells
      by_cases h128 : n < 128
      · have hn' : (n : Int) < 128 := by omega
        go_wp2_with (at_builtin; refine app1_arr rfl (.tmp 81) (.tmp 85) rfl g vs rfl HA (n : Int) rfl (by omega) ?_; intro w2 vs2 M1 M2 M3)
        go_ret
        refine ⟨vs2, rfl, ?_, M2, HF.out.trans M3.out⟩
        rw [M1.out, HV.out, Hf.out]
        unfold hdrList lenPart
        rw [if_pos h128]
      · have hn' : ¬ (n : Int) < 128 := by omega
        by_cases h256 : n < 256
        · have hz1 : (n : Int) / 256 = 0 := by omega
          go_wp2_with fail
          refine wp_loop_rounds 1 ?_
          rw [rounds_succ]
          have ho : bits .or .u8 128 1 = 129 := by decide +kernel
          go_wp2_with (at_builtin; refine app1_arr rfl (.tmp 95) (.tmp 99) rfl g vs rfl HA 129 rfl (by omega) ?_; intro w2 vs2 M1 M2 M3)
          have HB2 : Hid (Box w2 N c b t n) := HB.out.keep M3.out (by simpa using HN.out)
          have hv2 : vs2.length ≤ 7 := by rw [M1.out]; simp; omega
          clear k0 k1 k2 k3
          obtain ⟨k0, k1, k2, k3⟩ := HB2.out.cells
          refine wp_loop_rounds 2 ?_
          rw [rounds_succ]
          go_wp2_with (at_builtin; refine app1_arr rfl (.tmp 108) (.tmp 114) rfl g vs2 rfl M2 (n : Int) rfl (by omega) ?_; intro w3 vs3 P1 P2 P3)
          rw [rounds_succ]
          go_wp2_with fail
          go_ret
          refine ⟨vs3, rfl, ?_, P2, (HF.out.trans M3.out).trans P3.out⟩
          rw [P1.out, M1.out, HV.out, Hf.out]
          unfold hdrList lenPart
          rw [if_neg h128, if_pos h256, List.append_assoc]
          rfl
        · have hz1 : ((n : Int) / 256 != 0) = true := by rw [bne_iff_ne]; omega
          have hz2 : (n : Int) / 65536 = 0 := by omega
          have hz3 : (n : Int) / 256 % 256 = (n : Int) / 256 := by omega
          go_wp2_with fail
          refine wp_loop_rounds 2 ?_
          rw [rounds_succ]
          go_wp2_with fail
          rw [rounds_succ]
          have ho : bits .or .u8 128 2 = 130 := by decide +kernel
          go_wp2_with (at_builtin; refine app1_arr rfl (.tmp 95) (.tmp 99) rfl g vs rfl HA 130 rfl (by omega) ?_; intro w2 vs2 M1 M2 M3)
          have HB2 : Hid (Box w2 N c b t n) := HB.out.keep M3.out (by simpa using HN.out)
          have hv2 : vs2.length ≤ 7 := by rw [M1.out]; simp; omega
          clear k0 k1 k2 k3
          obtain ⟨k0, k1, k2, k3⟩ := HB2.out.cells
          refine wp_loop_rounds 3 ?_
          rw [rounds_succ]
          go_wp2_with (at_builtin; refine app1_arr rfl (.tmp 108) (.tmp 114) rfl g vs2 rfl M2 ((n : Int) / 256) rfl (by omega) ?_; intro w3 vs3 P1 P2 P3)
          have HB3 : Hid (Box w3 N c b t n) := HB2.out.keep P3.out (by simpa using HN.out)
          have hv3 : vs3.length ≤ 8 := by rw [P1.out]; simp; omega
          clear k0 k1 k2 k3
          obtain ⟨k0, k1, k2, k3⟩ := HB3.out.cells
          rw [rounds_succ]
          go_wp2_with (at_builtin; refine app1_arr rfl (.tmp 108) (.tmp 114) rfl g vs3 rfl P2 ((n : Int) % 256) rfl (by omega) ?_; intro w4 vs4 R1 R2 R3)
          rw [rounds_succ]
          go_wp2_with fail
          go_ret
          refine ⟨vs4, rfl, ?_, R2, ((HF.out.trans M3.out).trans P3.out).trans R3.out⟩
          rw [R1.out, P1.out, M1.out, HV.out, Hf.out]
          unfold hdrList lenPart
          rw [if_neg h128, if_neg h256, List.append_assoc, List.append_assoc]
          simp

end Go.Proofs.YbulkbxkmFmt
