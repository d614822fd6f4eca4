/-
  zzs3691ahdr.
-/
import Derived.Test.YbulkbxkmWork
import Derived.Test.YbulkbxkmPlain
import Derived.Deep.CutRange
namespace Go.Proofs.Ybulkbxkm
open Go.RowKit

def Out (w : World) (xs : List Int) (v : Value) (w' : World) : Prop :=
  ∃ (p : Option Addr) (c : Nat) (zs : List Int), v = .slice p zs.length c ∧ zs.length ≤ 100 ∧ Hid (zs = xs) ∧ Hid (Bs w' w.heap.size p c zs) ∧ Hid (Fr [] w w')

theorem apart_step {w : World} {B : Nat} {p p2 po : Option Addr} {co N : Nat} {os : List Int} (h : p2 = p ∨ p2 = some ⟨N, 0, none⟩) (hd : ∀ y ∈ pb p, y ∉ pb po) (ho : Bs w B po co os) (hN : w.heap.size ≤ N := by omega) : ∀ y ∈ pb p2, y ∉ pb po := by
  rcases h with rfl | rfl
  · exact hd
  · intro y hy hm
    simp [pb] at hy
    have := (ho.lt y hm).2
    omega

set_option maxHeartbeats 1000000 in
theorem hdr_any (c : Int) (b : Bool) (t : Nat) (n : Nat) (w : World) (hc0 : 0 ≤ c) (hc1 : c ≤ 3) (ht1 : t < 4294967296) (hn1 : n ≤ 60000) :
    Calls Yba.prog 8 #[.int .u8 c, .bool b, .int .u32 t, .int .i64 n] w fun e w' => ∃ p cap' zs, e = .returned (.slice p zs.length cap') ∧ zs = hdrList c b t n ∧ Bs w' w.heap.size p cap' zs ∧ Fr [] w w' := by
  have hand := and3_u8 c hc0 hc1
  go_enter Yba.func8, Yba.ntmps8
  go_upto_if 21 with fail
  go_cut [9] from 18 to 24 (fun v w' => ∃ f, v = .int .u8 f ∧ 0 ≤ f ∧ f ≤ 255 ∧ Hid (f = fst8 c b) ∧ w = w')
  case first =>
    cases b
    · go_wp2_with fail
      go_meet
      exact ⟨_, rfl, by omega, by omega, rfl, rfl⟩
    · have hb := u8_or (c * 64) 32 (by omega) (by omega) (by omega) (by omega)
      have hl : (c * 64).toNat ||| (32 : Int).toNat < 256 := Nat.or_lt_two_pow (n := 8) (by omega) (by decide)
      have H : Hid (0 ≤ bits .or .u8 (c * 64) 32 ∧ bits .or .u8 (c * 64) 32 ≤ 255) := by rw [hb]; constructor <;> omega
      clear hb hl
      go_wp2_with fail
      go_meet
      exact ⟨_, rfl, H.out.1, H.out.2, rfl, rfl⟩
  case rest =>
    obtain ⟨f, rfl, hf0, hf1, Hf, rfl⟩ := hcut
    clear hand
    go_upto_if 25 with fail
    go_cut [10] from 18 to 67 (fun v w' => Out w (tagPart f t) v w')
    case first =>
      by_cases h31 : t < 31
      · have h31' : (t : Int) < 31 := by omega
        go_wp2_with (at_builtin; refine app1_wp rfl (.tmp 26) (.tmp 31) rfl w.heap.size none 0 [] rfl (Bs.nil _ _) (bits .or .u8 f t) rfl (by simp) (Nat.le_refl _) ?_; intro p1 cap1 w1 zs K1 K2 K3 K4)
        go_meet
        exact ⟨p1, cap1, zs, rfl, by rw [K1.out]; simp, by rw [K1.out]; simp [tagPart, h31, orB, Hid], K2, K3⟩
      · have h31' : ¬ (t : Int) < 31 := by omega
        go_wp2_with (at_builtin; refine app1_wp rfl (.tmp 33) (.tmp 36) rfl w.heap.size none 0 [] rfl (Bs.nil _ _) (bits .or .u8 f 31) rfl (by simp) (Nat.le_refl _) ?_; intro po co w1 os K1 K2 K3 K4)
        have L0 : Hid (os = [orB f 31]) := by rw [K1.out]; simp [orB, Hid]
        have D0 : Hid (∀ x ∈ pb po, x < w1.heap.size) := fun x hx => (K2.out.lt x hx).2
        clear K1 K4
        go_loopw [11, 12] (fun v tt wr => ∃ (k : Nat) (p : Option Addr) (cc : Nat) (us : List Int) (x : Nat), k ≤ 5 ∧ v = .slice p us.length cc ∧ tt = .int .u32 x ∧ us.length ≤ 5 ∧ x < 4294967296 ∧
            Hid (x = t / 128 ^ k) ∧ Hid (k = 0 ∨ 128 ^ (k - 1) ≤ t) ∧ Hid (us = groups t k) ∧ Hid (Bs wr w.heap.size p cc us) ∧ Hid (Bs wr w.heap.size po co os) ∧ Hid (∀ y ∈ pb p, y ∉ pb po) ∧ Hid (Fr [] w wr))
          (fun _ tt _ => (intOf tt).toNat)
        case atStart => exact ⟨0, none, 0, [], t, by omega, rfl, rfl, by simp, by omega, by simp [Hid], Or.inl rfl, rfl, Bs.nil _ _, K2, by simp [pb, Hid], K3⟩
        case round =>
          clear K2 K3
          obtain ⟨k, p, cc, us, x, hk, rfl, rfl, hul, hx, HX, HK, HU, HB, HO, HD, HF⟩ := hrel
          by_cases hx0 : x = 0
          · subst hx0
            rw [show ((0 : Nat) : Int) = 0 from rfl]
            obtain ⟨J, rfl, hJ⟩ := grp_done HX.out (by omega) hk HK.out
            have HJ : Hid (J = nJ t) := hJ
            have hJ4 : J ≤ 4 := by omega
            have hul1 : us.length = J + 1 := by rw [HU.out, groups_length]
            have HUL : Hid (us.length = J + 1) := hul1
            obtain ⟨g, rfl⟩ : ∃ g, p = some ⟨g, 0, none⟩ := by
              rcases HB.out.form with ⟨_, _, h⟩ | ⟨g, cur, h, _⟩
              · rw [h] at hul1; simp at hul1
              · exact ⟨g, h⟩
            have hus : (us.length : Int) = (J : Int) + 1 := by omega
            clear hul1 hJ hul hx HX HK hk
            obtain ⟨wo, rfl⟩ : ∃ wo : World, wo = wr := ⟨_, rfl⟩
            go_wp2_with fail
            go_loopw [10, 13] (fun v i wr => ∃ (r : Nat) (x : Int) (p : Option Addr) (cv : Nat) (vs : List Int), r ≤ J + 1 ∧ Hid (x = (r : Int) - 1) ∧ i = .int .i64 x ∧ v = .slice p vs.length cv ∧ vs.length ≤ 8 ∧
                Hid (vs = [orB f 31] ++ (tagTail t J).take (J + 1 - r)) ∧ Hid (Bs wr w.heap.size p cv vs) ∧ Hid (Bs wr w.heap.size (some ⟨g, 0, none⟩) cc us) ∧ Hid (∀ y ∈ pb p, y ∉ pb (some ⟨g, 0, none⟩)) ∧ Hid (Fr [] w wr))
              (fun _ i _ => (intOf i + 1).toNat)
            case atStart => exact ⟨J + 1, J, po, co, os, Nat.le_refl _, by simp [Hid], rfl, rfl, by rw [L0.out]; simp, by rw [L0.out]; simp [Hid], HO, HB, fun y hy hm => HD.out y hm hy, HF⟩
            case round =>
              clear HO HB HD HF L0 D0
              obtain ⟨r, x, p, cv, vs, hr, HX, rfl, rfl, hvl, HV, HP, HG, HD, HF⟩ := hrel
              rcases r with _ | r
              · obtain rfl : x = -1 := by have := HX.out; omega
                clear HX
                go_wp2_with fail
                go_meet
                refine ⟨p, cv, vs, rfl, by omega, ?_, HP, HF⟩
                show vs = _
                rw [HV.out]
                unfold tagPart
                rw [if_neg h31, ← HJ.out, Nat.sub_zero, tagTail_all]
              · obtain rfl : x = (r : Int) := by have := HX.out; omega
                clear HX
                have hlt : r < us.length := by have := HUL.out; omega
                have hcell : wr.cell? ⟨g, r, none⟩ = some (.int .u8 ((dig t r : Nat) : Int)) := by
                  rw [HG.out.cell r hlt, HU.out, groups_at t (J + 1) r (by omega)]
                have hd := dig_lt t r
                have HS : Hid (tailAt t J (J - r) = if 0 < r then ((dig t r + 128 : Nat) : Int) else ((dig t r : Nat) : Int)) := by
                  show _ = _
                  by_cases h0 : 0 < r
                  · rw [if_pos h0, tailAt_pos h0 (by omega)]
                  · obtain rfl : r = 0 := by omega
                    rw [if_neg (by omega), tailAt_zero]
                generalize dig t r = d at *
                have hB : w.heap.size ≤ wr.heap.size := HF.out.size
                by_cases h0 : 0 < r
                · have h128 := or128 d (by omega)
                  rw [Nat.mod_eq_of_lt hd] at h128
                  go_wp2_with (at_builtin; refine app1_wp rfl (.tmp 64) (.tmp 66) rfl w.heap.size p cv vs rfl HP ((d + 128 : Nat) : Int) rfl (by omega) hB ?_; intro p2 cap2 w2 vs2 K1 K2 K3 K4)
                  have G1 : Hid (vs2 = [orB f 31] ++ (tagTail t J).take (J + 1 - r)) := by
                    show _ = _
                    rw [K1.out, HV.out, show J + 1 - r = (J - r) + 1 by omega, tagTail_snoc t J (J - r) (by omega), HS.out, if_pos h0, show J + 1 - (r + 1) = J - r by omega, List.append_assoc]
                  have G2 : Hid (Bs w2 w.heap.size (some ⟨g, 0, none⟩) cc us) := HG.out.keep K3.out (fun y hy hm => HD.out y hm hy)
                  have G3 : Hid (∀ y ∈ pb p2, y ∉ pb (some ⟨g, 0, none⟩)) := apart_step K4.out HD.out HG.out
                  have G4 : Hid (Fr [] w w2) := Fr.trans' HF.out K3.out (fun y hy => Or.inr (HP.out.lt y hy).1)
                  have G5 : vs2.length ≤ 8 := by rw [G1.out]; simp [tagTail_length]; omega
                  go_roundw
                  case rel => exact ⟨r, (r : Int) - 1, p2, cap2, vs2, by omega, rfl, rfl, rfl, G5, G1, K2, G2, G3, G4⟩
                  case measure => simp [intOf]
                · obtain rfl : r = 0 := by omega
                  go_wp2_with (at_builtin; refine app1_wp rfl (.tmp 64) (.tmp 66) rfl w.heap.size p cv vs rfl HP (d : Int) rfl (by omega) hB ?_; intro p2 cap2 w2 vs2 K1 K2 K3 K4)
                  have G1 : Hid (vs2 = [orB f 31] ++ (tagTail t J).take (J + 1 - 0)) := by
                    show _ = _
                    rw [K1.out, HV.out, show J + 1 - 0 = (J - 0) + 1 by omega, tagTail_snoc t J (J - 0) (by omega), HS.out, if_neg h0, show J + 1 - (0 + 1) = J - 0 by omega, List.append_assoc]
                  have G2 : Hid (Bs w2 w.heap.size (some ⟨g, 0, none⟩) cc us) := HG.out.keep K3.out (fun y hy hm => HD.out y hm hy)
                  have G3 : Hid (∀ y ∈ pb p2, y ∉ pb (some ⟨g, 0, none⟩)) := apart_step K4.out HD.out HG.out
                  have G4 : Hid (Fr [] w w2) := Fr.trans' HF.out K3.out (fun y hy => Or.inr (HP.out.lt y hy).1)
                  have G5 : vs2.length ≤ 8 := by rw [G1.out]; simp [tagTail_length]; omega
                  go_roundw
                  case rel => exact ⟨0, -1, p2, cap2, vs2, by omega, by simp [Hid], rfl, rfl, G5, G1, K2, G2, G3, G4⟩
                  case measure => simp [intOf]
          · have hne : ((x : Int) != 0) = true := by rw [bne_iff_ne]; omega
            have h7 := and127_u32 (x : Int) (by omega) (by omega)
            have hB : w.heap.size ≤ wr.heap.size := HF.out.size
            go_wp2_with (at_builtin; refine app1_wp rfl (.tmp 41) (.tmp 45) rfl w.heap.size p cc us rfl HB ((x : Int) % 128) rfl (by omega) hB ?_; intro p2 cap2 w2 vs K1 K2 K3 K4)
            obtain ⟨e1, e2, e3, e4⟩ := grp_step HX.out hx0 ht1 hk
            have G1 : Hid (vs = groups t (k + 1)) := by rw [K1.out, HU.out, groups_succ, ← e4]; simp [Hid]
            have G2 : Hid (Bs w2 w.heap.size po co os) := HO.out.keep K3.out (fun y hy hm => HD.out y hm hy)
            have G3 : Hid (∀ y ∈ pb p2, y ∉ pb po) := apart_step K4.out HD.out HO.out
            have G4 : Hid (Fr [] w w2) := Fr.trans' HF.out K3.out (fun y hy => Or.inr (HB.out.lt y hy).1)
            go_roundw
            case rel => exact ⟨k + 1, p2, cap2, vs, x / 128, by omega, rfl, by go_num, by rw [G1.out, groups_length]; omega, by omega, e2, Or.inr (by simpa using e3), G1, K2, G2, G3, G4⟩
            case measure => simp [intOf]; omega
    case rest =>
      obtain ⟨p, cv, vs, rfl, hvl, HV, HP, HF⟩ := hcut
      have hB : w.heap.size ≤ wc.heap.size := HF.out.size
      by_cases h128 : n < 128
      · have hn' : (n : Int) < 128 := by omega
        go_wp2_with (at_builtin; refine app1_wp rfl (.tmp 70) (.tmp 73) rfl w.heap.size p cv vs rfl HP (n : Int) rfl (by omega) hB ?_; intro p2 cap2 w2 vs2 K1 K2 K3 K4)
        go_ret
        refine ⟨p2, cap2, vs2, rfl, ?_, K2, Fr.trans' HF.out K3.out (fun y hy => Or.inr (HP.out.lt y hy).1)⟩
        rw [K1.out, HV.out, Hf.out]
        unfold hdrList lenPart
        rw [if_pos h128]
      · have hn' : ¬ (n : Int) < 128 := by omega
        by_cases h256 : n < 256
        · go_wp2_with fail
          refine wp_loop_rounds 2 ?_
          rw [rounds_succ]
          go_wp2_with (at_builtin; refine app1_wp rfl (.tmp 78) (.tmp 81) rfl w.heap.size none 0 [] rfl (Bs.nil _ _) (n : Int) rfl (by simp) hB ?_; intro p1 c1 w1 l1 A1 A2 A3 A4)
          have a5 : (l1.length : Int) = 1 := by rw [A1.out]; simp
          have HP1 : Hid (Bs w1 w.heap.size p cv vs) := HP.out.keep A3.out (by simp [pb])
          have HD1 : Hid (∀ y ∈ pb p1, y ∉ pb p) := apart_step A4.out (by simp [pb]) HP.out
          have HF1 : Hid (Fr [] w w1) := Fr.trans' HF.out A3.out (by simp [pb])
          obtain ⟨g, rfl⟩ := A2.out.isRow (by omega)
          have hB1 : w.heap.size ≤ w1.heap.size := HF1.out.size
          have ho : bits .or .u8 128 1 = 129 := by decide +kernel
          clear A3 A4 HP HF hB
          rw [rounds_succ]
          go_wp2_with (at_builtin; refine app1_wp rfl (.tmp 85) (.tmp 90) rfl w.heap.size p cv vs rfl HP1 129 rfl (by omega) hB1 ?_; intro p2 c2 w2 o2 C1 C2 C3 C4)
          have hB2 : w.heap.size ≤ w2.heap.size := Nat.le_trans hB1 C3.out.size
          have HL2 : Hid (Bs w2 w.heap.size (some ⟨g, 0, none⟩) c1 l1) := A2.out.keep C3.out (fun y hy hm => HD1.out y hy hm)
          have hcell : w2.cell? ⟨g, 0, none⟩ = some (.int .u8 (n : Int)) := by
            have := HL2.out.cell 0 (by omega)
            rw [this, A1.out]; simp
          have C5 : o2.length ≤ 101 := by rw [C1.out]; simp; omega
          have hl1 : 0 < l1.length := by omega
          have HF2 : Hid (Fr [] w w2) := Fr.trans' HF1.out C3.out (fun y hy => Or.inr (HP1.out.lt y hy).1)
          clear HD1 HP1 HF1 hB1 C3 C4 HL2 A2
          refine wp_loop_rounds 2 ?_
          rw [rounds_succ]
          go_wp2_with (at_builtin; refine app1_wp rfl (.tmp 99) (.tmp 104) rfl w.heap.size p2 c2 o2 rfl C2 (n : Int) rfl (by omega) hB2 ?_; intro p3 c3 w3 o3 D1 D2 D3 D4)
          rw [rounds_succ]
          go_wp2_with fail
          go_ret
          refine ⟨p3, c3, o3, rfl, ?_, D2, Fr.trans' HF2.out D3.out (fun y hy => Or.inr (C2.out.lt y hy).1)⟩
          rw [D1.out, C1.out, HV.out, Hf.out]
          unfold hdrList lenPart
          rw [if_neg h128, if_pos h256, List.append_assoc]
          rfl
        · go_wp2_with fail
          refine wp_loop_rounds 3 ?_
          rw [rounds_succ]
          have hn256 : ((n : Int) / 256) % 256 = (n : Int) / 256 := by omega
          go_wp2_with (at_builtin; refine app1_wp rfl (.tmp 78) (.tmp 81) rfl w.heap.size none 0 [] rfl (Bs.nil _ _) ((n : Int) % 256) rfl (by simp) hB ?_; intro p1 c1 w1 l1 A1 A2 A3 A4)
          have a5 : l1.length ≤ 1 := by rw [A1.out]; simp
          have HP1 : Hid (Bs w1 w.heap.size p cv vs) := HP.out.keep A3.out (by simp [pb])
          have HD1 : Hid (∀ y ∈ pb p1, y ∉ pb p) := apart_step A4.out (by simp [pb]) HP.out
          have HF1 : Hid (Fr [] w w1) := Fr.trans' HF.out A3.out (by simp [pb])
          have hB1 : w.heap.size ≤ w1.heap.size := HF1.out.size
          clear A3 A4 HP HF hB
          rw [rounds_succ]
          go_wp2_with (at_builtin; refine app1_wp rfl (.tmp 78) (.tmp 81) rfl w.heap.size p1 c1 l1 rfl A2 ((n : Int) / 256) rfl (by omega) hB1 ?_; intro p2 c2 w2 l2 E1 E2 E3 E4)
          have a6 : (l2.length : Int) = 2 := by rw [E1.out, A1.out]; simp
          have HP2 : Hid (Bs w2 w.heap.size p cv vs) := HP1.out.keep E3.out (fun y hy hm => HD1.out y hm hy)
          have HD2 : Hid (∀ y ∈ pb p2, y ∉ pb p) := apart_step E4.out HD1.out HP1.out
          have HF2 : Hid (Fr [] w w2) := Fr.trans' HF1.out E3.out (fun y hy => Or.inr (A2.out.lt y hy).1)
          have hB2 : w.heap.size ≤ w2.heap.size := HF2.out.size
          obtain ⟨g, rfl⟩ := E2.out.isRow (by omega)
          have ho : bits .or .u8 128 2 = 130 := by decide +kernel
          clear E3 E4 HP1 HD1 HF1 hB1 A2
          rw [rounds_succ]
          go_wp2_with (at_builtin; refine app1_wp rfl (.tmp 85) (.tmp 90) rfl w.heap.size p cv vs rfl HP2 130 rfl (by omega) hB2 ?_; intro p3 c3 w3 o3 C1 C2 C3 C4)
          have hB3 : w.heap.size ≤ w3.heap.size := Nat.le_trans hB2 C3.out.size
          have HL3 : Hid (Bs w3 w.heap.size (some ⟨g, 0, none⟩) c2 l2) := E2.out.keep C3.out (fun y hy hm => HD2.out y hy hm)
          have HD3 : Hid (∀ y ∈ pb p3, y ∉ pb (some ⟨g, 0, none⟩)) := apart_step C4.out (fun y hy hm => HD2.out y hm hy) E2.out
          have hcell1 : w3.cell? ⟨g, 1, none⟩ = some (.int .u8 ((n : Int) / 256)) := by
            have := HL3.out.cell 1 (by omega)
            rw [this, E1.out, A1.out]; simp
          have C5 : o3.length ≤ 101 := by rw [C1.out]; simp; omega
          have HF3 : Hid (Fr [] w w3) := Fr.trans' HF2.out C3.out (fun y hy => Or.inr (HP2.out.lt y hy).1)
          clear HD2 HP2 HF2 hB2 C3 C4 E2
          refine wp_loop_rounds 3 ?_
          rw [rounds_succ]
          go_wp2_with (at_builtin; refine app1_wp rfl (.tmp 99) (.tmp 104) rfl w.heap.size p3 c3 o3 rfl C2 ((n : Int) / 256) rfl (by omega) hB3 ?_; intro p4 c4 w4 o4 D1 D2 D3 D4)
          have hB4 : w.heap.size ≤ w4.heap.size := Nat.le_trans hB3 D3.out.size
          have HL4 : Hid (Bs w4 w.heap.size (some ⟨g, 0, none⟩) c2 l2) := HL3.out.keep D3.out (fun y hy hm => HD3.out y hm hy)
          have hcell0 : w4.cell? ⟨g, 0, none⟩ = some (.int .u8 ((n : Int) % 256)) := by
            have := HL4.out.cell 0 (by omega)
            rw [this, E1.out, A1.out]; simp
          have D5 : o4.length ≤ 102 := by rw [D1.out]; simp; omega
          have HF4 : Hid (Fr [] w w4) := Fr.trans' HF3.out D3.out (fun y hy => Or.inr (C2.out.lt y hy).1)
          clear HF3 HL3 HD3 hB3 hcell1 D3 D4 C2
          rw [rounds_succ]
          go_wp2_with (at_builtin; refine app1_wp rfl (.tmp 99) (.tmp 104) rfl w.heap.size p4 c4 o4 rfl D2 ((n : Int) % 256) rfl (by omega) hB4 ?_; intro p5 c5 w5 o5 G1 G2 G3 G4)
          rw [rounds_succ]
          go_wp2_with fail
          go_ret
          refine ⟨p5, c5, o5, rfl, ?_, G2, Fr.trans' HF4.out G3.out (fun y hy => Or.inr (D2.out.lt y hy).1)⟩
          rw [G1.out, D1.out, C1.out, HV.out, Hf.out]
          unfold hdrList lenPart
          rw [if_neg h128, if_neg h256, List.append_assoc, List.append_assoc]
          simp

end Go.Proofs.Ybulkbxkm
