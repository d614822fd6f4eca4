/-
  InsertHeader.
-/
import Derived.Test.YbulkbxkmFmtCopy
import Derived.Deep.RegionLaw
namespace Go.Proofs.YbulkbxkmFmt
open Go.RowKit

theorem hdrList_length (c : Int) (b : Bool) (t n : Nat) : (hdrList c b t n).length ≤ 9 := by
  have h1 := tagPart_length (fst8 c b) t
  have h2 := lenPart_length n
  unfold hdrList
  simp
  omega

theorem hdrList_pos (c : Int) (b : Bool) (t n : Nat) : 0 < (hdrList c b t n).length := by
  unfold hdrList tagPart
  split <;> simp

def W3 (w : World) (c : Int) (b : Bool) (t n : Nat) : World :=
  ((w.alloc (.cells #[.int .u8 c, .bool b, .int .u32 t] 29)).alloc (.cells #[.int .u8 c, .bool b, .int .u32 t, .int .i64 n] 39)).alloc
    (.cells #[.int .u8 0, .int .u8 0, .int .u8 0, .int .u8 0, .int .u8 0, .int .u8 0, .int .u8 0, .int .u8 0, .int .u8 0, .int .u8 0, .int .u8 0, .int .u8 0, .int .u8 0, .int .u8 0, .int .u8 0, .int .u8 0] 40)

theorem W3_ab (w : World) (c : Int) (b : Bool) (t n : Nat) : Ab (W3 w c b t n) (w.heap.size + 2) [] := by
  refine ⟨#[.int .u8 0, .int .u8 0, .int .u8 0, .int .u8 0, .int .u8 0, .int .u8 0, .int .u8 0, .int .u8 0, .int .u8 0, .int .u8 0, .int .u8 0, .int .u8 0, .int .u8 0, .int .u8 0, .int .u8 0, .int .u8 0], ?_, rfl, by simp, rfl⟩
  show (((w.heap.push _).push _).push _)[w.heap.size + 2]? = _
  rw [Array.getElem?_push, if_pos (by simp)]

theorem W3_cells (w : World) (c : Int) (b : Bool) (t n : Nat) :
    (W3 w c b t n).cell? ⟨w.heap.size + 1, 0, none⟩ = some (.int .u8 c) ∧ (W3 w c b t n).cell? ⟨w.heap.size + 1, 1, none⟩ = some (.bool b) ∧ (W3 w c b t n).cell? ⟨w.heap.size + 1, 2, none⟩ = some (.int .u32 t) ∧ (W3 w c b t n).cell? ⟨w.heap.size + 1, 3, none⟩ = some (.int .i64 n) := by
  have h : (W3 w c b t n).heap[w.heap.size + 1]? = some (.cells #[.int .u8 c, .bool b, .int .u32 t, .int .i64 n] 39) := by
    show (((w.heap.push _).push _).push _)[w.heap.size + 1]? = _
    rw [Array.getElem?_push, if_neg (by simp), Array.getElem?_push, if_pos (by simp)]
  simp [World.cell?, h]

set_option maxRecDepth 100000 in
set_option maxHeartbeats 1000000 in
theorem insert_long (B : Nat) (p : Option Addr) (cap : Nat) (xs : List Int) (s : Nat) (c : Int) (b : Bool) (t n : Nat) (w : World) (hown : Bs w B p cap xs) (hB : B ≤ w.heap.size) (hs : s + n = xs.length) (hx : xs.length ≤ 2000) (hc0 : 0 ≤ c) (hc1 : c ≤ 3) (ht1 : t < 4294967296)
    (hlong : ¬ (t < 31 ∧ n < 128)) :
    Calls Ybaf.prog 6 #[.slice p xs.length cap, .int .i64 s, .agg #[.int .u8 c, .bool b, .int .u32 t]] w fun e w' => ∃ p' cap' zs, e = .returned (.slice p' zs.length cap') ∧ zs = xs.take s ++ hdrList c b t n ++ xs.drop s ∧ Bs w' B p' cap' zs ∧ Fr (pb p) w w' := by
  have Hown : Hid (Bs w B p cap xs) := hown
  have Hs : Hid (s + n = xs.length) := hs
  have hn6 : n ≤ 60000 := by omega
  have hsn : (xs.length : Int) - (s : Int) = (n : Int) := by omega
  clear hown hs
  have HF3 : Hid (Fr [] w (W3 w c b t n)) := (((Fr.refl _ w).alloc _).alloc _).alloc _
  have HS3 : Hid (Bs (W3 w c b t n) B p cap xs) := Hown.out.keep HF3.out (by simp)
  have HA3 : Hid (Ab (W3 w c b t n) (w.heap.size + 2) []) := W3_ab w c b t n
  obtain ⟨l0, l1, l2, l3⟩ := W3_cells w c b t n
  have hlB : ∀ y ∈ pb p, y < w.heap.size := fun y hy => (Hown.out.lt y hy).2
  have HLB : Hid (∀ y ∈ pb p, y < w.heap.size) := hlB
  clear hlB
  by_cases h31 : (t : Int) < 31
  · have h128 : ¬ (n : Int) < 128 := by omega
    go_enter Ybaf.func6, Ybaf.ntmps6
    go_wp2_with fail
    change Code.wp _ _ _ _ (W3 w c b t n)
    generalize W3 w c b t n = W at *
    generalize hN : w.heap.size = N at *
    have HN : Hid (w.heap.size = N) := hN
    clear hN
    have HA4 : Hid (Ab W.drew (N + 1 + 1) []) := HA3
    go_cut [9] from 65 to 67 (fun v w' => ∃ hs : List Int, v = .slice (some ⟨N + 1 + 1, 0, none⟩) hs.length 16 ∧ hs.length ≤ 9 ∧ Hid (hs = hdrList c b t n) ∧ Hid (Ab w' (N + 1 + 1) hs) ∧ Hid (Bs w' B p cap xs) ∧ Hid (Fr [] w w'))
    case first =>
      go_region_with (go_at_call 9; refine (appendHeader_any (N + 1 + 1) c b t n _ HA4 hc0 hc1 ht1 hn6).mono ?_; rintro e w' ⟨zs, rfl, z1, z2, z3⟩; have Z1 : Hid (zs = hdrList c b t n) := z1; clear z1)
      go_wp2_with fail
      go_meet
      refine ⟨zs, rfl, by rw [Z1.out]; exact hdrList_length c b t n, Z1, z2, ?_, ?_⟩
      · exact (show Bs W.drew B p cap xs from HS3.out).keep z3 (fun y hy hm => by have h1 := HLB.out y hy; simp at hm; omega)
      · exact Fr.trans' HF3.out.drew z3 (fun y hy => Or.inr (by simp at hy; have := HN.out; omega))
    case rest =>
      clear HF3 HS3 HA3 HA4 l0 l1 l2 l3
      obtain ⟨hs, rfl, hh9, HH, HA, HS, HF⟩ := hcut
      have HB : Hid (B ≤ wc.heap.size) := by have h1 := HF.out.size; have h2 := HN.out; show _ ≤ _; omega
      have HR : Hid (Rd wc (some ⟨N + 1 + 1, 0, none⟩) hs) := HA.out.rd
      have HL : Hid (xs.length + hs.length ≤ 1000000) := by show _ ≤ _; omega
      go_wp2_with (at_builtin; refine app_wp rfl (.tmp 68) (.tmp 69) rfl B p cap xs rfl HS (some ⟨N + 1 + 1, 0, none⟩) hs.length 16 hs rfl rfl (by simp) HR HL HB ?_; intro p2 cap2 w2 zs Q1 Q2 Q3 Q4)
      have hzl : zs.length = s + n + hs.length := by rw [Q1.out]; have := Hs.out; simp; omega
      have HZL : Hid (zs.length = s + n + hs.length) := hzl
      have hh1 : 0 < hs.length := by rw [HH.out]; exact hdrList_pos c b t n
      obtain ⟨g2, rfl⟩ := Q2.out.isRow (by omega)
      obtain ⟨g3, cur, e3, hg3, hcur, hcap, hm2, hcs, htk⟩ : ∃ g3 cur, some (⟨g2, 0, none⟩ : Addr) = some ⟨g3, 0, none⟩ ∧ B ≤ g3 ∧ w2.heap[g3]? = some (.cells cur 5) ∧ zs.length ≤ cap2 ∧ cap2 ≤ maxLen ∧ cur.size = cap2 ∧ cur.toList.take zs.length = zs.map (Value.int .u8) := by
        rcases Q2.out.form with ⟨h, _⟩ | h
        · cases h
        · exact h
      cases e3
      obtain ⟨q, hq⟩ : ∃ q, q = s + hs.length := ⟨_, rfl⟩
      obtain ⟨r, hr⟩ : ∃ r, r = s + n := ⟨_, rfl⟩
      obtain ⟨cl, hcl⟩ : ∃ cl, cl = cur.toList := ⟨_, rfl⟩
      obtain ⟨cs, hcs2⟩ : ∃ cs : List Value, cs = (xs.drop s).map (Value.int .u8) := ⟨_, rfl⟩
      have hw1 : IntKind.i64.wrap ((s : Int) + (hs.length : Int)) = (q : Int) := by rw [IntKind.wrap_i64]; omega
      have hw2 : IntKind.i64.wrap ((zs.length : Int) - (hs.length : Int)) = (r : Int) := by rw [IntKind.wrap_i64]; omega
      have hq1 : (q : Int) ≤ (zs.length : Int) := by omega
      have hr1 : (s : Int) ≤ (r : Int) := by omega
      have hr2 : (r : Int) ≤ (cap2 : Int) := by omega
      have hq2 : q ≤ zs.length := by omega
      have hr3 : s ≤ r := by omega
      have hr4 : r ≤ cap2 := by omega
      have hne : ¬ cap2 = s := by omega
      have hcsl : cs.length = n := by rw [hcs2]; have := Hs.out; simp; omega
      have HG : Hid (w2.drew.heap[g2]? = some (.cells cl.toArray 5)) := by rw [hcl]; show w2.heap[g2]? = _; simpa using hcur
      have HC : Hid (∀ j v, cs[j]? = some v → w2.drew.cell? ((⟨g2, s, none⟩ : Addr).add j) = some v) := by
        intro j v hj
        have hjn : j < n := by
          rcases Nat.lt_or_ge j n with h | h
          · exact h
          · rw [List.getElem?_eq_none (by omega)] at hj; cases hj
        rw [addr_plain]
        show w2.cell? _ = _
        rw [Q2.out.cell (s + j) (by omega), ← hj, hcs2, Q1.out]
        have : s + j < xs.length := by have := Hs.out; omega
        simp [List.getD, List.getElem?_append_left this, this]
      have HO : Hid (∀ v ∈ cs, v.oneCell' = true) := by rw [hcs2]; exact u8s_oneCell _
      have HFit : Hid (q + cs.length ≤ cl.length) := by rw [hcl]; show _ ≤ _; simp; omega
      have Hq : Hid (q = s + hs.length) := hq
      have Hr : Hid (r = s + n) := hr
      have Hcl : Hid (cl = cur.toList) := hcl
      have Hcs2 : Hid (cs = (xs.drop s).map (Value.int .u8)) := hcs2
      have Hcsl : Hid (cs.length = n) := hcsl
      have Htk : Hid (cur.toList.take zs.length = zs.map (Value.int .u8)) := htk
      have Hcur : Hid (cur.size = cap2) := hcs
      have HA2 : Hid (Ab w2 (N + 1 + 1) hs) := HA.out.keep Q3.out (fun hm => by have := HLB.out _ hm; omega)
      have Hg2 : Hid (g2 ≠ N + 1 + 1) := by
        have h1 := HA.out.lt
        rcases Q4.out with h | h
        · have := HLB.out g2 (by rw [← h]; simp [pb])
          show _ ≠ _
          omega
        · cases h
          show _ ≠ _
          omega
      have HF2 : Hid (Fr (pb p) w w2) := (HF.out.mono (by simp)).trans Q3.out
      have HFg : Hid (∀ x ∈ [g2], x ∈ pb p ∨ w.heap.size ≤ x) := by
        intro x hx
        simp at hx
        subst hx
        rcases Q4.out with h | h
        · left; rw [← h]; simp [pb]
        · right; cases h; exact HF.out.size
      have hs2 : s ≤ zs.length := by omega
      clear hq hr hcl hcs2 hcsl htk hcs hcur hzl HA HF HR HL HB HS
      go_cut [] from 71 to 85 (fun w' => Hid (w'.heap[g2]? = some (.cells (splice cl q cs).toArray 5)) ∧ Hid (Fr [g2] w2 w'))
      case first =>
        by_cases hcq : cap2 = q
        · subst hcq
          have HN0 : Hid (cs = []) := List.eq_nil_of_length_eq_zero (by have h1 := Hq.out; have h2 := HZL.out; have h3 := Hcsl.out; omega)
          have HM : Hid (cs.length = Nat.min (r - s) 0) := by rw [HN0.out]; simp [Hid]
          have HP : Hid (0 < cs.length → (some ⟨g2, 0, none⟩ : Option Addr) = some ⟨g2, cap2, none⟩ ∧ ∃ ad, (some ⟨g2, s, none⟩ : Option Addr) = some ad ∧ ∀ j v, cs[j]? = some v → w2.drew.cell? (ad.add j) = some v) := by
            intro h; rw [HN0.out] at h; simp at h
          go_region_law (refine step_copy_fr rfl (.tmp 76) (.tmp 84) rfl (some ⟨g2, 0, none⟩) (some ⟨g2, s, none⟩) 0 0 (r - s) (cap2 - s) (by go_simp) (by go_simp) g2 cap2 cl HG cs HM HP HFit HO ?_; intro w3 U1 U2)
          go_wp2_with fail
          go_meet
          exact ⟨U1, ⟨U2.out.os, U2.out.tape, U2.out.output, U2.out.size, U2.out.block⟩⟩
        · have HM : Hid (cs.length = Nat.min (r - s) (zs.length - q)) := by
            show _ = _
            have h1 := Hq.out; have h2 := HZL.out; have h3 := Hcsl.out; have h4 := Hr.out
            rw [h3, h4, h1, h2]
            show n = min _ _
            omega
          have HP : Hid (0 < cs.length → (some ⟨g2, q, none⟩ : Option Addr) = some ⟨g2, q, none⟩ ∧ ∃ ad, (some ⟨g2, s, none⟩ : Option Addr) = some ad ∧ ∀ j v, cs[j]? = some v → w2.drew.cell? (ad.add j) = some v) := fun _ => ⟨rfl, _, rfl, HC⟩
          go_region_law (refine step_copy_fr rfl (.tmp 76) (.tmp 84) rfl (some ⟨g2, q, none⟩) (some ⟨g2, s, none⟩) (zs.length - q) (cap2 - q) (r - s) (cap2 - s) (by go_simp) (by go_simp) g2 q cl HG cs HM HP HFit HO ?_; intro w3 U1 U2)
          go_wp2_with fail
          go_meet
          exact ⟨U1, ⟨U2.out.os, U2.out.tape, U2.out.output, U2.out.size, U2.out.block⟩⟩
      case rest =>
        obtain ⟨V1, V2⟩ := hcut
        have HA3 : Hid (Ab wc (N + 1 + 1) hs) := HA2.out.keep V2.out (by have := Hg2.out; simp; omega)
        obtain ⟨hv, hhv⟩ : ∃ hv : List Value, hv = hs.map (Value.int .u8) := ⟨_, rfl⟩
        have Hhv : Hid (hv = hs.map (Value.int .u8)) := hhv
        have HM : Hid (hv.length = Nat.min hs.length (zs.length - s)) := by
          rw [hhv]; show _ = min _ _; have := HZL.out; simp; omega
        have HP : Hid (0 < hv.length → (some ⟨g2, s, none⟩ : Option Addr) = some ⟨g2, s, none⟩ ∧ ∃ ad, (some ⟨N + 1 + 1, 0, none⟩ : Option Addr) = some ad ∧ ∀ j v, hv[j]? = some v → wc.cell? (ad.add j) = some v) := by
          refine fun _ => ⟨rfl, _, rfl, fun j v hj => ?_⟩
          rcases HA3.out.rd with h | ⟨b', o', h, hc⟩
          · rw [h] at hh1; simp at hh1
          · cases h
            have hjl : j < hs.length := by
              rcases Nat.lt_or_ge j hs.length with h | h
              · exact h
              · rw [hhv, List.getElem?_eq_none (by simpa using h)] at hj; cases hj
            rw [addr_plain, hc j hjl, ← hj, hhv]
            simp [List.getD, hjl]
        have HO2 : Hid (∀ v ∈ hv, v.oneCell' = true) := by rw [hhv]; exact u8s_oneCell _
        have HFit2 : Hid (s + hv.length ≤ (splice cl q cs).length) := by
          rw [length_splice _ _ _ HFit.out, hhv]
          have h1 := Hcur.out; have h2 := HZL.out
          rw [Hcl.out]; show _ ≤ _; simp; omega
        clear hhv
        go_wp2_with (refine copy_wp rfl (.tmp 88) (.tmp 89) rfl (some ⟨g2, s, none⟩) (some ⟨N + 1 + 1, 0, none⟩) (zs.length - s) (cap2 - s) hs.length 16 rfl rfl g2 s (splice cl q cs) V1 hv HM HP HFit2 HO2 ?_; intro w4 X1 X2)
        go_ret
        have hres : (xs.take s ++ hs ++ xs.drop s).length = zs.length := by have h1 := HZL.out; have h2 := Hs.out; simp; omega
        refine ⟨some ⟨g2, 0, none⟩, cap2, xs.take s ++ hs ++ xs.drop s, by rw [hres]; rfl, by rw [HH.out]; simp, ?_, ?_⟩
        · have hspl := splice_ins cl (xs.map (Value.int .u8)) (hs.map (Value.int .u8)) s (by have := Hs.out; simp; omega)
            (by rw [Hcl.out, ← List.map_append, ← Q1.out, List.length_map, List.length_map, show xs.length + hs.length = zs.length by rw [Q1.out]; simp]; exact Htk.out)
            (by have h1 := Hcur.out; have h2 := HZL.out; have h3 := Hs.out; rw [Hcl.out]; simp; omega)
          refine Bs.mk hg3 X1.out (by rw [hres]; exact hcap) hm2 ?_ ?_
          · simp
            rw [length_splice _ _ _ HFit2.out, length_splice _ _ _ HFit.out, Hcl.out]
            simpa using Hcur.out
          · rw [hres, List.toList_toArray, Hhv.out, Hcs2.out, Hq.out]
            have h3 := Hs.out
            have h2 := HZL.out
            simp only [List.length_map] at hspl
            rw [show zs.length = xs.length + hs.length by omega, List.map_drop, hspl]
            simp
        · exact (HF2.out.trans' V2.out HFg.out).trans' X2.out HFg.out
  · go_enter Ybaf.func6, Ybaf.ntmps6
    go_wp2_with fail
    change Code.wp _ _ _ _ (W3 w c b t n)
    generalize W3 w c b t n = W at *
    generalize hN : w.heap.size = N at *
    have HN : Hid (w.heap.size = N) := hN
    clear hN
    have HA4 : Hid (Ab W.drew (N + 1 + 1) []) := HA3
    go_cut [9] from 65 to 67 (fun v w' => ∃ hs : List Int, v = .slice (some ⟨N + 1 + 1, 0, none⟩) hs.length 16 ∧ hs.length ≤ 9 ∧ Hid (hs = hdrList c b t n) ∧ Hid (Ab w' (N + 1 + 1) hs) ∧ Hid (Bs w' B p cap xs) ∧ Hid (Fr [] w w'))
    case first =>
      go_region_with (go_at_call 9; refine (appendHeader_any (N + 1 + 1) c b t n _ HA4 hc0 hc1 ht1 hn6).mono ?_; rintro e w' ⟨zs, rfl, z1, z2, z3⟩; have Z1 : Hid (zs = hdrList c b t n) := z1; clear z1)
      go_wp2_with fail
      go_meet
      refine ⟨zs, rfl, by rw [Z1.out]; exact hdrList_length c b t n, Z1, z2, ?_, ?_⟩
      · exact (show Bs W.drew B p cap xs from HS3.out).keep z3 (fun y hy hm => by have h1 := HLB.out y hy; simp at hm; omega)
      · exact Fr.trans' HF3.out.drew z3 (fun y hy => Or.inr (by simp at hy; have := HN.out; omega))
    case rest =>
      clear HF3 HS3 HA3 HA4 l0 l1 l2 l3
      obtain ⟨hs, rfl, hh9, HH, HA, HS, HF⟩ := hcut
      have HB : Hid (B ≤ wc.heap.size) := by have h1 := HF.out.size; have h2 := HN.out; show _ ≤ _; omega
      have HR : Hid (Rd wc (some ⟨N + 1 + 1, 0, none⟩) hs) := HA.out.rd
      have HL : Hid (xs.length + hs.length ≤ 1000000) := by show _ ≤ _; omega
      go_wp2_with (at_builtin; refine app_wp rfl (.tmp 68) (.tmp 69) rfl B p cap xs rfl HS (some ⟨N + 1 + 1, 0, none⟩) hs.length 16 hs rfl rfl (by simp) HR HL HB ?_; intro p2 cap2 w2 zs Q1 Q2 Q3 Q4)
      have hzl : zs.length = s + n + hs.length := by rw [Q1.out]; have := Hs.out; simp; omega
      have HZL : Hid (zs.length = s + n + hs.length) := hzl
      have hh1 : 0 < hs.length := by rw [HH.out]; exact hdrList_pos c b t n
      obtain ⟨g2, rfl⟩ := Q2.out.isRow (by omega)
      obtain ⟨g3, cur, e3, hg3, hcur, hcap, hm2, hcs, htk⟩ : ∃ g3 cur, some (⟨g2, 0, none⟩ : Addr) = some ⟨g3, 0, none⟩ ∧ B ≤ g3 ∧ w2.heap[g3]? = some (.cells cur 5) ∧ zs.length ≤ cap2 ∧ cap2 ≤ maxLen ∧ cur.size = cap2 ∧ cur.toList.take zs.length = zs.map (Value.int .u8) := by
        rcases Q2.out.form with ⟨h, _⟩ | h
        · cases h
        · exact h
      cases e3
      obtain ⟨q, hq⟩ : ∃ q, q = s + hs.length := ⟨_, rfl⟩
      obtain ⟨r, hr⟩ : ∃ r, r = s + n := ⟨_, rfl⟩
      obtain ⟨cl, hcl⟩ : ∃ cl, cl = cur.toList := ⟨_, rfl⟩
      obtain ⟨cs, hcs2⟩ : ∃ cs : List Value, cs = (xs.drop s).map (Value.int .u8) := ⟨_, rfl⟩
      have hw1 : IntKind.i64.wrap ((s : Int) + (hs.length : Int)) = (q : Int) := by rw [IntKind.wrap_i64]; omega
      have hw2 : IntKind.i64.wrap ((zs.length : Int) - (hs.length : Int)) = (r : Int) := by rw [IntKind.wrap_i64]; omega
      have hq1 : (q : Int) ≤ (zs.length : Int) := by omega
      have hr1 : (s : Int) ≤ (r : Int) := by omega
      have hr2 : (r : Int) ≤ (cap2 : Int) := by omega
      have hq2 : q ≤ zs.length := by omega
      have hr3 : s ≤ r := by omega
      have hr4 : r ≤ cap2 := by omega
      have hne : ¬ cap2 = s := by omega
      have hcsl : cs.length = n := by rw [hcs2]; have := Hs.out; simp; omega
      have HG : Hid (w2.drew.heap[g2]? = some (.cells cl.toArray 5)) := by rw [hcl]; show w2.heap[g2]? = _; simpa using hcur
      have HC : Hid (∀ j v, cs[j]? = some v → w2.drew.cell? ((⟨g2, s, none⟩ : Addr).add j) = some v) := by
        intro j v hj
        have hjn : j < n := by
          rcases Nat.lt_or_ge j n with h | h
          · exact h
          · rw [List.getElem?_eq_none (by omega)] at hj; cases hj
        rw [addr_plain]
        show w2.cell? _ = _
        rw [Q2.out.cell (s + j) (by omega), ← hj, hcs2, Q1.out]
        have : s + j < xs.length := by have := Hs.out; omega
        simp [List.getD, List.getElem?_append_left this, this]
      have HO : Hid (∀ v ∈ cs, v.oneCell' = true) := by rw [hcs2]; exact u8s_oneCell _
      have HFit : Hid (q + cs.length ≤ cl.length) := by rw [hcl]; show _ ≤ _; simp; omega
      have Hq : Hid (q = s + hs.length) := hq
      have Hr : Hid (r = s + n) := hr
      have Hcl : Hid (cl = cur.toList) := hcl
      have Hcs2 : Hid (cs = (xs.drop s).map (Value.int .u8)) := hcs2
      have Hcsl : Hid (cs.length = n) := hcsl
      have Htk : Hid (cur.toList.take zs.length = zs.map (Value.int .u8)) := htk
      have Hcur : Hid (cur.size = cap2) := hcs
      have HA2 : Hid (Ab w2 (N + 1 + 1) hs) := HA.out.keep Q3.out (fun hm => by have := HLB.out _ hm; omega)
      have Hg2 : Hid (g2 ≠ N + 1 + 1) := by
        have h1 := HA.out.lt
        rcases Q4.out with h | h
        · have := HLB.out g2 (by rw [← h]; simp [pb])
          show _ ≠ _
          omega
        · cases h
          show _ ≠ _
          omega
      have HF2 : Hid (Fr (pb p) w w2) := (HF.out.mono (by simp)).trans Q3.out
      have HFg : Hid (∀ x ∈ [g2], x ∈ pb p ∨ w.heap.size ≤ x) := by
        intro x hx
        simp at hx
        subst hx
        rcases Q4.out with h | h
        · left; rw [← h]; simp [pb]
        · right; cases h; exact HF.out.size
      have hs2 : s ≤ zs.length := by omega
      clear hq hr hcl hcs2 hcsl htk hcs hcur hzl HA HF HR HL HB HS
      go_cut [] from 71 to 85 (fun w' => Hid (w'.heap[g2]? = some (.cells (splice cl q cs).toArray 5)) ∧ Hid (Fr [g2] w2 w'))
      case first =>
        by_cases hcq : cap2 = q
        · subst hcq
          have HN0 : Hid (cs = []) := List.eq_nil_of_length_eq_zero (by have h1 := Hq.out; have h2 := HZL.out; have h3 := Hcsl.out; omega)
          have HM : Hid (cs.length = Nat.min (r - s) 0) := by rw [HN0.out]; simp [Hid]
          have HP : Hid (0 < cs.length → (some ⟨g2, 0, none⟩ : Option Addr) = some ⟨g2, cap2, none⟩ ∧ ∃ ad, (some ⟨g2, s, none⟩ : Option Addr) = some ad ∧ ∀ j v, cs[j]? = some v → w2.drew.cell? (ad.add j) = some v) := by
            intro h; rw [HN0.out] at h; simp at h
          go_region_law (refine step_copy_fr rfl (.tmp 76) (.tmp 84) rfl (some ⟨g2, 0, none⟩) (some ⟨g2, s, none⟩) 0 0 (r - s) (cap2 - s) (by go_simp) (by go_simp) g2 cap2 cl HG cs HM HP HFit HO ?_; intro w3 U1 U2)
          go_wp2_with fail
          go_meet
          exact ⟨U1, ⟨U2.out.os, U2.out.tape, U2.out.output, U2.out.size, U2.out.block⟩⟩
        · have HM : Hid (cs.length = Nat.min (r - s) (zs.length - q)) := by
            show _ = _
            have h1 := Hq.out; have h2 := HZL.out; have h3 := Hcsl.out; have h4 := Hr.out
            rw [h3, h4, h1, h2]
            show n = min _ _
            omega
          have HP : Hid (0 < cs.length → (some ⟨g2, q, none⟩ : Option Addr) = some ⟨g2, q, none⟩ ∧ ∃ ad, (some ⟨g2, s, none⟩ : Option Addr) = some ad ∧ ∀ j v, cs[j]? = some v → w2.drew.cell? (ad.add j) = some v) := fun _ => ⟨rfl, _, rfl, HC⟩
          go_region_law (refine step_copy_fr rfl (.tmp 76) (.tmp 84) rfl (some ⟨g2, q, none⟩) (some ⟨g2, s, none⟩) (zs.length - q) (cap2 - q) (r - s) (cap2 - s) (by go_simp) (by go_simp) g2 q cl HG cs HM HP HFit HO ?_; intro w3 U1 U2)
          go_wp2_with fail
          go_meet
          exact ⟨U1, ⟨U2.out.os, U2.out.tape, U2.out.output, U2.out.size, U2.out.block⟩⟩
      case rest =>
        obtain ⟨V1, V2⟩ := hcut
        have HA3 : Hid (Ab wc (N + 1 + 1) hs) := HA2.out.keep V2.out (by have := Hg2.out; simp; omega)
        obtain ⟨hv, hhv⟩ : ∃ hv : List Value, hv = hs.map (Value.int .u8) := ⟨_, rfl⟩
        have Hhv : Hid (hv = hs.map (Value.int .u8)) := hhv
        have HM : Hid (hv.length = Nat.min hs.length (zs.length - s)) := by
          rw [hhv]; show _ = min _ _; have := HZL.out; simp; omega
        have HP : Hid (0 < hv.length → (some ⟨g2, s, none⟩ : Option Addr) = some ⟨g2, s, none⟩ ∧ ∃ ad, (some ⟨N + 1 + 1, 0, none⟩ : Option Addr) = some ad ∧ ∀ j v, hv[j]? = some v → wc.cell? (ad.add j) = some v) := by
          refine fun _ => ⟨rfl, _, rfl, fun j v hj => ?_⟩
          rcases HA3.out.rd with h | ⟨b', o', h, hc⟩
          · rw [h] at hh1; simp at hh1
          · cases h
            have hjl : j < hs.length := by
              rcases Nat.lt_or_ge j hs.length with h | h
              · exact h
              · rw [hhv, List.getElem?_eq_none (by simpa using h)] at hj; cases hj
            rw [addr_plain, hc j hjl, ← hj, hhv]
            simp [List.getD, hjl]
        have HO2 : Hid (∀ v ∈ hv, v.oneCell' = true) := by rw [hhv]; exact u8s_oneCell _
        have HFit2 : Hid (s + hv.length ≤ (splice cl q cs).length) := by
          rw [length_splice _ _ _ HFit.out, hhv]
          have h1 := Hcur.out; have h2 := HZL.out
          rw [Hcl.out]; show _ ≤ _; simp; omega
        clear hhv
        go_wp2_with (refine copy_wp rfl (.tmp 88) (.tmp 89) rfl (some ⟨g2, s, none⟩) (some ⟨N + 1 + 1, 0, none⟩) (zs.length - s) (cap2 - s) hs.length 16 rfl rfl g2 s (splice cl q cs) V1 hv HM HP HFit2 HO2 ?_; intro w4 X1 X2)
        go_ret
        have hres : (xs.take s ++ hs ++ xs.drop s).length = zs.length := by have h1 := HZL.out; have h2 := Hs.out; simp; omega
        refine ⟨some ⟨g2, 0, none⟩, cap2, xs.take s ++ hs ++ xs.drop s, by rw [hres]; rfl, by rw [HH.out]; simp, ?_, ?_⟩
        · have hspl := splice_ins cl (xs.map (Value.int .u8)) (hs.map (Value.int .u8)) s (by have := Hs.out; simp; omega)
            (by rw [Hcl.out, ← List.map_append, ← Q1.out, List.length_map, List.length_map, show xs.length + hs.length = zs.length by rw [Q1.out]; simp]; exact Htk.out)
            (by have h1 := Hcur.out; have h2 := HZL.out; have h3 := Hs.out; rw [Hcl.out]; simp; omega)
          refine Bs.mk hg3 X1.out (by rw [hres]; exact hcap) hm2 ?_ ?_
          · simp
            rw [length_splice _ _ _ HFit2.out, length_splice _ _ _ HFit.out, Hcl.out]
            simpa using Hcur.out
          · rw [hres, List.toList_toArray, Hhv.out, Hcs2.out, Hq.out]
            have h3 := Hs.out
            have h2 := HZL.out
            simp only [List.length_map] at hspl
            rw [show zs.length = xs.length + hs.length by omega, List.map_drop, hspl]
            simp
        · exact (HF2.out.trans' V2.out HFg.out).trans' X2.out HFg.out

end Go.Proofs.YbulkbxkmFmt
