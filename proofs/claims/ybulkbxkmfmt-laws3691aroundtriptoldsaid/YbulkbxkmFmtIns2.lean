/-
  InsertHeader, its short way; the two ways together.
-/
import Derived.Test.YbulkbxkmFmtIns
namespace Go.Proofs.YbulkbxkmFmt
open Go.RowKit

theorem splice_ins' {α : Type} (cur xs js hs : List α) (s : Nat) (hs1 : s ≤ xs.length) (hj : js.length = hs.length) (hc : cur.take (xs.length + hs.length) = xs ++ js) (hl : xs.length + hs.length ≤ cur.length) :
    (splice (splice cur (s + hs.length) (xs.drop s)) s hs).take (xs.length + hs.length) = xs.take s ++ hs ++ xs.drop s := by
  obtain ⟨tl, rfl⟩ : ∃ tl, cur = (xs ++ js) ++ tl := ⟨cur.drop (xs.length + hs.length), by rw [← hc]; exact (List.take_append_drop _ _).symm⟩
  obtain ⟨a, b, rfl, rfl⟩ : ∃ a b, xs = a ++ b ∧ s = a.length := ⟨xs.take s, xs.drop s, (List.take_append_drop _ _).symm, by simp; omega⟩
  unfold splice
  simp only [List.drop_left, List.take_left]
  have e1 : ((a ++ b) ++ js ++ tl).take (a.length + hs.length) = a ++ (b ++ js).take hs.length := by
    have e0 : (a ++ b) ++ js ++ tl = a ++ ((b ++ js) ++ tl) := by simp
    rw [e0, List.take_length_add_append, List.take_append_of_le_length (by simp; omega)]
  rw [e1]
  have e2 : (a ++ (b ++ js).take hs.length ++ (b ++ ((a ++ b) ++ js ++ tl).drop (a.length + hs.length + b.length))).take a.length = a := by
    rw [List.append_assoc, List.take_left]
  have hbl : ((b ++ js).take hs.length).length = hs.length := by simp; omega
  have e3 : (a ++ (b ++ js).take hs.length ++ (b ++ ((a ++ b) ++ js ++ tl).drop (a.length + hs.length + b.length))).drop (a.length + hs.length) = b ++ ((a ++ b) ++ js ++ tl).drop (a.length + hs.length + b.length) := by
    have : a.length + hs.length = (a ++ (b ++ js).take hs.length).length := by simp; omega
    rw [this, List.drop_left]
  rw [e2, e3]
  have e4 : (a ++ b).length + hs.length = (a ++ (hs ++ b)).length := by simp; omega
  rw [e4, show a ++ (hs ++ (b ++ ((a ++ b) ++ js ++ tl).drop (a.length + hs.length + b.length))) = (a ++ (hs ++ b)) ++ ((a ++ b) ++ js ++ tl).drop (a.length + hs.length + b.length) by simp, List.take_left]
  simp

theorem set2_splice {α : Type} (X : List α) (s : Nat) (u v : α) (h : s + 2 ≤ X.length) : (X.set s u).set (s + 1) v = splice X s [u, v] := by
  apply List.ext_getElem?
  intro i
  unfold splice
  rcases Nat.lt_trichotomy i s with h1 | h1 | h1
  · rw [List.getElem?_set_ne (by omega), List.getElem?_set_ne (by omega), List.getElem?_append_left (by simp; omega), List.getElem?_take_of_lt h1]
  · subst h1
    rw [List.getElem?_set_ne (by omega), List.getElem?_set_self (by omega), List.getElem?_append_right (by simp; omega)]
    simp [show min i X.length = i by omega]
  · rcases Nat.lt_or_ge (s + 1) i with h2 | h2
    · rw [List.getElem?_set_ne (by omega), List.getElem?_set_ne (by omega), List.getElem?_append_right (by simp; omega)]
      have h3 : i - (List.take s X).length = (i - s - 2) + 2 := by simp; omega
      rw [h3]
      simp [show s + 2 + (i - s - 2) = i by omega]
    · obtain rfl : i = s + 1 := by omega
      rw [List.getElem?_set_self (by simp; omega), List.getElem?_append_right (by simp; omega)]
      simp [show min s X.length = s by omega]

/-! The blocks. -/
section
variable {w : World} {b : Nat} {cs : Array Value} {t : TypeId}
theorem cell_of (h : w.heap[b]? = some (.cells cs t)) {i : Nat} {v : Value} (hi : cs[i]? = some v) : w.cell? ⟨b, i, none⟩ = some v := by
  simp [World.cell?, h, hi]
theorem frozen_of (h : w.heap[b]? = some (.cells cs t)) (i : Nat) : w.frozen? ⟨b, i, none⟩ = false := by simp [World.frozen?, h]
theorem blk_set (h : w.heap[b]? = some (.cells cs t)) (i : Nat) (v : Value) : (w.setCell ⟨b, i, none⟩ v).heap[b]? = some (.cells (cs.setIfInBounds i v) t) := by
  simp [World.setCell, Array.getElem?_modify, h]
end

def W2 (w : World) (c : Int) (b : Bool) (t n : Nat) : World :=
  (w.alloc (.cells #[.int .u8 c, .bool b, .int .u32 t] 29)).alloc (.cells #[.int .u8 c, .bool b, .int .u32 t, .int .i64 n] 39)
theorem W2_size (w : World) (c : Int) (b : Bool) (t n : Nat) : (W2 w c b t n).heap.size = w.heap.size + 2 := by simp [W2]
theorem W2_box (w : World) (c : Int) (b : Bool) (t n : Nat) : Box (W2 w c b t n) (w.heap.size + 1) c b t n := by
  show ((w.heap.push _).push _)[w.heap.size + 1]? = _
  rw [Array.getElem?_push, if_pos (by simp)]
theorem Rd.two (w : World) : Rd (w.alloc (.cells #[.int .u8 0, .int .u8 0] 5)) (some ⟨w.heap.size, 0, none⟩) [0, 0] := by
  refine Or.inr ⟨_, 0, rfl, fun j hj => ?_⟩
  have : j = 0 ∨ j = 1 := by simp at hj; omega
  rcases this with rfl | rfl <;> simp

set_option maxRecDepth 100000 in
set_option maxHeartbeats 1000000 in
theorem insert_short (B : Nat) (p : Option Addr) (cap : Nat) (xs : List Int) (s : Nat) (c : Int) (b : Bool) (t n : Nat) (w : World) (hown : Bs w B p cap xs) (hB : B ≤ w.heap.size) (hs : s + n = xs.length) (hx : xs.length ≤ 2000) (hc0 : 0 ≤ c) (hc1 : c ≤ 3)
    (h31 : t < 31) (h128 : n < 128) :
    Calls Ybaf.prog 6 #[.slice p xs.length cap, .int .i64 s, .agg #[.int .u8 c, .bool b, .int .u32 t]] w fun e w' => ∃ p' cap' zs, e = .returned (.slice p' zs.length cap') ∧ zs = xs.take s ++ hdrList c b t n ++ xs.drop s ∧ Bs w' B p' cap' zs ∧ Fr (pb p) w w' := by
  have Hown : Hid (Bs w B p cap xs) := hown
  have Hs : Hid (s + n = xs.length) := hs
  have hsn : (xs.length : Int) - (s : Int) = (n : Int) := by omega
  have h31' : (t : Int) < 31 := by omega
  have h128' : (n : Int) < 128 := by omega
  have HF0 : Hid (Fr [] w (W2 w c b t n)) := ((Fr.refl _ w).alloc _).alloc _
  have HS0 : Hid (Bs (W2 w c b t n) B p cap xs) := Hown.out.keep HF0.out (by simp)
  have HX0 : Hid (Box (W2 w c b t n) (w.heap.size + 1) c b t n) := W2_box w c b t n
  have HZ0 : Hid ((W2 w c b t n).heap.size = w.heap.size + 1 + 1) := W2_size w c b t n
  have HLB : Hid (∀ y ∈ pb p, y < w.heap.size) := fun y hy => (Hown.out.lt y hy).2
  have HB0 : Hid (B ≤ w.heap.size + 1 + 1 + 1) := by show _ ≤ _; omega
  have HL0 : Hid (xs.length + 2 ≤ 1000000) := by show _ ≤ _; omega
  clear hown hs
  have HF1 : Hid (Fr [] w ((W2 w c b t n).alloc (.cells #[.int .u8 0, .int .u8 0] 5))) := HF0.out.alloc _
  have HS1 : Hid (Bs ((W2 w c b t n).alloc (.cells #[.int .u8 0, .int .u8 0] 5)) B p cap xs) := HS0.out.alloc _
  have HR1 : Hid (Rd ((W2 w c b t n).alloc (.cells #[.int .u8 0, .int .u8 0] 5)) (some ⟨w.heap.size + 1 + 1, 0, none⟩) [0, 0]) := by
    have := Rd.two (W2 w c b t n)
    rwa [HZ0.out] at this
  have HX1 : Hid (Box ((W2 w c b t n).alloc (.cells #[.int .u8 0, .int .u8 0] 5)) (w.heap.size + 1) c b t n) := HX0.out.keep ((Fr.refl [] _).alloc _) (by simp)
  have HB1 : Hid (B ≤ ((W2 w c b t n).alloc (.cells #[.int .u8 0, .int .u8 0] 5)).heap.size) := by show _ ≤ _; simp [HZ0.out]; omega
  go_enter Ybaf.func6, Ybaf.ntmps6
  go_wp2_with (at_builtin; refine app_wp rfl (.tmp 25) (.tmp 26) rfl B p cap xs rfl HS1 (some ⟨w.heap.size + 1 + 1, 0, none⟩) 2 2 [0, 0] rfl rfl (by simp) HR1 HL0 HB1 ?_; intro p2 cap2 w2 zs Q1 Q2 Q3 Q4)
  have hzl : zs.length = s + n + 2 := by rw [Q1.out]; have := Hs.out; simp; omega
  have HZL : Hid (zs.length = s + n + 2) := hzl
  obtain ⟨g2, rfl⟩ := Q2.out.isRow (by omega)
  obtain ⟨g3, cur, e3, hg3, hcur, hcap, hm2, hcs, htk⟩ : ∃ g3 cur, some (⟨g2, 0, none⟩ : Addr) = some ⟨g3, 0, none⟩ ∧ B ≤ g3 ∧ w2.heap[g3]? = some (.cells cur 5) ∧ zs.length ≤ cap2 ∧ cap2 ≤ maxLen ∧ cur.size = cap2 ∧ cur.toList.take zs.length = zs.map (Value.int .u8) := by
    rcases Q2.out.form with ⟨h, _⟩ | h
    · cases h
    · exact h
  cases e3
  obtain ⟨q, hq⟩ : ∃ q, q = s + 2 := ⟨_, rfl⟩
  obtain ⟨cl, hcl⟩ : ∃ cl, cl = cur.toList := ⟨_, rfl⟩
  obtain ⟨cs, hcs2⟩ : ∃ cs : List Value, cs = (xs.drop s).map (Value.int .u8) := ⟨_, rfl⟩
  have hw1 : IntKind.i64.wrap ((s : Int) + 2) = (q : Int) := by rw [IntKind.wrap_i64]; omega
  have hq1 : (q : Int) ≤ (zs.length : Int) := by omega
  have hq2 : q ≤ zs.length := by omega
  have hs1 : (s : Int) ≤ (zs.length : Int) := by omega
  have hs2 : s ≤ zs.length := by omega
  have hne : ¬ cap2 = s := by omega
  have hcsl : cs.length = n := by rw [hcs2]; have := Hs.out; simp; omega
  have HG : Hid (w2.drew.heap[g2]? = some (.cells cl.toArray 5)) := by rw [hcl]; show w2.heap[g2]? = _; simpa using hcur
  have HC : Hid (∀ j v, cs[j]? = some v → w2.drew.cell? ((⟨g2, s, none⟩ : Addr).add j) = some v) := by
    intro j v hj
    have hjn : j < n := by
      rcases Nat.lt_or_ge j n with h | h
      · exact h
      · rw [List.getElem?_eq_none (by omega)] at hj; cases hj
    rw [addr_plain]
    show w2.cell? _ = _
    rw [Q2.out.cell (s + j) (by omega), ← hj, hcs2, Q1.out]
    have : s + j < xs.length := by have := Hs.out; omega
    simp [List.getD, List.getElem?_append_left this, this]
  have HO : Hid (∀ v ∈ cs, v.oneCell' = true) := by rw [hcs2]; exact u8s_oneCell _
  have HFit : Hid (q + cs.length ≤ cl.length) := by rw [hcl]; show _ ≤ _; simp; omega
  have Hq : Hid (q = s + 2) := hq
  have Hcl : Hid (cl = cur.toList) := hcl
  have Hcs2 : Hid (cs = (xs.drop s).map (Value.int .u8)) := hcs2
  have Hcsl : Hid (cs.length = n) := hcsl
  have Htk : Hid (cur.toList.take zs.length = zs.map (Value.int .u8)) := htk
  have Hcur : Hid (cur.size = cap2) := hcs
  have Hg2 : Hid (g2 ≠ w.heap.size + 1) := by
    rcases Q4.out with h | h
    · have := HLB.out g2 (by rw [← h]; simp [pb])
      show _ ≠ _
      omega
    · cases h
      show _ ≠ _
      simp
      omega
  have HX2 : Hid (Box w2 (w.heap.size + 1) c b t n) := HX1.out.keep Q3.out (fun hm => by have := HLB.out _ hm; omega)
  have HF2 : Hid (Fr (pb p) w w2) := (HF1.out.mono (by simp)).trans Q3.out
  have HFg : Hid (∀ x ∈ [g2], x ∈ pb p ∨ w.heap.size ≤ x) := by
    intro x hx
    simp at hx
    subst hx
    rcases Q4.out with h | h
    · left; rw [← h]; simp [pb]
    · right; cases h; simp; omega
  clear hq hcl hcs2 hcsl htk hcs hcur hzl HR1 HS1 HF1 HB1 HX1 HL0 HB0 HS0 HF0 HX0
  go_cut [] from 28 to 35 (fun w' => Hid (w'.heap[g2]? = some (.cells (splice cl q cs).toArray 5)) ∧ Hid (Fr [g2] w2 w'))
  case first =>
    by_cases hcq : cap2 = q
    · subst hcq
      have HN0 : Hid (cs = []) := List.eq_nil_of_length_eq_zero (by have h1 := Hq.out; have h2 := HZL.out; have h3 := Hcsl.out; omega)
      have HM : Hid (cs.length = Nat.min (zs.length - s) 0) := by rw [HN0.out]; simp [Hid]
      have HP : Hid (0 < cs.length → (some ⟨g2, 0, none⟩ : Option Addr) = some ⟨g2, cap2, none⟩ ∧ ∃ ad, (some ⟨g2, s, none⟩ : Option Addr) = some ad ∧ ∀ j v, cs[j]? = some v → w2.drew.cell? (ad.add j) = some v) := by
        intro h; rw [HN0.out] at h; simp at h
      go_region_law (refine step_copy_fr rfl (.tmp 31) (.tmp 34) rfl (some ⟨g2, 0, none⟩) (some ⟨g2, s, none⟩) 0 0 (zs.length - s) (cap2 - s) (by go_simp) (by go_simp) g2 cap2 cl HG cs HM HP HFit HO ?_; intro w3 U1 U2)
      go_wp2_with fail
      go_meet
      exact ⟨U1, ⟨U2.out.os, U2.out.tape, U2.out.output, U2.out.size, U2.out.block⟩⟩
    · have HM : Hid (cs.length = Nat.min (zs.length - s) (zs.length - q)) := by
        show _ = _
        have h1 := Hq.out; have h2 := HZL.out; have h3 := Hcsl.out
        rw [h3, h1, h2]
        show n = min _ _
        omega
      have HP : Hid (0 < cs.length → (some ⟨g2, q, none⟩ : Option Addr) = some ⟨g2, q, none⟩ ∧ ∃ ad, (some ⟨g2, s, none⟩ : Option Addr) = some ad ∧ ∀ j v, cs[j]? = some v → w2.drew.cell? (ad.add j) = some v) := fun _ => ⟨rfl, _, rfl, HC⟩
      go_region_law (refine step_copy_fr rfl (.tmp 31) (.tmp 34) rfl (some ⟨g2, q, none⟩) (some ⟨g2, s, none⟩) (zs.length - q) (cap2 - q) (zs.length - s) (cap2 - s) (by go_simp) (by go_simp) g2 q cl HG cs HM HP HFit HO ?_; intro w3 U1 U2)
      go_wp2_with fail
      go_meet
      exact ⟨U1, ⟨U2.out.os, U2.out.tape, U2.out.output, U2.out.size, U2.out.block⟩⟩
  case rest =>
    obtain ⟨V1, V2⟩ := hcut
    have HX3 : Hid (Box wc (w.heap.size + 1) c b t n) := HX2.out.keep V2.out (by have := Hg2.out; simp; omega)
    obtain ⟨k0, k1, k2, k3⟩ := HX3.out.cells
    have hlen : (splice cl q cs).length = cap2 := by rw [length_splice _ _ _ HFit.out, Hcl.out]; simpa using Hcur.out
    have Hlen : Hid ((splice cl q cs).length = cap2) := hlen
    have hsl : s < zs.length := by have := HZL.out; omega
    have hsl1 : s + 1 < zs.length := by have := HZL.out; omega
    obtain ⟨X, hX⟩ : ∃ X, X = splice cl q cs := ⟨_, rfl⟩
    rw [← hX] at V1 hlen
    have HX : Hid (X = splice cl q cs) := hX
    have l0 : s < X.length := by omega
    have l1 : s + 1 < X.length := by omega
    have d0 : wc.cell? ⟨g2, s, none⟩ = some X[s] := cell_of V1.out (by simp)
    have d1 : wc.cell? ⟨g2, s + 1, none⟩ = some X[s + 1] := cell_of V1.out (by simp)
    have z0 := frozen_of V1.out s
    have z1 := frozen_of V1.out (s + 1)
    have hgN : ¬ g2 = w.heap.size + 1 := Hg2.out
    clear hX hlen
    have hres : ∀ y z : Int, (xs.take s ++ [y, z] ++ xs.drop s).length = zs.length := fun y z => by have h1 := HZL.out; have h2 := Hs.out; simp; omega
    have Hres : Hid (∀ y z : Int, (xs.take s ++ [y, z] ++ xs.drop s).length = zs.length) := hres
    have Hfin : Hid (∀ (W : World) (y z : Int), W.heap[g2]? = some (.cells ((X.toArray.setIfInBounds s (.int .u8 y)).setIfInBounds (s + 1) (.int .u8 z)) 5) → Bs W B (some ⟨g2, 0, none⟩) cap2 (xs.take s ++ [y, z] ++ xs.drop s)) := by
      intro W y z hW
      have hXl : X.length = cap2 := by rw [HX.out]; exact Hlen.out
      refine Bs.mk hg3 hW (by rw [hres]; exact hcap) hm2 (by simpa using hXl) ?_
      rw [hres]
      have h1 := HZL.out
      have h2 := Hs.out
      have e : ((X.toArray.setIfInBounds s (.int .u8 y)).setIfInBounds (s + 1) (.int .u8 z)).toList = splice X s [.int .u8 y, .int .u8 z] := by
        rw [← set2_splice X s _ _ (by omega)]
        simp
      rw [e, HX.out, Hcs2.out, Hq.out]
      have hspl := splice_ins' cl (xs.map (Value.int .u8)) [.int .u8 0, .int .u8 0] [.int .u8 y, .int .u8 z] s (by simp; omega) rfl
        (by rw [Hcl.out, List.length_map]; have h3 := Htk.out; rw [Q1.out] at h3; simpa using h3)
        (by have h3 := Hcur.out; rw [Hcl.out]; simp; omega)
      simp only [List.length_map, List.length_cons, List.length_nil] at hspl
      rw [show zs.length = xs.length + (0 + 1 + 1) by omega, List.map_drop, hspl]
      simp
    clear hres
    cases b
    · go_wp2_with fail
      go_ret
      have hW := blk_set (blk_set V1.out s (.int .u8 (bits .or .u8 (c * 64) t))) (s + 1) (.int .u8 (n : Int))
      refine ⟨some ⟨g2, 0, none⟩, cap2, _, by rw [Hres.out (bits .or .u8 (c * 64) t) n]; rfl, ?_, Hfin.out _ _ _ hW, ?_⟩
      · simp [hdrList, tagPart, lenPart, h31, h128, fst8, orB]
      · exact (((HF2.out.trans' V2.out HFg.out).setCell (HFg.out g2 (by simp)) _).setCell (HFg.out g2 (by simp)) _)
    · go_wp2_with fail
      go_ret
      have hW := blk_set (blk_set (blk_set V1.out s (.int .u8 (bits .or .u8 (c * 64) t))) s (.int .u8 (bits .or .u8 (bits .or .u8 (c * 64) t) 32))) (s + 1) (.int .u8 (n : Int))
      rw [Array.setIfInBounds_setIfInBounds] at hW
      refine ⟨some ⟨g2, 0, none⟩, cap2, _, by rw [Hres.out (bits .or .u8 (bits .or .u8 (c * 64) t) 32) n]; rfl, ?_, Hfin.out _ _ _ hW, ?_⟩
      · have := orB_comm (c * 64) t 32 (by omega) (by omega) (by omega)
        unfold orB at this
        rw [this]
        simp [hdrList, tagPart, lenPart, h31, h128, fst8, orB]
      · exact ((((HF2.out.trans' V2.out HFg.out).setCell (HFg.out g2 (by simp)) _).setCell (HFg.out g2 (by simp)) _).setCell (HFg.out g2 (by simp)) _)

theorem insert_any (B : Nat) (p : Option Addr) (cap : Nat) (xs : List Int) (s : Nat) (c : Int) (b : Bool) (t n : Nat) (w : World) (hown : Bs w B p cap xs) (hB : B ≤ w.heap.size) (hs : s + n = xs.length) (hx : xs.length ≤ 2000) (hc0 : 0 ≤ c) (hc1 : c ≤ 3) (ht1 : t < 4294967296) :
    Calls Ybaf.prog 6 #[.slice p xs.length cap, .int .i64 s, .agg #[.int .u8 c, .bool b, .int .u32 t]] w fun e w' => ∃ p' cap' zs, e = .returned (.slice p' zs.length cap') ∧ zs = xs.take s ++ hdrList c b t n ++ xs.drop s ∧ Bs w' B p' cap' zs ∧ Fr (pb p) w w' := by
  by_cases h : t < 31 ∧ n < 128
  · exact insert_short B p cap xs s c b t n w hown hB hs hx hc0 hc1 h.1 h.2
  · exact insert_long B p cap xs s c b t n w hown hB hs hx hc0 hc1 ht1 h

end Go.Proofs.YbulkbxkmFmt
