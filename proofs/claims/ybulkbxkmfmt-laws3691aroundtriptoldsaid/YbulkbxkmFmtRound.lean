/-
  LawS3691ARoundTrip: the walk.
-/
import Derived.Test.YbulkbxkmFmtRdPre
namespace Go.Proofs.YbulkbxkmFmt
open Go.RowKit

theorem clone_len (ad : Addr) (d L : Nat) (ys : List Int) (w : World) (hL : ys.length = L) (hl : L ≤ 2000) (h1 : Rd w (some ad) ys) :
    Calls Ybaf.prog 5 #[.slice (some ad) L d] w fun e w' => ∃ p' c', e = .returned (.slice p' L c') ∧ Bs w' w.heap.size p' c' ys ∧ Fr [] w w' := by
  subst hL
  exact clone_row ad d ys w hl h1
theorem equal_len (p q : Option Addr) (c d L M : Nat) (xs : List Int) (w : World) (hL : xs.length = L) (hM : xs.length = M) (e1 : Pl p) (e2 : Pl q) (h1 : Rd w p xs) (h2 : Rd w q xs) :
    Calls Ybaf.prog 7 #[.slice p L c, .slice q M d] w fun e w' => e = .returned (.bool true) ∧ w = w' := by
  subst hL; subst hM
  exact equal_rd p q c d xs w e1 e2 h1 h2
theorem readPrefix_len (bb o cap L : Nat) (c : Int) (b : Bool) (t n : Nat) (ys : List Int) (w : World) (hL : (hdrList c b t n ++ ys).length = L) (hR : Rd w (some ⟨bb, o, none⟩) (hdrList c b t n ++ ys)) (hn : ys.length = n) (hx : L ≤ 4000) (hcap : L ≤ cap) (h0 : 0 ≤ c) (h1 : c ≤ 3) (ht : t < 4294967296) :
    Calls Ybaf.prog 8 #[.slice (some ⟨bb, o, none⟩) L cap] w fun e w' => ∃ q c', e = .returned (.tuple #[.agg #[.int .u8 c, .bool b, .int .u32 t], .slice q n c', .nilIface]) ∧ Rd w' q ys ∧ Pl q ∧ Fr [] w w' := by
  subst hL
  have := readPrefix_any bb o cap c b t n ys w hR hn hx hcap h0 h1 ht
  rw [hn] at this
  exact this
theorem Bs.pl {w : World} {B : Nat} {p : Option Addr} {cap : Nat} {xs : List Int} (h : Bs w B p cap xs) : Pl p := by
  rcases h.form with ⟨rfl, _, _⟩ | ⟨g, cur, rfl, _⟩
  · exact Or.inl rfl
  · exact Or.inr ⟨g, 0, rfl⟩

theorem round_long (a : Option Addr) (len cap : Nat) (s pad cl tag : Int) (b : Bool) (w : World) (h : 1024 < len) :
    Calls Ybaf.prog 3 #[.slice a len cap, .int .u64 s, .int .u16 pad, .int .u8 cl, .bool b, .int .u32 tag] w fun e w' => e = .returned (.bool true) ∧ Below w.heap.size w w' := by
  go_enter Ybaf.func3, Ybaf.ntmps3
  go_wp2_with fail
  go_ret
  exact ⟨rfl, Below.refl _ _⟩

set_option maxRecDepth 100000 in
set_option maxHeartbeats 2000000 in
theorem round_short (q : Option Addr) (len cap : Nat) (ys : List Int) (s pad cl : Int) (t : Nat) (b : Bool) (w : World) (hlen : ys.length = len) (hl : len ≤ 1024) (hq : q = none → cap = 0) (hr : Rd w q ys)
    (hs0 : 0 ≤ s) (hp0 : 0 ≤ pad) (hp1 : pad ≤ 65535) (hc0 : 0 ≤ cl) (hc1 : cl ≤ 255) (ht1 : t < 4294967296) :
    Calls Ybaf.prog 3 #[.slice q len cap, .int .u64 s, .int .u16 pad, .int .u8 cl, .bool b, .int .u32 t] w fun e w' => e = .returned (.bool true) ∧ Below w.heap.size w w' := by
  obtain ⟨st, hst⟩ : ∃ st : Nat, s % ((len : Int) + 1) = (st : Int) := ⟨(s % ((len : Int) + 1)).toNat, by have := Int.emod_nonneg s (show (len : Int) + 1 ≠ 0 by omega); omega⟩
  have hst1 : st ≤ len := by have := Int.emod_lt_of_pos s (show (0 : Int) < (len : Int) + 1 by omega); omega
  obtain ⟨c, hc⟩ : ∃ c, cl % 4 = c := ⟨_, rfl⟩
  have hc2 : 0 ≤ c := by omega
  have hc3 : c ≤ 3 := by omega
  have Hlen : Hid (ys.length = len) := hlen
  have Hr : Hid (Rd w q ys) := hr
  have Hq : Hid (q = none → cap = 0) := hq
  clear hlen hr hq
  go_enter Ybaf.func3, Ybaf.ntmps3
  go_wp2_with fail
  refine (work_any q len cap ys pad w Hlen hl Hq Hr hp0 hp1).mono ?_
  rintro e w1 ⟨g1, c1, ws, rfl, v1, v2, v3⟩
  have V2 : Hid (Bs w1 w.heap.size (some ⟨g1, 0, none⟩) c1 ws) := v2
  have V3 : Hid (Fr [] w w1) := v3
  have hwl : len ≤ ws.length ∧ ws.length ≤ 1400 := by rw [v1, List.length_append, Hlen.out, fill_length]; omega
  clear v1 v2 v3
  obtain ⟨n, hn⟩ : ∃ n : Nat, ws.length - st = n := ⟨_, rfl⟩
  have Hn : Hid (st + n = ws.length) := by show _ = _; omega
  have hn6 : n ≤ 2000 := by omega
  have hcap : ws.length ≤ c1 := by
    rcases V2.out.form with ⟨h, _⟩ | ⟨_, _, _, _, _, h, _⟩
    · cases h
    · exact h
  have hstw : st ≤ c1 := by omega
  have hstl : st ≤ ws.length := by omega
  go_wp2_with fail
  have F2 : Hid (Fr [] w1 (w1.alloc (.cells #[.int .u8 c, .bool b, .int .u32 t] 29))) := (Fr.refl [] w1).alloc _
  have I2 : Hid ((w1.alloc (.cells #[.int .u8 c, .bool b, .int .u32 t] 29)).heap[w1.heap.size]? = some (.cells #[.int .u8 c, .bool b, .int .u32 t] 29)) := by show (w1.heap.push _)[w1.heap.size]? = _; simp
  have hs2 : (w1.alloc (.cells #[.int .u8 c, .bool b, .int .u32 t] 29)).heap.size = w1.heap.size + 1 := by show (w1.heap.push _).size = _; simp
  have S2 : Hid ((w1.alloc (.cells #[.int .u8 c, .bool b, .int .u32 t] 29)).heap.size = w1.heap.size + 1) := hs2
  clear hs2
  generalize w1.alloc (.cells #[.int .u8 c, .bool b, .int .u32 t] 29) = w2 at *
  have hg1 : g1 < w1.heap.size := (V2.out.lt g1 (by simp [pb])).2
  have B2 : Hid (Bs w2 w.heap.size (some ⟨g1, 0, none⟩) c1 ws) := V2.out.keep F2.out (by simp)
  have RH : Hid (Rd w2 (some ⟨g1, 0, none⟩) (ws.take st)) := by
    have := Rd.sub B2.out.rd 0 (ws.take st) (fun j hj => by
      have h1 : j < st := by simp at hj; omega
      refine ⟨by omega, ?_⟩
      simp [List.getD, List.getElem?_take_of_lt h1])
    exact this
  have LH : Hid ((ws.take st).length = st) := by show _ = _; simp; omega
  have LT : Hid ((ws.drop st).length = n) := by show _ = _; simp; omega
  refine (clone_len ⟨g1, 0, none⟩ c1 st (ws.take st) w2 LH (by omega) RH).mono ?_
  rintro e w3 ⟨ph, ch, rfl, x1, x2⟩
  have BH3 : Hid (Bs w3 w2.heap.size ph ch (ws.take st)) := x1
  have F3 : Hid (Fr [] w2 w3) := x2
  clear x1 x2
  have B3 : Hid (Bs w3 w.heap.size (some ⟨g1, 0, none⟩) c1 ws) := B2.out.keep F3.out (by simp)
  by_cases hcq : c1 = st
  · subst hcq
    have RT : Hid (Rd w3 (some ⟨g1, 0, none⟩) (ws.drop c1)) := by
      have e : ws.drop c1 = [] := List.drop_eq_nil_of_le (by omega)
      rw [e]
      exact Or.inr ⟨g1, 0, rfl, fun j hj => by simp at hj⟩
    have hn0 : n = 0 := by omega
    have LTN : Hid ((ws.drop c1).length = 0) := by show _ = _; rw [LT.out]; omega
    go_wp2_with fail
    refine (clone_len ⟨g1, 0, none⟩ 0 0 (ws.drop c1) w3 LTN (by omega) RT).mono ?_
    rintro e w4 ⟨pt, ct, rfl, y1, y2⟩
    have BT4 : Hid (Bs w4 w3.heap.size pt ct (ws.drop c1)) := y1
    have F4 : Hid (Fr [] w2 w4) := F3.out.trans y2
    have BH4 : Hid (Bs w4 w2.heap.size ph ch (ws.take c1)) := BH3.out.keep y2 (by simp)
    have B4 : Hid (Bs w4 w.heap.size (some ⟨g1, 0, none⟩) c1 ws) := B3.out.keep y2 (by simp)
    have I4 : Hid (w4.heap[w1.heap.size]? = some (.cells #[.int .u8 c, .bool b, .int .u32 t] 29)) := F4.out.keep I2.out (by simp)
    have S4 : Hid (w.heap.size ≤ w4.heap.size) := by
      have h1 := V3.out.size
      have h2 := F2.out.size
      have h3 := F4.out.size
      show _ ≤ _
      omega
    have S23 : Hid (w2.heap.size ≤ w3.heap.size) := F3.out.size
    have i0 : w4.cell? ⟨w1.heap.size, 0, none⟩ = some (.int .u8 c) := cell_of I4.out rfl
    have i1 : w4.cell? ⟨w1.heap.size, 1, none⟩ = some (.bool b) := cell_of I4.out rfl
    have i2 : w4.cell? ⟨w1.heap.size, 2, none⟩ = some (.int .u32 t) := cell_of I4.out rfl
    clear y1 y2
    go_wp2_with fail
    refine (insert_any w.heap.size (some ⟨g1, 0, none⟩) c1 ws c1 c b t n w4 B4 S4 Hn (by omega) hc2 hc3 ht1).mono ?_
    rintro e w5 ⟨pg, cg, zs, rfl, z1, z2, z3⟩
    have hh1 := hdrList_pos c b t n
    have hh2 := hdrList_length c b t n
    have hzl : zs.length = c1 + (hdrList c b t n).length + n := by rw [z1, List.length_append, List.length_append, LH.out, LT.out]
    obtain ⟨gg, rfl⟩ := z2.isRow (by omega)
    have BG : Hid (Bs w5 w.heap.size (some ⟨gg, 0, none⟩) cg zs) := z2
    have hcg : zs.length ≤ cg := by
      rcases z2.form with ⟨h, _⟩ | ⟨_, _, _, _, _, h, _⟩
      · cases h
      · exact h
    have RH5 : Hid (Rd w5 ph (ws.take c1)) := BH4.out.rd.keep z3 (fun k hk hm => by have h1 := (BH4.out.lt k hk).1; simp [pb] at hm; have := S2.out; omega)
    have RT5 : Hid (Rd w5 pt (ws.drop c1)) := BT4.out.rd.keep z3 (fun k hk hm => by have h1 := (BT4.out.lt k hk).1; simp [pb] at hm; have := S2.out; have := S23.out; omega)
    have I5 : Hid (w5.heap[w1.heap.size]? = some (.cells #[.int .u8 c, .bool b, .int .u32 t] 29)) := z3.keep I4.out (by simp [pb]; omega)
    have F5 : Hid (Fr [g1] w w5) := ((V3.out.mono (by simp)).trans (F2.out.mono (by simp))).trans ((F4.out.mono (by simp)).trans (z3.mono (by simp [pb])))
    have RG : Hid (Rd w5 (some ⟨gg, 0, none⟩) (ws.take c1)) := by
      have := Rd.sub BG.out.rd 0 (ws.take c1) (fun j hj => by
        have h1 : j < c1 := by have := LH.out; omega
        refine ⟨by omega, ?_⟩
        rw [Nat.zero_add, z1, List.append_assoc, getD_left hj])
      exact this
    have RP : Hid (Rd w5 (some ⟨gg, c1, none⟩) (hdrList c b t n ++ ws.drop c1)) := by
      have := Rd.sub BG.out.rd c1 (hdrList c b t n ++ ws.drop c1) (fun j hj => by
        rw [List.length_append, LT.out] at hj
        refine ⟨by omega, ?_⟩
        have h := getD_right (xs := ws.take c1) (ys := hdrList c b t n ++ ws.drop c1) j
        rw [LH.out] at h
        rw [z1, List.append_assoc, h])
      show Rd _ _ _
      simpa using this
    obtain ⟨L, hL⟩ : ∃ L, zs.length - c1 = L := ⟨_, rfl⟩
    have LL : Hid ((hdrList c b t n ++ ws.drop c1).length = L) := by show _ = _; rw [List.length_append, LT.out]; omega
    have a1 : c1 ≤ zs.length := by omega
    have a2 : c1 < cg := by omega
    have a3 : L ≤ 4000 := by omega
    have a4 : L ≤ cg - c1 := by omega
    have a5 : zs.length ≤ 4000 := by omega
    have a6 : ¬ cg = c1 := by omega
    clear z1 z2 z3 hzl i0 i1 i2 hh1 hh2
    go_wp2_with fail
    refine (equal_len _ _ cg ch c1 c1 (ws.take c1) w5 LH LH (Or.inr ⟨gg, 0, rfl⟩) BH4.out.pl RG RH5).mono ?_
    rintro e w6 ⟨rfl, rfl⟩
    go_wp2_with fail
    refine (readPrefix_len gg c1 (cg - c1) L c b t n (ws.drop c1) w5 LL RP LT a3 a4 hc2 hc3 ht1).mono ?_
    rintro e w7 ⟨qc, cc, rfl, u1, u2, u3⟩
    have I7 : Hid (w7.heap[w1.heap.size]? = some (.cells #[.int .u8 c, .bool b, .int .u32 t] 29)) := u3.keep I5.out (by simp)
    have G7 : Hid (Fr [] w7 (w7.alloc (.cells #[.int .u8 c, .bool b, .int .u32 t] 29))) := (Fr.refl [] w7).alloc _
    have I8 : Hid ((w7.alloc (.cells #[.int .u8 c, .bool b, .int .u32 t] 29)).heap[w1.heap.size]? = some (.cells #[.int .u8 c, .bool b, .int .u32 t] 29)) := G7.out.keep I7.out (by simp)
    have J8 : Hid ((w7.alloc (.cells #[.int .u8 c, .bool b, .int .u32 t] 29)).heap[w7.heap.size]? = some (.cells #[.int .u8 c, .bool b, .int .u32 t] 29)) := by show (w7.heap.push _)[w7.heap.size]? = _; simp
    have RC8 : Hid (Rd (w7.alloc (.cells #[.int .u8 c, .bool b, .int .u32 t] 29)) qc (ws.drop c1)) := u1.keep G7.out (by simp)
    have RT8 : Hid (Rd (w7.alloc (.cells #[.int .u8 c, .bool b, .int .u32 t] 29)) pt (ws.drop c1)) := (RT5.out.keep u3 (by simp)).keep G7.out (by simp)
    have F8 : Hid (Fr [g1] w (w7.alloc (.cells #[.int .u8 c, .bool b, .int .u32 t] 29))) := F5.out.trans ((u3.trans G7.out).mono (by simp))
    have PC : Hid (Pl qc) := u2
    have i0 : (w7.alloc (.cells #[.int .u8 c, .bool b, .int .u32 t] 29)).cell? ⟨w1.heap.size, 0, none⟩ = some (.int .u8 c) := cell_of I8.out rfl
    have i1 : (w7.alloc (.cells #[.int .u8 c, .bool b, .int .u32 t] 29)).cell? ⟨w1.heap.size, 1, none⟩ = some (.bool b) := cell_of I8.out rfl
    have i2 : (w7.alloc (.cells #[.int .u8 c, .bool b, .int .u32 t] 29)).cell? ⟨w1.heap.size, 2, none⟩ = some (.int .u32 t) := cell_of I8.out rfl
    have j0 : (w7.alloc (.cells #[.int .u8 c, .bool b, .int .u32 t] 29)).cell? ⟨w7.heap.size, 0, none⟩ = some (.int .u8 c) := cell_of J8.out rfl
    have j1 : (w7.alloc (.cells #[.int .u8 c, .bool b, .int .u32 t] 29)).cell? ⟨w7.heap.size, 1, none⟩ = some (.bool b) := cell_of J8.out rfl
    have j2 : (w7.alloc (.cells #[.int .u8 c, .bool b, .int .u32 t] 29)).cell? ⟨w7.heap.size, 2, none⟩ = some (.int .u32 t) := cell_of J8.out rfl
    clear u1 u2 u3
    go_wp2_with fail
    generalize w7.alloc (.cells #[.int .u8 c, .bool b, .int .u32 t] 29) = w8 at *
    refine (equal_len qc pt cc ct 0 0 (ws.drop c1) w8 LTN LTN PC BT4.out.pl RC8 RT8).mono ?_
    rintro e w9 ⟨rfl, rfl⟩
    go_wp2_with fail
    go_ret
    exact ⟨by simp, F8.out.below (Nat.le_refl _) (by have := (V2.out.lt g1 (by simp [pb])).1; simpa using this)⟩
  · have RT : Hid (Rd w3 (some ⟨g1, st, none⟩) (ws.drop st)) := by
      have := Rd.sub B3.out.rd st (ws.drop st) (fun j hj => by
        simp at hj
        refine ⟨by omega, ?_⟩
        simp [List.getD])
      show Rd _ _ _
      simpa using this
    have LTN : Hid ((ws.drop st).length = n) := LT.out
    go_wp2_with fail
    refine (clone_len ⟨g1, st, none⟩ (c1 - st) n (ws.drop st) w3 LTN (by omega) RT).mono ?_
    rintro e w4 ⟨pt, ct, rfl, y1, y2⟩
    have BT4 : Hid (Bs w4 w3.heap.size pt ct (ws.drop st)) := y1
    have F4 : Hid (Fr [] w2 w4) := F3.out.trans y2
    have BH4 : Hid (Bs w4 w2.heap.size ph ch (ws.take st)) := BH3.out.keep y2 (by simp)
    have B4 : Hid (Bs w4 w.heap.size (some ⟨g1, 0, none⟩) c1 ws) := B3.out.keep y2 (by simp)
    have I4 : Hid (w4.heap[w1.heap.size]? = some (.cells #[.int .u8 c, .bool b, .int .u32 t] 29)) := F4.out.keep I2.out (by simp)
    have S4 : Hid (w.heap.size ≤ w4.heap.size) := by
      have h1 := V3.out.size
      have h2 := F2.out.size
      have h3 := F4.out.size
      show _ ≤ _
      omega
    have S23 : Hid (w2.heap.size ≤ w3.heap.size) := F3.out.size
    have i0 : w4.cell? ⟨w1.heap.size, 0, none⟩ = some (.int .u8 c) := cell_of I4.out rfl
    have i1 : w4.cell? ⟨w1.heap.size, 1, none⟩ = some (.bool b) := cell_of I4.out rfl
    have i2 : w4.cell? ⟨w1.heap.size, 2, none⟩ = some (.int .u32 t) := cell_of I4.out rfl
    clear y1 y2
    go_wp2_with fail
    refine (insert_any w.heap.size (some ⟨g1, 0, none⟩) c1 ws st c b t n w4 B4 S4 Hn (by omega) hc2 hc3 ht1).mono ?_
    rintro e w5 ⟨pg, cg, zs, rfl, z1, z2, z3⟩
    have hh1 := hdrList_pos c b t n
    have hh2 := hdrList_length c b t n
    have hzl : zs.length = st + (hdrList c b t n).length + n := by rw [z1, List.length_append, List.length_append, LH.out, LT.out]
    obtain ⟨gg, rfl⟩ := z2.isRow (by omega)
    have BG : Hid (Bs w5 w.heap.size (some ⟨gg, 0, none⟩) cg zs) := z2
    have hcg : zs.length ≤ cg := by
      rcases z2.form with ⟨h, _⟩ | ⟨_, _, _, _, _, h, _⟩
      · cases h
      · exact h
    have RH5 : Hid (Rd w5 ph (ws.take st)) := BH4.out.rd.keep z3 (fun k hk hm => by have h1 := (BH4.out.lt k hk).1; simp [pb] at hm; have := S2.out; omega)
    have RT5 : Hid (Rd w5 pt (ws.drop st)) := BT4.out.rd.keep z3 (fun k hk hm => by have h1 := (BT4.out.lt k hk).1; simp [pb] at hm; have := S2.out; have := S23.out; omega)
    have I5 : Hid (w5.heap[w1.heap.size]? = some (.cells #[.int .u8 c, .bool b, .int .u32 t] 29)) := z3.keep I4.out (by simp [pb]; omega)
    have F5 : Hid (Fr [g1] w w5) := ((V3.out.mono (by simp)).trans (F2.out.mono (by simp))).trans ((F4.out.mono (by simp)).trans (z3.mono (by simp [pb])))
    have RG : Hid (Rd w5 (some ⟨gg, 0, none⟩) (ws.take st)) := by
      have := Rd.sub BG.out.rd 0 (ws.take st) (fun j hj => by
        have h1 : j < st := by have := LH.out; omega
        refine ⟨by omega, ?_⟩
        rw [Nat.zero_add, z1, List.append_assoc, getD_left hj])
      exact this
    have RP : Hid (Rd w5 (some ⟨gg, st, none⟩) (hdrList c b t n ++ ws.drop st)) := by
      have := Rd.sub BG.out.rd st (hdrList c b t n ++ ws.drop st) (fun j hj => by
        rw [List.length_append, LT.out] at hj
        refine ⟨by omega, ?_⟩
        have h := getD_right (xs := ws.take st) (ys := hdrList c b t n ++ ws.drop st) j
        rw [LH.out] at h
        rw [z1, List.append_assoc, h])
      show Rd _ _ _
      simpa using this
    obtain ⟨L, hL⟩ : ∃ L, zs.length - st = L := ⟨_, rfl⟩
    have LL : Hid ((hdrList c b t n ++ ws.drop st).length = L) := by show _ = _; rw [List.length_append, LT.out]; omega
    have a1 : st ≤ zs.length := by omega
    have a2 : st < cg := by omega
    have a3 : L ≤ 4000 := by omega
    have a4 : L ≤ cg - st := by omega
    have a5 : zs.length ≤ 4000 := by omega
    have a6 : ¬ cg = st := by omega
    clear z1 z2 z3 hzl i0 i1 i2 hh1 hh2
    go_wp2_with fail
    refine (equal_len _ _ cg ch st st (ws.take st) w5 LH LH (Or.inr ⟨gg, 0, rfl⟩) BH4.out.pl RG RH5).mono ?_
    rintro e w6 ⟨rfl, rfl⟩
    go_wp2_with fail
    refine (readPrefix_len gg st (cg - st) L c b t n (ws.drop st) w5 LL RP LT a3 a4 hc2 hc3 ht1).mono ?_
    rintro e w7 ⟨qc, cc, rfl, u1, u2, u3⟩
    have I7 : Hid (w7.heap[w1.heap.size]? = some (.cells #[.int .u8 c, .bool b, .int .u32 t] 29)) := u3.keep I5.out (by simp)
    have G7 : Hid (Fr [] w7 (w7.alloc (.cells #[.int .u8 c, .bool b, .int .u32 t] 29))) := (Fr.refl [] w7).alloc _
    have I8 : Hid ((w7.alloc (.cells #[.int .u8 c, .bool b, .int .u32 t] 29)).heap[w1.heap.size]? = some (.cells #[.int .u8 c, .bool b, .int .u32 t] 29)) := G7.out.keep I7.out (by simp)
    have J8 : Hid ((w7.alloc (.cells #[.int .u8 c, .bool b, .int .u32 t] 29)).heap[w7.heap.size]? = some (.cells #[.int .u8 c, .bool b, .int .u32 t] 29)) := by show (w7.heap.push _)[w7.heap.size]? = _; simp
    have RC8 : Hid (Rd (w7.alloc (.cells #[.int .u8 c, .bool b, .int .u32 t] 29)) qc (ws.drop st)) := u1.keep G7.out (by simp)
    have RT8 : Hid (Rd (w7.alloc (.cells #[.int .u8 c, .bool b, .int .u32 t] 29)) pt (ws.drop st)) := (RT5.out.keep u3 (by simp)).keep G7.out (by simp)
    have F8 : Hid (Fr [g1] w (w7.alloc (.cells #[.int .u8 c, .bool b, .int .u32 t] 29))) := F5.out.trans ((u3.trans G7.out).mono (by simp))
    have PC : Hid (Pl qc) := u2
    have i0 : (w7.alloc (.cells #[.int .u8 c, .bool b, .int .u32 t] 29)).cell? ⟨w1.heap.size, 0, none⟩ = some (.int .u8 c) := cell_of I8.out rfl
    have i1 : (w7.alloc (.cells #[.int .u8 c, .bool b, .int .u32 t] 29)).cell? ⟨w1.heap.size, 1, none⟩ = some (.bool b) := cell_of I8.out rfl
    have i2 : (w7.alloc (.cells #[.int .u8 c, .bool b, .int .u32 t] 29)).cell? ⟨w1.heap.size, 2, none⟩ = some (.int .u32 t) := cell_of I8.out rfl
    have j0 : (w7.alloc (.cells #[.int .u8 c, .bool b, .int .u32 t] 29)).cell? ⟨w7.heap.size, 0, none⟩ = some (.int .u8 c) := cell_of J8.out rfl
    have j1 : (w7.alloc (.cells #[.int .u8 c, .bool b, .int .u32 t] 29)).cell? ⟨w7.heap.size, 1, none⟩ = some (.bool b) := cell_of J8.out rfl
    have j2 : (w7.alloc (.cells #[.int .u8 c, .bool b, .int .u32 t] 29)).cell? ⟨w7.heap.size, 2, none⟩ = some (.int .u32 t) := cell_of J8.out rfl
    clear u1 u2 u3
    go_wp2_with fail
    generalize w7.alloc (.cells #[.int .u8 c, .bool b, .int .u32 t] 29) = w8 at *
    refine (equal_len qc pt cc ct n n (ws.drop st) w8 LT LT PC BT4.out.pl RC8 RT8).mono ?_
    rintro e w9 ⟨rfl, rfl⟩
    go_wp2_with fail
    go_ret
    exact ⟨by simp, F8.out.below (Nat.le_refl _) (by have := (V2.out.lt g1 (by simp [pb])).1; simpa using this)⟩

end Go.Proofs.YbulkbxkmFmt
