/-
  bytes.Equal; LawS3691AExact: the walk.
-/
import Derived.Test.YbulkbxkmIns2
import Derived.Test.YbulkbxkmHdr
namespace Go.Proofs.Ybulkbxkm
open Go.RowKit

theorem conv_string (w : World) (B : Nat) (p : Option Addr) (cap : Nat) (xs : List Int) (h : Bs w B p cap xs) : (convert 22 9 (.slice p xs.length cap)).run Yba.prog w = .ok (.string (strOfNums xs)) w := by
  rcases h.form with ⟨rfl, rfl, rfl⟩ | ⟨g, cur, rfl, _⟩
  · have := run_convert_bytes_nil (P := Yba.prog) w 22 5 Yba.underlying22 Yba.underlying5 ([] : List Int).length 0 9 Yba.underlying9
    rw [this]
    rfl
  · exact run_convert_bytes_arg (P := Yba.prog) w 22 5 Yba.underlying22 Yba.underlying5 g 0 xs.length cap xs rfl (fun i hi => by rw [Nat.zero_add]; exact h.cell i hi) 9 Yba.underlying9

theorem equal_same (B : Nat) (p q : Option Addr) (c d : Nat) (xs : List Int) (w : World) (h1 : Bs w B p c xs) (h2 : Bs w B q d xs) :
    Calls Yba.prog 10 #[.slice p xs.length c, .slice q xs.length d] w fun e w' => e = .returned (.bool true) ∧ w = w' := by
  have k1 := conv_string w B p c xs h1
  have k2 := conv_string w B q d xs h2
  clear h1 h2
  go_enter Yba.func10, Yba.ntmps10
  go_wp2
  go_ret
  exact ⟨by simp, rfl⟩

theorem exact_long (a : Option Addr) (len cap : Nat) (s pad cl tag : Int) (b : Bool) (w : World) (h : 1024 < len) :
    Calls Yba.prog 3 #[.slice a len cap, .int .u64 s, .int .u16 pad, .int .u8 cl, .bool b, .int .u32 tag] w fun e w' => e = .returned (.bool true) ∧ Below w.heap.size w w' := by
  go_enter Yba.func3, Yba.ntmps3
  go_wp2
  go_ret
  exact ⟨rfl, Below.refl _ _⟩

set_option maxRecDepth 100000 in
set_option maxHeartbeats 1000000 in
theorem exact_short (q : Option Addr) (len cap : Nat) (ys : List Int) (s pad cl : Int) (t : Nat) (b : Bool) (w : World) (hlen : ys.length = len) (hl : len ≤ 1024) (hq : q = none → cap = 0) (hr : Rd w q ys)
    (hs0 : 0 ≤ s) (hp0 : 0 ≤ pad) (hp1 : pad ≤ 65535) (hc0 : 0 ≤ cl) (hc1 : cl ≤ 255) (ht1 : t < 4294967296) :
    Calls Yba.prog 3 #[.slice q len cap, .int .u64 s, .int .u16 pad, .int .u8 cl, .bool b, .int .u32 t] w fun e w' => e = .returned (.bool true) ∧ Below w.heap.size w w' := by
  obtain ⟨st, hst⟩ : ∃ st : Nat, s % ((len : Int) + 1) = (st : Int) := ⟨(s % ((len : Int) + 1)).toNat, by have := Int.emod_nonneg s (show (len : Int) + 1 ≠ 0 by omega); omega⟩
  have hst1 : st ≤ len := by have := Int.emod_lt_of_pos s (show (0 : Int) < (len : Int) + 1 by omega); omega
  obtain ⟨c, hc⟩ : ∃ c, cl % 4 = c := ⟨_, rfl⟩
  have hc2 : 0 ≤ c := by omega
  have hc3 : c ≤ 3 := by omega
  have Hlen : Hid (ys.length = len) := hlen
  have Hr : Hid (Rd w q ys) := hr
  have Hq : Hid (q = none → cap = 0) := hq
  clear hlen hr hq
  go_enter Yba.func3, Yba.ntmps3
  go_wp2_with fail
  refine (work_any q len cap ys pad w Hlen hl Hq Hr hp0 hp1).mono ?_
  rintro e w1 ⟨g1, c1, ws, rfl, v1, v2, v3⟩
  have V1 : Hid (ws = ys ++ fill (pad % 300).toNat) := v1
  have V2 : Hid (Bs w1 w.heap.size (some ⟨g1, 0, none⟩) c1 ws) := v2
  have V3 : Hid (Fr [] w w1) := v3
  have hwl : len ≤ ws.length ∧ ws.length ≤ 1400 := by rw [v1, List.length_append, Hlen.out, fill_length]; omega
  clear v1 v2 v3
  obtain ⟨n, hn⟩ : ∃ n : Nat, (ws.length : Int) - (st : Int) = (n : Int) := ⟨ws.length - st, by omega⟩
  have Hn : Hid (st + n = ws.length) := by show _ = _; omega
  have hn6 : n ≤ 60000 := by omega
  have hcap : ws.length ≤ c1 := by
    rcases V2.out.form with ⟨h, _⟩ | ⟨_, _, _, _, _, h, _⟩
    · cases h
    · exact h
  have hstw : st ≤ c1 := by omega
  have hstl : st ≤ ws.length := by omega
  go_wp2_with fail
  refine (hdr_any c b t n _ hc2 hc3 ht1 hn6).mono ?_
  rintro e w3 ⟨ph, ch, hs, rfl, x1, x2, x3⟩
  have X1 : Hid (hs = hdrList c b t n) := x1
  have h9 : hs.length ≤ 9 := by rw [x1]; exact hdrList_length c b t n
  have h91 : 0 < hs.length := by rw [x1]; exact hdrList_pos c b t n
  obtain ⟨gh, rfl⟩ := x2.isRow h91
  have X2 : Hid (Bs w3 w.heap.size (some ⟨gh, 0, none⟩) ch hs) := x2.mono (fun k hk => by have h1 := (x2.lt k hk).1; have h2 := V3.out.size; simp at h1; omega)
  have HI : Hid ((w1.alloc (.cells #[.int .u8 c, .bool b, .int .u32 t] 29)).heap[w1.heap.size]? = some (.cells #[.int .u8 c, .bool b, .int .u32 t] 29)) := by show (w1.heap.push _)[w1.heap.size]? = _; simp
  have HI3 : Hid (w3.heap[w1.heap.size]? = some (.cells #[.int .u8 c, .bool b, .int .u32 t] 29)) := x3.keep HI.out (by simp)
  have F13 : Hid (Fr [] w1 w3) := ((Fr.refl [] w1).alloc _).trans x3
  have hgh : w1.heap.size < gh := by have := (x2.lt gh (by simp [pb])).1; simp at this; omega
  have hg1 : g1 < w1.heap.size := (V2.out.lt g1 (by simp [pb])).2
  have hgh3 : gh < w3.heap.size := (x2.lt gh (by simp [pb])).2
  have W3s : Hid (Bs w3 w.heap.size (some ⟨g1, 0, none⟩) c1 ws) := V2.out.keep F13.out (by simp)
  have hw3 : w.heap.size ≤ w3.heap.size := by have h1 := V3.out.size; have h2 := F13.out.size; omega
  clear x1 x2 x3 HI
  have hmk := run_make_bytes ((ws.length : Int) + (hs.length : Int)) (ws.length + hs.length) (by omega) (by omega)
  have Y0 : Hid (Bs (w3.alloc (.cells (zeros (ws.length + hs.length)) 5)) w.heap.size (some ⟨w3.heap.size, 0, none⟩) (ws.length + hs.length) []) := Bs.made w3 _ _ hw3 (by omega)
  have F34 : Hid (Fr [] w3 (w3.alloc (.cells (zeros (ws.length + hs.length)) 5))) := (Fr.refl [] w3).alloc _
  have W4s : Hid (Bs (w3.alloc (.cells (zeros (ws.length + hs.length)) 5)) w.heap.size (some ⟨g1, 0, none⟩) c1 ws) := W3s.out.keep F34.out (by simp)
  have X4 : Hid (Bs (w3.alloc (.cells (zeros (ws.length + hs.length)) 5)) w.heap.size (some ⟨gh, 0, none⟩) ch hs) := X2.out.keep F34.out (by simp)
  have R4 : Hid (Rd (w3.alloc (.cells (zeros (ws.length + hs.length)) 5)) (some ⟨g1, 0, none⟩) (ws.take st)) := by
    have := Rd.sub W4s.out.rd 0 (ws.take st) (fun j hj => by
      have h1 : j < st := by simp at hj; omega
      refine ⟨by omega, ?_⟩
      simp [List.getD, List.getElem?_take_of_lt h1])
    exact this
  have L4 : Hid ((ws.take st).length = st) := by show _ = _; simp; omega
  have B4 : Hid (([] : List Int).length + st ≤ 1000000) := by show _ ≤ _; simp; omega
  have S4 : Hid (w.heap.size ≤ (w3.alloc (.cells (zeros (ws.length + hs.length)) 5)).heap.size) := by show _ ≤ _; simp; omega
  go_upto_region 9 with (at_builtin; refine app_wp rfl (.tmp 52) (.tmp 55) rfl w.heap.size (some ⟨w3.heap.size, 0, none⟩) (ws.length + hs.length) [] rfl Y0 (some ⟨g1, 0, none⟩) st c1 (ws.take st) rfl L4 (by simp) R4 B4 S4 ?_; intro pw5 cw5 w5 o5 E1 E2 E3 E4)
  have o5l : o5.length ≤ 1400 := by rw [E1.out]; simp; omega
  have D5 : Hid (∀ y ∈ pb pw5, y ∉ pb (some ⟨g1, 0, none⟩)) := apart_step E4.out (fun y hy hm => by simp [pb] at hy hm; have := F13.out.size; omega) W4s.out
  have D5h : Hid (∀ y ∈ pb pw5, y ∉ pb (some ⟨gh, 0, none⟩)) := apart_step E4.out (fun y hy hm => by simp [pb] at hy hm; omega) X4.out
  have F35 : Hid (Fr [] w3 w5) := F34.out.trans' E3.out (fun x hx => Or.inr (by simp [pb] at hx; omega))
  have W5s : Hid (Bs w5 w.heap.size (some ⟨g1, 0, none⟩) c1 ws) := W3s.out.keep F35.out (by simp)
  have X5 : Hid (Bs w5 w.heap.size (some ⟨gh, 0, none⟩) ch hs) := X2.out.keep F35.out (by simp)
  have I5 : Hid (w5.heap[w1.heap.size]? = some (.cells #[.int .u8 c, .bool b, .int .u32 t] 29)) := F35.out.keep HI3.out (by simp)
  have S5 : Hid (w.heap.size ≤ w5.heap.size) := Nat.le_trans hw3 F35.out.size
  have R5 : Hid (Rd w5 (some ⟨gh, 0, none⟩) hs) := X5.out.rd
  have B5 : Hid (o5.length + hs.length ≤ 1000000) := by show _ ≤ _; omega
  have N5 : Hid (∀ y ∈ pb pw5, w3.heap.size ≤ y) := by
    intro y hy
    rcases E4.out with h | h
    · rw [h] at hy; simp [pb] at hy; omega
    · rw [h] at hy; simp [pb] at hy; omega
  have F15 : Hid (Fr [] w1 w5) := F13.out.trans F35.out
  have N56 : Hid (w3.heap.size ≤ w5.heap.size) := F35.out.size
  clear Y0 F34 W4s X4 R4 L4 B4 S4 hmk E3 E4 F35 F13 HI3 X2 W3s
  go_upto_region 10 with (at_builtin; refine app_wp rfl (.tmp 57) (.tmp 58) rfl w.heap.size pw5 cw5 o5 rfl E2 (some ⟨gh, 0, none⟩) hs.length ch hs rfl rfl (by simp) R5 B5 S5 ?_; intro pw6 cw6 w6 o6 G1 G2 G3 G4)
  have o6l : o6.length ≤ 1500 := by rw [G1.out]; simp; omega
  have D6 : Hid (∀ y ∈ pb pw6, y ∉ pb (some ⟨g1, 0, none⟩)) := apart_step G4.out D5.out W5s.out
  have W6s : Hid (Bs w6 w.heap.size (some ⟨g1, 0, none⟩) c1 ws) := W5s.out.keep G3.out (fun y hy hm => D5.out y hm hy)
  have I6 : Hid (w6.heap[w1.heap.size]? = some (.cells #[.int .u8 c, .bool b, .int .u32 t] 29)) := G3.out.keep I5.out (fun hm => by have := N5.out _ hm; omega)
  have S6 : Hid (w.heap.size ≤ w6.heap.size) := Nat.le_trans S5.out G3.out.size
  have N6 : Hid (∀ y ∈ pb pw6, w3.heap.size ≤ y) := by
    intro y hy
    rcases G4.out with h | h
    · rw [h] at hy; exact N5.out y hy
    · rw [h] at hy; simp [pb] at hy; subst hy; exact N56.out
  have F16 : Hid (Fr [] w1 w6) := F15.out.trans' G3.out (fun x hx => Or.inr (by have := N5.out x hx; omega))
  have L6 : Hid ((ws.drop st).length = ws.length - st) := by show _ = _; simp
  have B6 : Hid (o6.length + (ws.length - st) ≤ 1000000) := by show _ ≤ _; omega
  by_cases hcq : c1 = st
  · subst hcq
    have R6 : Hid (Rd w6 (some ⟨g1, 0, none⟩) (ws.drop c1)) := by
      have e : ws.drop c1 = [] := List.drop_eq_nil_of_le hcap
      rw [e]
      exact Or.inr ⟨g1, 0, rfl, fun j hj => by simp at hj⟩
    have L6' : Hid ((ws.drop c1).length = 0) := by show _ = _; simp; omega
    have B6' : Hid (o6.length + 0 ≤ 1000000) := by show _ ≤ _; omega
    have hd0 : ws.length - c1 = 0 := by omega
    go_upto_region 11 with (at_builtin; refine app_wp rfl (.tmp 60) (.tmp 63) rfl w.heap.size pw6 cw6 o6 rfl G2 (some ⟨g1, 0, none⟩) 0 0 (ws.drop c1) rfl L6' (by simp) R6 B6' S6 ?_; intro pw7 cw7 w7 o7 M1 M2 M3 M4)
    have o7e : Hid (o7 = ws.take c1 ++ hdrList c b t n ++ ws.drop c1) := by
      show _ = _
      rw [M1.out, G1.out, E1.out, X1.out]
      simp
    have D7 : Hid (∀ y ∈ pb pw7, y ∉ pb (some ⟨g1, 0, none⟩)) := apart_step M4.out D6.out W6s.out
    have W7s : Hid (Bs w7 w.heap.size (some ⟨g1, 0, none⟩) c1 ws) := W6s.out.keep M3.out (fun y hy hm => D6.out y hm hy)
    have I7 : Hid (w7.heap[w1.heap.size]? = some (.cells #[.int .u8 c, .bool b, .int .u32 t] 29)) := M3.out.keep I6.out (fun hm => by have := N6.out _ hm; omega)
    have S7 : Hid (w.heap.size ≤ w7.heap.size) := Nat.le_trans S6.out M3.out.size
    have F17 : Hid (Fr [] w1 w7) := F16.out.trans' M3.out (fun x hx => Or.inr (by have := N6.out x hx; omega))
    have i0 : w7.cell? ⟨w1.heap.size, 0, none⟩ = some (.int .u8 c) := cell_of I7.out rfl
    have i1 : w7.cell? ⟨w1.heap.size, 1, none⟩ = some (.bool b) := cell_of I7.out rfl
    have i2 : w7.cell? ⟨w1.heap.size, 2, none⟩ = some (.int .u32 t) := cell_of I7.out rfl
    go_wp2_with fail
    refine (insert_any w.heap.size (some ⟨g1, 0, none⟩) c1 ws c1 c b t n _ W7s S7 Hn (by omega) hc2 hc3 ht1).mono ?_
    rintro e w8 ⟨pg, cg, zs, rfl, y1, y2, y3⟩
    have Y7 : Hid (Bs w8 w.heap.size pw7 cw7 o7) := M2.out.keep y3 (fun y hy hm => D7.out y hy hm)
    have hzs : zs = o7 := by rw [y1, o7e.out]
    subst hzs
    have Y2 : Hid (Bs w8 w.heap.size pg cg zs) := y2
    have HB8 : Hid (Below w.heap.size w w8) := by
      have f1 : Fr [g1] w w8 := ((V3.out.mono (by simp)).trans (F17.out.mono (by simp))).trans (y3.mono (by simp [pb]))
      exact f1.below (Nat.le_refl _) (by have := (V2.out.lt g1 (by simp [pb])).1; simpa using this)
    clear y1 y2 y3
    go_wp2_with fail
    refine (equal_same w.heap.size pg pw7 cg cw7 zs w8 Y2 Y7).mono ?_
    rintro e w9 ⟨rfl, rfl⟩
    go_wp2_with fail
    go_ret
    exact ⟨rfl, HB8⟩
  · have R6 : Hid (Rd w6 (some ⟨g1, st, none⟩) (ws.drop st)) := by
      have := Rd.sub W6s.out.rd st (ws.drop st) (fun j hj => by
        simp at hj
        refine ⟨by omega, ?_⟩
        simp [List.getD])
      show Rd _ _ _
      simpa using this
    go_upto_region 11 with (at_builtin; refine app_wp rfl (.tmp 60) (.tmp 63) rfl w.heap.size pw6 cw6 o6 rfl G2 (some ⟨g1, st, none⟩) (ws.length - st) (c1 - st) (ws.drop st) rfl L6 (by simp) R6 B6 S6 ?_; intro pw7 cw7 w7 o7 M1 M2 M3 M4)
    have o7e : Hid (o7 = ws.take st ++ hdrList c b t n ++ ws.drop st) := by
      show _ = _
      rw [M1.out, G1.out, E1.out, X1.out]
      simp
    have D7 : Hid (∀ y ∈ pb pw7, y ∉ pb (some ⟨g1, 0, none⟩)) := apart_step M4.out D6.out W6s.out
    have W7s : Hid (Bs w7 w.heap.size (some ⟨g1, 0, none⟩) c1 ws) := W6s.out.keep M3.out (fun y hy hm => D6.out y hm hy)
    have I7 : Hid (w7.heap[w1.heap.size]? = some (.cells #[.int .u8 c, .bool b, .int .u32 t] 29)) := M3.out.keep I6.out (fun hm => by have := N6.out _ hm; omega)
    have S7 : Hid (w.heap.size ≤ w7.heap.size) := Nat.le_trans S6.out M3.out.size
    have F17 : Hid (Fr [] w1 w7) := F16.out.trans' M3.out (fun x hx => Or.inr (by have := N6.out x hx; omega))
    have i0 : w7.cell? ⟨w1.heap.size, 0, none⟩ = some (.int .u8 c) := cell_of I7.out rfl
    have i1 : w7.cell? ⟨w1.heap.size, 1, none⟩ = some (.bool b) := cell_of I7.out rfl
    have i2 : w7.cell? ⟨w1.heap.size, 2, none⟩ = some (.int .u32 t) := cell_of I7.out rfl
    go_wp2_with fail
    refine (insert_any w.heap.size (some ⟨g1, 0, none⟩) c1 ws st c b t n _ W7s S7 Hn (by omega) hc2 hc3 ht1).mono ?_
    rintro e w8 ⟨pg, cg, zs, rfl, y1, y2, y3⟩
    have Y7 : Hid (Bs w8 w.heap.size pw7 cw7 o7) := M2.out.keep y3 (fun y hy hm => D7.out y hy hm)
    have hzs : zs = o7 := by rw [y1, o7e.out]
    subst hzs
    have Y2 : Hid (Bs w8 w.heap.size pg cg zs) := y2
    have HB8 : Hid (Below w.heap.size w w8) := by
      have f1 : Fr [g1] w w8 := ((V3.out.mono (by simp)).trans (F17.out.mono (by simp))).trans (y3.mono (by simp [pb]))
      exact f1.below (Nat.le_refl _) (by have := (V2.out.lt g1 (by simp [pb])).1; simpa using this)
    clear y1 y2 y3
    go_wp2_with fail
    refine (equal_same w.heap.size pg pw7 cg cw7 zs w8 Y2 Y7).mono ?_
    rintro e w9 ⟨rfl, rfl⟩
    go_wp2_with fail
    go_ret
    exact ⟨rfl, HB8⟩

end Go.Proofs.Ybulkbxkm
