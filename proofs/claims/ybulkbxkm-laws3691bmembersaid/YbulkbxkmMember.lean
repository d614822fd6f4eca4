/-
  LawS3691BMember.
-/
import Derived.Test.YbulkbxkmModel
namespace Go.Proofs.Ybulkbxkm
open Go.RowKit

theorem bigB_acc0 (Y : Nat → List Int) (a : List Int) : acc 0 Y a = false := rfl

theorem clone_len (p : Option Addr) (d L : Nat) (ys : List Int) (w : World) (hL : ys.length = L) (hl : L ≤ 2000) (h1 : U w p ys) :
    Calls Yba.prog 13 #[.slice p L d] w fun e w' => ∃ p' c', e = .returned (.slice p' L c') ∧ U w' p' ys ∧ Fr [] w w' := by
  subst hL
  refine (clone_any p d ys w hl h1).mono ?_
  rintro e w' ⟨p', c', rfl, h2, h3, h4⟩
  exact ⟨p', c', rfl, h2, h4⟩
theorem accepts_len (eb : Nat) (p q : Option Addr) (n cap d L : Nat) (P : Nat → Option Addr) (C : Nat → Nat) (Y : Nat → List Int) (zs : List Int) (w : World) (hL : zs.length = L) (hn : n ≤ 1024) (hl : ∀ i, i < n → (Y i).length ≤ 1024) (he : w.cell? ⟨eb, 11, none⟩ = some (.slice p n cap)) (h1 : RowsOf w p n P C Y) (h2 : U w q zs) :
    Calls Yba.prog 14 #[.pointer (some ⟨eb, 0, none⟩), .slice q L d] w fun e w' => e = .returned (.bool (acc n Y zs)) ∧ ∃ m, w' = w.drewN m := by
  subst hL
  exact accepts_any eb p q n cap d P C Y zs w hn hl he h1 h2
theorem model_len (p q : Option Addr) (n cap d L : Nat) (P : Nat → Option Addr) (C : Nat → Nat) (Y : Nat → List Int) (zs : List Int) (w : World) (hL : zs.length = L) (hn : n ≤ 1024) (hl : ∀ i, i < n → (Y i).length ≤ 1024) (h1 : RowsOf w p n P C Y) (h2 : U w q zs) :
    Calls Yba.prog 15 #[.slice p n cap, .slice q L d] w fun e w' => e = .returned (.bool (acc n Y zs)) ∧ ∃ m, w' = w.drewN m := by
  subst hL
  exact model_any p q n cap d P C Y zs w hn hl h1 h2

set_option maxHeartbeats 1000000 in
theorem member_big (p : Option Addr) (n cap : Nat) (sel extra : Int) (P : Nat → Option Addr) (C : Nat → Nat) (Y : Nat → List Int) (w : World) (hbig : bigB n 0 Y = true) (h1 : RowsOf w p n P C Y) :
    Calls Yba.prog 5 #[.slice p n cap, .int .u64 sel, .int .u64 extra] w fun e w' => e = .returned (.bool true) ∧ Below w.heap.size w w' := by
  have H1 : Hid (RowsOf w p n P C Y) := h1
  clear h1
  go_enter Yba.func5, Yba.ntmps5
  go_wp2_with fail
  refine (big_any p none n cap 0 0 P C Y w H1).mono ?_
  rintro e w' ⟨rfl, rfl⟩
  go_wp2_with fail
  go_ret
  exact ⟨rfl, Below.refl _ _⟩

set_option maxHeartbeats 1000000 in
theorem member_none (p : Option Addr) (cap : Nat) (sel extra : Int) (P : Nat → Option Addr) (C : Nat → Nat) (Y : Nat → List Int) (w : World) (h1 : RowsOf w p 0 P C Y) :
    Calls Yba.prog 5 #[.slice p 0 cap, .int .u64 sel, .int .u64 extra] w fun e w' => e = .returned (.bool true) ∧ Below w.heap.size w w' := by
  have H1 : Hid (RowsOf w p 0 P C Y) := h1
  clear h1
  have hb : bigB 0 0 Y = false := rfl
  have B3 : Hid (∀ i, i < 0 → (Y i).length ≤ 1024) := fun i hi => by omega
  go_enter Yba.func5, Yba.ntmps5
  go_wp2_with fail
  refine (big_any p none 0 cap 0 0 P C Y w H1).mono ?_
  rintro e w' ⟨rfl, rfl⟩
  go_wp2_with fail
  refine (copy_any p 0 cap P C Y w (by omega) B3.out (fun _ => rfl) H1).mono ?_
  rintro e w1 ⟨p1, c1, P1, C1, rfl, r1, r2⟩
  have R1 : Hid (RowsOf w1 p1 0 P1 C1 Y) := r1
  have F1 : Hid (Fr [] w w1) := r2
  clear r1 r2
  go_wp2_with fail
  change Calls _ _ _ ((w1.alloc (epObj p1 0 c1)).alloc (.cells #[.int .u64 extra] 68)) _
  have F2 : Hid (Fr [] (w1.alloc (epObj p1 0 c1)) ((w1.alloc (epObj p1 0 c1)).alloc (.cells #[.int .u64 extra] 68))) := (Fr.refl [] _).alloc _
  have G2 : Hid (Fr [] w1 ((w1.alloc (epObj p1 0 c1)).alloc (.cells #[.int .u64 extra] 68))) := ((Fr.refl [] w1).alloc _).trans F2.out
  have U2 : Hid (U ((w1.alloc (epObj p1 0 c1)).alloc (.cells #[.int .u64 extra] 68)) (some ⟨w1.heap.size + 1, 0, none⟩) [extra]) := by
    refine Or.inr ⟨_, _, rfl, fun j hj => ?_⟩
    have hj0 : j = 0 := by simpa using hj
    subst hj0
    have h := blk_new (w1.alloc (epObj p1 0 c1)) (.cells #[.int .u64 extra] 68)
    have hs : (w1.alloc (epObj p1 0 c1)).heap.size = w1.heap.size + 1 := by show (w1.heap.push _).size = _; simp
    rw [hs] at h
    exact cell_in h rfl
  generalize (w1.alloc (epObj p1 0 c1)).alloc (.cells #[.int .u64 extra] 68) = w2 at *
  have hc2 : w2.cell? ⟨w1.heap.size, 11, none⟩ = some (.slice p1 0 c1) := ep_cell F2.out
  refine (accepts_any w1.heap.size p1 (some ⟨w1.heap.size + 1, 0, none⟩) 0 c1 1 P1 C1 Y [extra] w2 (by omega) B3 hc2 (R1.out.keep G2.out) U2).mono ?_
  rintro e w4 ⟨rfl, m4, rfl⟩
  have ha : acc 0 Y [extra] = false := rfl
  have ha0 : acc 0 Y [] = false := rfl
  have F4 : Hid (Fr [] w1 (w2.drewN m4)) := G2.out.trans (Fr.draws w2 m4)
  have hc4 : (w2.drewN m4).cell? ⟨w1.heap.size, 11, none⟩ = some (.slice p1 0 c1) := hc2
  generalize w2.drewN m4 = w4 at *
  go_wp2_with fail
  refine (accepts_any w1.heap.size p1 none 0 c1 0 P1 C1 Y [] w4 (by omega) B3 hc4 (R1.out.keep F4.out) (Or.inl rfl)).mono ?_
  rintro e w5 ⟨rfl, m5, rfl⟩
  have F5 : Hid (Fr [] w (w4.drewN m5)) := (F1.out.trans F4.out).trans (Fr.draws w4 m5)
  generalize w4.drewN m5 = w5 at *
  go_wp2_with fail
  go_ret
  exact ⟨by simp, F5.out.below (Nat.le_refl _) (by simp)⟩

set_option maxHeartbeats 1000000 in
theorem member_some (ad : Addr) (n cap k : Nat) (sel extra : Int) (P : Nat → Option Addr) (C : Nat → Nat) (Y : Nat → List Int) (w : World) (hn : 0 < n) (hk : k < n) (hs : sel % (n : Int) = (k : Int)) (hs0 : 0 ≤ sel) (hs1 : sel < 18446744073709551616)
    (b1 : n ≤ 1024) (b3 : ∀ i, i < n → (Y i).length ≤ 1024) (h1 : RowsOf w (some ad) n P C Y) :
    Calls Yba.prog 5 #[.slice (some ad) n cap, .int .u64 sel, .int .u64 extra] w fun e w' => e = .returned (.bool true) ∧ Below w.heap.size w w' := by
  have H1 : Hid (RowsOf w (some ad) n P C Y) := h1
  have B3 : Hid (∀ i, i < n → (Y i).length ≤ 1024) := b3
  have hyk := b3 k hk
  have hb : bigB n 0 Y = false := bigB_false b1 (by omega) b3
  clear h1 b3
  go_enter Yba.func5, Yba.ntmps5
  go_wp2_with fail
  refine (big_any (some ad) none n cap 0 0 P C Y w H1).mono ?_
  rintro e w' ⟨rfl, rfl⟩
  go_wp2_with fail
  refine (copy_any (some ad) n cap P C Y w b1 B3 (by simp) H1).mono ?_
  rintro e w1 ⟨p1, c1, P1, C1, rfl, r1, r2⟩
  have R1 : Hid (RowsOf w1 p1 n P1 C1 Y) := r1
  have F1 : Hid (Fr [] w w1) := r2
  clear r1 r2
  obtain ⟨b, o, e0, _⟩ := H1.out.at k hk
  cases e0
  have E2 : Hid (Fr [] (w1.alloc (epObj p1 n c1)) (w1.alloc (epObj p1 n c1))) := Fr.refl _ _
  have F2 : Hid (Fr [] w1 (w1.alloc (epObj p1 n c1))) := (Fr.refl [] w1).alloc _
  obtain ⟨b', o', e1, ck, uk⟩ := ((H1.out.keep F1.out).keep F2.out).at k hk
  cases e1
  have UK : Hid (U (w1.alloc (epObj p1 n c1)) (P k) (Y k)) := uk
  clear uk
  unfold epObj at ck
  go_wp2_with fail
  change Calls _ _ _ (w1.alloc (epObj p1 n c1)) _
  refine (clone_any (P k) (C k) (Y k) _ (by omega) UK).mono ?_
  rintro e w3 ⟨p3, c3, rfl, v1, v2, v3⟩
  have U3 : Hid (U w3 p3 (Y k)) := v1
  have F3 : Hid (Fr [] w1 w3) := F2.out.trans v3
  have C3 : Hid (Fr [] (w1.alloc (epObj p1 n c1)) w3) := v3
  have hc3 : w3.cell? ⟨w1.heap.size, 11, none⟩ = some (.slice p1 n c1) := ep_cell C3.out
  clear v1 v2 v3 F2 E2 UK ck
  have hacc : acc n Y (Y k) = true := acc_yes hk rfl
  go_wp2_with fail
  refine (accepts_any w1.heap.size p1 p3 n c1 c3 P1 C1 Y (Y k) w3 b1 B3 hc3 (R1.out.keep F3.out) U3).mono ?_
  rintro e w4 ⟨rfl, m4, rfl⟩
  have F4 : Hid (Fr [] w (w3.drewN m4)) := F1.out.trans (F3.out.trans (Fr.draws w3 m4))
  have G4 : Hid (Fr [] w1 (w3.drewN m4)) := F3.out.trans (Fr.draws w3 m4)
  have C4 : Hid (Fr [] (w1.alloc (epObj p1 n c1)) (w3.drewN m4)) := C3.out.trans (Fr.draws w3 m4)
  clear hc3 C3 F3 U3
  generalize w3.drewN m4 = w4 at *
  obtain ⟨b', o', e1, ck, uk⟩ := (H1.out.keep F4.out).at k hk
  cases e1
  clear uk
  have hmk := run_make_u64 35 Yba.underlying35 ((Y k).length + 1 : Int) ((Y k).length + 1) (by omega) (by omega)
  have hgl : ∀ j, j < (Y k).length → (Y k ++ [extra]).getD j 0 = (Y k).getD j 0 := fun j hj => by simp [List.getD, List.getElem?_append_left hj]
  have hge : (Y k ++ [extra]).getD (Y k).length 0 = extra := by simp [List.getD]
  have hlen : (Y k ++ [extra]).length = (Y k).length + 1 := by simp
  have HGL : Hid (∀ j, j < (Y k).length → (Y k ++ [extra]).getD j 0 = (Y k).getD j 0) := hgl
  have HGE : Hid ((Y k ++ [extra]).getD (Y k).length 0 = extra) := hge
  have HLEN : Hid ((Y k ++ [extra]).length = (Y k).length + 1) := hlen
  clear hgl hge hlen
  have A0 : Hid (Filled (w4.alloc (.cells (madeCells #[.int .u64 0] ((Y k).length + 1)) 68)) w4.heap.size ((Y k).length + 1) (Y k ++ [extra]) 0) := ⟨_, blk_new w4 _, size_madeCells _ _, fun j hj => by omega⟩
  have R0 : Hid (Fr [] w4 (w4.alloc (.cells (madeCells #[.int .u64 0] ((Y k).length + 1)) 68))) := (Fr.refl _ w4).alloc _
  go_wp2_with fail
  go_loopw [10] (fun i wr => ∃ j : Nat, j ≤ (Y k).length ∧ i = .int .i64 j ∧ Hid (Filled wr w4.heap.size ((Y k).length + 1) (Y k ++ [extra]) j) ∧ Hid (Fr [] w4 wr)) (fun i _ => (Y k).length - (intOf i).toNat)
  case atStart => exact ⟨0, Nat.zero_le _, rfl, A0, R0⟩
  case round =>
    clear A0 R0 hmk ck
    obtain ⟨j, hj, rfl, HF, HR⟩ := hrel
    obtain ⟨b', o', e1, ck, uk⟩ := ((H1.out.keep F4.out).keep HR.out).at k hk
    cases e1
    have UK : Hid (U wr (P k) (Y k)) := uk
    clear uk
    by_cases hlt : j < (Y k).length
    · obtain ⟨b2, o2, e2, c2⟩ := UK.out.at j hlt
      obtain ⟨⟨v, c4⟩, z4⟩ := HF.out.cell j (by omega)
      have HS : Hid (∀ y, (Y k).getD j 0 = y → Filled (wr.setCell ⟨w4.heap.size, j, none⟩ (.int .u64 y)) w4.heap.size ((Y k).length + 1) (Y k ++ [extra]) (j + 1)) := fun y hy => HF.out.step (by omega) y ((HGL.out j hlt).trans hy)
      generalize (Y k).getD j 0 = yk at *
      go_wp2
      go_roundw
      case rel => exact ⟨j + 1, by omega, by go_num, HS.out yk rfl, HR.out.setCell (Or.inr (Nat.le_refl _)) _⟩
      case measure => simp [intOf]; omega
    · obtain rfl : j = (Y k).length := by omega
      obtain ⟨⟨v, c4⟩, z4⟩ := HF.out.cell (Y k).length (by omega)
      have HS : Hid (Filled (wr.setCell ⟨w4.heap.size, (Y k).length, none⟩ (.int .u64 extra)) w4.heap.size ((Y k).length + 1) (Y k ++ [extra]) ((Y k).length + 1)) := HF.out.step (by omega) extra HGE.out
      have HR2 : Hid (Fr [] w4 (wr.setCell ⟨w4.heap.size, (Y k).length, none⟩ (.int .u64 extra))) := HR.out.setCell (Or.inr (Nat.le_refl _)) _
      go_wp2_with fail
      generalize wr.setCell ⟨w4.heap.size, (Y k).length, none⟩ (.int .u64 extra) = w5 at *
      have hL5 : (Y k ++ [extra]).length = (Y k).length + 1 := HLEN.out
      have U5 : Hid (U w5 (some ⟨w4.heap.size, 0, none⟩) (Y k ++ [extra])) := HS.out.done (by omega)
      have HL5 : Hid ((Y k ++ [extra]).length = (Y k).length + 1) := hL5
      clear hL5 HLEN HGE HGL HS HF HR c4 z4 ck UK
      generalize Y k ++ [extra] = zs at *
      refine (clone_len _ _ _ zs w5 HL5.out (by omega) U5).mono ?_
      rintro e w6 ⟨p6, c6, rfl, v1, v2⟩
      have U6 : Hid (U w6 p6 zs) := v1
      have V6 : Hid (Fr [] w5 w6) := v2
      have C6 : Hid (Fr [] (w1.alloc (epObj p1 n c1)) w6) := C4.out.trans (HR2.out.trans v2)
      have F6 : Hid (Fr [] w1 w6) := G4.out.trans (HR2.out.trans v2)
      have hc6 : w6.cell? ⟨w1.heap.size, 11, none⟩ = some (.slice p1 n c1) := ep_cell C6.out
      clear v1 v2
      go_wp2_with fail
      refine (accepts_len w1.heap.size p1 p6 n c1 c6 _ P1 C1 Y zs w6 HL5.out b1 B3 hc6 (R1.out.keep F6.out) U6).mono ?_
      rintro e w7 ⟨rfl, m7, rfl⟩
      have V7 : Hid (Fr [] w5 (w6.drewN m7)) := V6.out.trans (Fr.draws w6 m7)
      have F7 : Hid (Fr [] w1 (w6.drewN m7)) := F6.out.trans (Fr.draws w6 m7)
      have C7 : Hid (Fr [] (w1.alloc (epObj p1 n c1)) (w6.drewN m7)) := C6.out.trans (Fr.draws w6 m7)
      clear hc6
      generalize w6.drewN m7 = w7 at *
      go_wp2_with fail
      refine (model_len _ _ n cap _ _ P C Y zs w7 HL5.out b1 B3 ((H1.out.keep F1.out).keep F7.out) (U5.out.fr V7.out)).mono ?_
      rintro e w8 ⟨rfl, m8, rfl⟩
      have F8 : Hid (Fr [] w1 (w7.drewN m8)) := F7.out.trans (Fr.draws w7 m8)
      have hc8 : (w7.drewN m8).cell? ⟨w1.heap.size, 11, none⟩ = some (.slice p1 n c1) := ep_cell (C7.out.trans (Fr.draws w7 m8))
      have hne : (acc n Y zs != acc n Y zs) = false := by simp
      generalize w7.drewN m8 = w8 at *
      go_wp2_with fail
      refine (kept_any w1.heap.size p1 _ n c1 cap P1 P C1 C Y w8 b1 B3 hc8 (R1.out.keep F8.out) ((H1.out.keep F1.out).keep F8.out)).mono ?_
      rintro e w9 ⟨rfl, m9, rfl⟩
      have F9 : Hid (Fr [] w (w8.drewN m9)) := (F1.out.trans F8.out).trans (Fr.draws w8 m9)
      generalize w8.drewN m9 = w9 at *
      go_wp2_with fail
      go_ret
      exact ⟨by simp, F9.out.below (Nat.le_refl _) (by simp)⟩

theorem member_law (p : Option Addr) (n cap : Nat) (sel extra : Int) (P : Nat → Option Addr) (C : Nat → Nat) (Y : Nat → List Int) (w : World) (hs0 : 0 ≤ sel) (hs1 : sel < 18446744073709551616) (hp : p = none → n = 0) (h1 : RowsOf w p n P C Y) :
    Calls Yba.prog 5 #[.slice p n cap, .int .u64 sel, .int .u64 extra] w fun e w' => e = .returned (.bool true) ∧ Below w.heap.size w w' := by
  by_cases hbig : bigB n 0 Y = true
  · exact member_big p n cap sel extra P C Y w hbig h1
  · obtain ⟨b1, b2, b3⟩ := bigB_no (by simpa using hbig)
    rcases Nat.eq_zero_or_pos n with h0 | h0
    · subst h0
      exact member_none p cap sel extra P C Y w h1
    · rcases p with _ | ad
      · have := hp rfl; omega
      · have hm : sel % (n : Int) = ((sel.toNat % n : Nat) : Int) := by
          rw [Int.natCast_emod, Int.toNat_of_nonneg hs0]
        exact member_some ad n cap (sel.toNat % n) sel extra P C Y w h0 (Nat.mod_lt _ h0) hm hs0 hs1 b1 b3 h1

end Go.Proofs.Ybulkbxkm
