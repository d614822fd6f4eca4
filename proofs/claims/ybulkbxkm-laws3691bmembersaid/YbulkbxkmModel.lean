/-
  LawS3691BModel: the walk.
-/
import Derived.Test.YbulkbxkmClone
namespace Go.Proofs.Ybulkbxkm
open Go.RowKit

theorem U.fr {w w' : World} {p : Option Addr} {ys : List Int} (h : U w p ys) (hf : Fr [] w w') : U w' p ys := h.keep hf (by simp)
theorem Fr.draws (w : World) (n : Nat) : Fr [] w (w.drewN n) := (Fr.refl _ w).drewN n

/-- A new Endpoint whose contexts are the slice. -/
def epObj (p : Option Addr) (n c : Nat) : Obj :=
  .cells #[.nilIface, .bool false, .bool false, .int .i64 0, .bool false, .int .i64 0, .int .i64 0, .int .i64 0, .int .i64 0, .int .i64 0, .string ⟨#[]⟩, .slice p n c, .bool false, .pointer none, .int .u32 0, .int .i32 0, .int .u32 0, .map none, .map none, .map none, .int .i64 0] 62
theorem ep_cell {w w' : World} {p : Option Addr} {n c : Nat} (h : Fr [] (w.alloc (epObj p n c)) w') : w'.cell? ⟨w.heap.size, 11, none⟩ = some (.slice p n c) := by
  have h1 : w'.heap[w.heap.size]? = some (epObj p n c) := h.keep (blk_new w _) (by simp)
  exact cell_in h1 rfl

set_option maxHeartbeats 1000000 in
theorem model_law (p q : Option Addr) (n cap d : Nat) (P : Nat → Option Addr) (C : Nat → Nat) (Y : Nat → List Int) (zs : List Int) (w : World) (hp : p = none → n = 0) (h1 : RowsOf w p n P C Y) (h2 : U w q zs) :
    Calls Yba.prog 4 #[.slice p n cap, .slice q zs.length d] w fun e w' => e = .returned (.bool true) ∧ Below w.heap.size w w' := by
  have H1 : Hid (RowsOf w p n P C Y) := h1
  have H2 : Hid (U w q zs) := h2
  have Hp : Hid (p = none → n = 0) := hp
  clear h1 h2 hp
  by_cases hbig : bigB n zs.length Y = true
  · go_enter Yba.func4, Yba.ntmps4
    go_wp2_with fail
    refine (big_any p q n cap zs.length d P C Y w H1).mono ?_
    rintro e w' ⟨rfl, rfl⟩
    go_wp2_with fail
    go_ret
    exact ⟨rfl, Below.refl _ _⟩
  · have hbig' : bigB n zs.length Y = false := by simpa using hbig
    obtain ⟨b1, b2, b3⟩ := bigB_no hbig'
    have B3 : Hid (∀ i, i < n → (Y i).length ≤ 1024) := b3
    clear hbig b3
    go_enter Yba.func4, Yba.ntmps4
    go_wp2_with fail
    refine (big_any p q n cap zs.length d P C Y w H1).mono ?_
    rintro e w' ⟨rfl, rfl⟩
    go_wp2_with fail
    refine (copy_any p n cap P C Y w b1 B3 Hp H1).mono ?_
    rintro e w1 ⟨p1, c1, P1, C1, rfl, r1, r2⟩
    have R1 : Hid (RowsOf w1 p1 n P1 C1 Y) := r1
    have F1 : Hid (Fr [] w w1) := r2
    clear r1 r2
    go_wp2_with fail
    change Calls _ _ _ (w1.alloc (epObj p1 n c1)) _
    have F2 : Hid (Fr [] w1 (w1.alloc (epObj p1 n c1))) := (Fr.refl [] w1).alloc _
    have E2 : Hid (Fr [] (w1.alloc (epObj p1 n c1)) (w1.alloc (epObj p1 n c1))) := Fr.refl _ _
    have U2 : Hid (U (w1.alloc (epObj p1 n c1)) q zs) := (H2.out.fr F1.out).fr F2.out
    refine (clone_any q d zs _ (by omega) U2).mono ?_
    rintro e w3 ⟨p3, c3, rfl, v1, v2, v3⟩
    have U3 : Hid (U w3 p3 zs) := v1
    have F3 : Hid (Fr [] w1 w3) := F2.out.trans v3
    have C3 : Hid (Fr [] (w1.alloc (epObj p1 n c1)) w3) := v3
    have hc3 : w3.cell? ⟨w1.heap.size, 11, none⟩ = some (.slice p1 n c1) := ep_cell C3.out
    clear v1 v2 v3 F2 E2 U2
    go_wp2_with fail
    refine (accepts_any w1.heap.size p1 p3 n c1 c3 P1 C1 Y zs w3 b1 B3 hc3 (R1.out.keep F3.out) U3).mono ?_
    rintro e w4 ⟨rfl, m4, rfl⟩
    have F4 : Hid (Fr [] w1 (w3.drewN m4)) := F3.out.trans (Fr.draws w3 m4)
    have C4 : Hid (Fr [] (w1.alloc (epObj p1 n c1)) (w3.drewN m4)) := C3.out.trans (Fr.draws w3 m4)
    have U4 : Hid (U (w3.drewN m4) p3 zs) := U3
    clear hc3
    generalize w3.drewN m4 = w4 at *
    go_wp2_with fail
    refine (model_any p q n cap d P C Y zs w4 b1 B3 ((H1.out.keep F1.out).keep F4.out) ((H2.out.fr F1.out).fr F4.out)).mono ?_
    rintro e w5 ⟨rfl, m5, rfl⟩
    have F5 : Hid (Fr [] w1 (w4.drewN m5)) := F4.out.trans (Fr.draws w4 m5)
    have hc5 : (w4.drewN m5).cell? ⟨w1.heap.size, 11, none⟩ = some (.slice p1 n c1) := ep_cell (C4.out.trans (Fr.draws w4 m5))
    have U5 : Hid (U (w4.drewN m5) p3 zs) := U4
    have hne : (acc n Y zs != acc n Y zs) = false := by simp
    generalize w4.drewN m5 = w5 at *
    go_wp2_with fail
    refine (kept_any w1.heap.size p1 p n c1 cap P1 P C1 C Y w5 b1 B3 hc5 (R1.out.keep F5.out) ((H1.out.keep F1.out).keep F5.out)).mono ?_
    rintro e w6 ⟨rfl, m6, rfl⟩
    have F6 : Hid (Fr [] w1 (w5.drewN m6)) := F5.out.trans (Fr.draws w5 m6)
    have U6 : Hid (U (w5.drewN m6) p3 zs) := U5
    generalize w5.drewN m6 = w6 at *
    go_wp2_with fail
    refine (same_any p3 q c3 d zs zs w6 (by omega) U6 ((H2.out.fr F1.out).fr F6.out)).mono ?_
    rintro e w7 ⟨rfl, m7, rfl⟩
    have F7 : Hid (Fr [] w (w6.drewN m7)) := (F1.out.trans F6.out).trans (Fr.draws w6 m7)
    have hd : decide (zs = zs) = true := by simp
    generalize w6.drewN m7 = w7 at *
    go_wp2_with fail
    go_ret
    exact ⟨by simp, F7.out.below (Nat.le_refl _) (by simp)⟩

end Go.Proofs.Ybulkbxkm
