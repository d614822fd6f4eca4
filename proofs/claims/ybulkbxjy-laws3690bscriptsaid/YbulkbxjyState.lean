/-
  The state of a queue that only grows; push, Push, PushCounted, Len, Counted over it.
-/
import Derived.Test.YbulkbxjyPush2
namespace Go.Proofs.Ybulkbxjy
open Go.RowKit

def CapS (w : World) (B0 : Nat) (c : Option Addr) (n : Nat) : Prop :=
  (c = none ∧ n = 0) ∨ ∃ cb, c = some ⟨cb, 0, none⟩ ∧ B0 ≤ cb ∧ w.heap[cb]? = some (.cells (capCells n) 64)

def TailS (w : World) (B0 : Nat) (h t : Option Addr) (tot : Nat) : Prop :=
  (h = none ∧ t = none ∧ tot = 0) ∨ ∃ (hb tb sb L cl : Nat) (nx : Option Addr) (cl' : Int) (sb' L' : Nat) (nx' : Option Addr) (cs : Array Value),
    h = some ⟨hb, 0, none⟩ ∧ t = some ⟨tb, 0, none⟩ ∧ B0 ≤ tb ∧ B0 ≤ sb ∧
    w.heap[tb]? = some (.cells (kCells cl sb L ((L : Int) - 4) nx) 75) ∧ w.heap[hb]? = some (.cells (kCells cl' sb' L' 0 nx') 75) ∧
    w.heap[sb]? = some (.cells cs 89) ∧ cs.size = 2 * L ∧ P2 L ∧ cl ≤ L ∧ tot + 4 = L + cl

def QS (w : World) (B0 qb n tot : Nat) : Prop :=
  ∃ h t c, w.heap[qb]? = some (.cells (qCells h t c) 39) ∧ B0 ≤ qb ∧ CapS w B0 c n ∧ TailS w B0 h t tot

theorem CapS.keep {w w' : World} {B0 : Nat} {c : Option Addr} {n : Nat} {S : List Nat} (h : CapS w B0 c n) (hf : Fr S w w') (hn : ∀ cb, w.heap[cb]? = some (.cells (capCells n) 64) → cb ∉ S) : CapS w' B0 c n := by
  rcases h with h | ⟨cb, h1, h2, h3⟩
  · exact Or.inl h
  · exact Or.inr ⟨cb, h1, h2, hf.keep h3 (hn cb h3)⟩

theorem TailS.keep {w w' : World} {B0 : Nat} {h t : Option Addr} {n : Nat} {S : List Nat} (k : TailS w B0 h t n) (hf : Fr S w w')
    (hn : ∀ b cs, (w.heap[b]? = some (.cells cs 75) ∨ w.heap[b]? = some (.cells cs 89)) → b ∉ S) : TailS w' B0 h t n := by
  rcases k with k | ⟨hb, tb, sb, L, cl, nx, cl', sb', L', nx', cs, r1, r2, r3, r4, r5, r6, r7, r8⟩
  · exact Or.inl k
  · exact Or.inr ⟨hb, tb, sb, L, cl, nx, cl', sb', L', nx', cs, r1, r2, r3, r4, hf.keep r5 (hn _ _ (Or.inl r5)), hf.keep r6 (hn _ _ (Or.inl r6)), hf.keep r7 (hn _ _ (Or.inr r7)), r8⟩

theorem push_any (B0 qb n tot : Nat) (v k : Int) (w : World) (hk : k = 1 ∨ k = 2) (h : QS w B0 qb n tot) (ht : tot < 1024) (hB : B0 ≤ w.heap.size) :
    Calls Yba.prog 17 #[.pointer (some ⟨qb, 0, none⟩), .int .i64 v, .int .u32 k] w fun e w' => e = .returned (.bool false) ∧ QS w' B0 qb n (tot + 1) ∧ Below B0 w w' := by
  obtain ⟨h, t, c, q1, q2, q3, q4⟩ := h
  rcases q4 with ⟨rfl, rfl, rfl⟩ | ⟨hb, tb, sb, L, cl, nx, cl', sb', L', nx', cs, rfl, rfl, r3, r4, r5, r6, r7, r8, r9, r10, r11⟩
  · refine (push_first qb c v k w hk q1).mono ?_
    rintro e w' ⟨rfl, a1, a2, ⟨cs', a3, a4⟩, a5⟩
    refine ⟨rfl, ⟨_, _, c, a1, q2, q3.keep a5 ?_, Or.inr ⟨_, _, _, 4, 1, none, _, _, _, none, cs', rfl, rfl, by omega, by omega, a2, a2, a3, by omega, Or.inl rfl, by omega, by omega⟩⟩, a5.below hB (by simpa using q2)⟩
    intro cb hcb
    simpa using (blk_ne hcb q1 (by decide))
  · by_cases hlt : cl < L
    · have hb9 := p2_bd r9
      refine (push_room qb tb sb _ c cl L _ nx cs v k w hk q1 r5 r7 r8 hlt (by omega)).mono ?_
      rintro e w' ⟨rfl, a1, ⟨cs', a2, a3⟩, a4⟩
      have hq : w'.heap[qb]? = _ := a4.keep q1 (by simp; exact ⟨blk_ne q1 r5 (by decide), blk_ne q1 r7 (by decide)⟩)
      have hc : CapS w' B0 c n := q3.keep a4 (fun cb hcb => by simp; exact ⟨blk_ne hcb r5 (by decide), blk_ne hcb r7 (by decide)⟩)
      refine ⟨rfl, ⟨_, _, c, hq, q2, hc, ?_⟩, a4.below hB (by simp; exact ⟨r3, r4⟩)⟩
      by_cases e : hb = tb
      · subst e
        have h4' : (L : Int) - 4 = 0 := by
          rw [r6] at r5
          simp [kCells] at r5
          omega
        have a1' := a1
        rw [h4'] at a1'
        exact Or.inr ⟨hb, hb, sb, L, cl + 1, nx, _, _, _, _, cs', rfl, rfl, r3, r4, a1, a1', a2, a3, r9, by omega, by omega⟩
      · exact Or.inr ⟨hb, tb, sb, L, cl + 1, nx, cl', sb', L', nx', cs', rfl, rfl, r3, r4, a1, a4.keep r6 (by simp; exact ⟨e, blk_ne r6 r7 (by decide)⟩), a2, a3, r9, by omega, by omega⟩
    · obtain rfl : cl = L := by omega
      have h512 : cl ≤ 512 := by unfold P2 at r9; omega
      refine (push_full qb tb hb sb sb' c cl' cl L' nx nx' v k w hk q1 r5 r6 r9 h512).mono ?_
      rintro e w' ⟨rfl, a1, a2, a3, ⟨cs', a4, a5⟩, a6⟩
      have hc : CapS w' B0 c n := q3.keep a6 (fun cb hcb => by simp; exact ⟨blk_ne hcb q1 (by decide), blk_ne hcb r5 (by decide)⟩)
      refine ⟨rfl, ⟨_, _, c, a1, q2, hc, ?_⟩, a6.below hB (by simp; exact ⟨q2, r3⟩)⟩
      have h2 : P2 (2 * cl) := by have := p2_double r9 (by omega); rwa [Nat.mul_comm] at this
      by_cases e : hb = tb
      · subst e
        have h4' : (cl : Int) - 4 = 0 := by
          rw [r6] at r5
          simp [kCells] at r5
          omega
        rw [h4'] at a2
        exact Or.inr ⟨hb, _, _, 2 * cl, 1, none, _, _, _, _, cs', rfl, rfl, by omega, by omega, a3, a2, a4, a5, h2, by omega, by omega⟩
      · exact Or.inr ⟨hb, _, _, 2 * cl, 1, none, cl', sb', L', nx', cs', rfl, rfl, by omega, by omega, a3, a6.keep r6 (by simp; exact ⟨blk_ne r6 q1 (by decide), e⟩), a4, a5, h2, by omega, by omega⟩

theorem len_qs (B0 qb n tot : Nat) (w : World) (h : QS w B0 qb n tot) (ht : tot ≤ 1024) :
    Calls Yba.prog 8 #[.pointer (some ⟨qb, 0, none⟩)] w fun e w' => e = .returned (.int .i64 tot) ∧ w = w' := by
  obtain ⟨h, t, c, q1, q2, q3, q4⟩ := h
  rcases q4 with ⟨rfl, rfl, rfl⟩ | ⟨hb, tb, sb, L, cl, nx, cl', sb', L', nx', cs, rfl, rfl, r3, r4, r5, r6, r7, r8, r9, r10, r11⟩
  · exact len_nil qb _ c w q1
  · have hb9 := p2_bd r9
    have := len_any qb tb hb c cl cl' sb sb' L L' _ nx nx' w q1 r5 r6 (by omega) (by omega) (by omega) (by omega)
    rwa [show (L : Int) - 4 + (cl : Int) = (tot : Int) by omega] at this

theorem counted_qs (B0 qb n tot : Nat) (w : World) (h : QS w B0 qb n tot) :
    Calls Yba.prog 7 #[.pointer (some ⟨qb, 0, none⟩)] w fun e w' => e = .returned (.int .i64 n) ∧ w = w' := by
  obtain ⟨h, t, c, q1, q2, q3, q4⟩ := h
  rcases q3 with ⟨rfl, rfl⟩ | ⟨cb, rfl, k1, k2⟩
  · exact counted_nil qb h t w q1
  · exact counted_cap qb cb h t n w q1 k2

theorem evicting_qs (B0 qb n tot : Nat) (w : World) (h : QS w B0 qb n tot) :
    Calls Yba.prog 11 #[.pointer (some ⟨qb, 0, none⟩)] w fun e w' => e = .returned (.pointer none) ∧ w = w' := by
  obtain ⟨h, t, c, q1, q2, q3, q4⟩ := h
  rcases q3 with ⟨rfl, rfl⟩ | ⟨cb, rfl, k1, k2⟩
  · exact evicting_nil qb h t w q1
  · exact evicting_cap qb cb h t n w q1 k2

end Go.Proofs.Ybulkbxjy
