/-
  What the readings of [][]uint64 and []uint64 tell the walk.
-/
import Derived.Test.YbulkbxkmModel
import Derived.ProofKit
import Derived.Deep.Matrix
namespace Go.Proofs.Ybulkbxkm
open Go.ChangeShapes Go.WideShapes Go.ChangeAt Go.RowKit

theorem cells68 : Yba.prog.cellsOf 68 = 1 := by kernel_rfl
theorem cells35 : Yba.prog.cellsOf 35 = 1 := by kernel_rfl

/-- An address at which a cell stands has no spot. -/
theorem plain_of_cell {w : World} {a : Addr} {v : Value} (h : w.cell? (a.add 0) = some v) : ∃ b o, a = ⟨b, o, none⟩ := by
  obtain ⟨_, _, _, _, hsp⟩ := World.shape?_of_cell? h
  obtain ⟨b, off, sp⟩ := a
  have : sp = none := by simpa [Addr.add] using hsp
  subst this
  exact ⟨b, off, rfl⟩

theorem u_of_cells {w : World} {a : Option Addr} {L C : Nat} {Z : List Int} (hl : L ≤ C) (hz : Z.length = C) (hn : a = none → C = 0) (hc : ∀ a', a = some a' → ∀ c, c < C → w.cell? (a'.add c) = some (.int .u64 (Z.getD c 0))) :
    U w a (Z.take L) ∧ (Z.take L).length = L := by
  have hlen : (Z.take L).length = L := by simp; omega
  refine ⟨?_, hlen⟩
  by_cases h0 : L = 0
  · left; subst h0; simp
  · rcases a with _ | a'
    · have := hn rfl; omega
    · have hc' := hc a' rfl
      obtain ⟨b, o, rfl⟩ := plain_of_cell (hc' 0 (by omega))
      refine Or.inr ⟨b, o, rfl, fun j hj => ?_⟩
      rw [hlen] at hj
      have := hc' j (by omega)
      rw [addr_plain] at this
      rw [this]
      simp [List.getD, List.getElem?_take_of_lt hj]

theorem u_of_trod {H : Type} {enc : TypeId × Value → H} {W : World} {q : Option Addr} {l d fuel : Nat} {x : DataW H × List MemPlace}
    (h : DataW.trod enc Yba.prog W 0 (fun _ => true) true fuel 35 [.slice q l d] = some x) : ∃ zs : List Int, zs.length = l ∧ U W q zs := by
  rcases open_ints Yba.underlying35 Yba.underlying68 cells68 h with ⟨hcs, _⟩ | ⟨a, len, cap, zs, hcs, _, hl, hm, hz, _, hcell, _⟩
  · simp at hcs
    exact ⟨[], hcs.2.1.symm, Or.inl rfl⟩
  · simp at hcs
    obtain ⟨rfl, rfl, rfl⟩ := hcs
    simp at hz
    have := u_of_cells (w := W) (a := some a) (L := l) (C := d) (Z := zs) hl hz (by simp) (fun a' ha c hc => by cases ha; exact hcell c (by omega))
    exact ⟨zs.take l, this.2, this.1⟩

theorem rows_of_trod {H : Type} {enc : TypeId × Value → H} {W : World} {p : Option Addr} {n cap fuel : Nat} {x : DataW H × List MemPlace}
    (h : DataW.trod enc Yba.prog W 0 (fun _ => true) true fuel 34 [.slice p n cap] = some x) : ∃ P C Y, RowsOf W p n P C Y ∧ (p = none → n = 0) := by
  rcases Deep.open_int_rows Yba.underlying34 Yba.underlying35 Yba.underlying68 cells35 cells68 h with ⟨hcs, _⟩ | ⟨a, len, cap', A, L, C, Z, hcs, _, hl, hm, _, hx⟩
  · simp at hcs
    obtain ⟨rfl, rfl, rfl⟩ := hcs
    exact ⟨fun _ => none, fun _ => 0, fun _ => [], Or.inl rfl, fun _ => rfl⟩
  · simp at hcs
    obtain ⟨rfl, rfl, rfl⟩ := hcs
    refine ⟨A, C, fun r => (Z r).take (L r), ?_, by simp⟩
    by_cases h0 : n = 0
    · exact Or.inl h0
    · obtain ⟨b, o, rfl⟩ := plain_of_cell (hx 0 (by omega)).1
      refine Or.inr ⟨b, o, rfl, fun i hi => ?_⟩
      obtain ⟨h1, h2, h3, h4, h5, h6, h7⟩ := hx i (by omega)
      have hu := u_of_cells (w := W) h2 h4 h6 (fun a' ha c hc => (h7 a' ha).2 c hc)
      rw [addr_plain] at h1
      exact ⟨by rw [hu.2]; exact h1, hu.1⟩

end Go.Proofs.Ybulkbxkm
