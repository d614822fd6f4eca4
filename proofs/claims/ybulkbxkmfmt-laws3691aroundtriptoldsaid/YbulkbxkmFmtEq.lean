/-
  bytes.Equal, bytes.Clone.
-/
import Derived.Test.YbulkbxkmFmtIns2
import Derived.Lib.SliceRun
namespace Go.Proofs.YbulkbxkmFmt
open Go.RowKit

/-- nil, or an address without a spot. -/
def Pl (p : Option Addr) : Prop := p = none ∨ ∃ b o, p = some ⟨b, o, none⟩

theorem conv_rd (w : World) (p : Option Addr) (cap : Nat) (xs : List Int) (hp : Pl p) (h : Rd w p xs) : (convert 22 9 (.slice p xs.length cap)).run Ybaf.prog w = .ok (.string (strOfNums xs)) w := by
  rcases hp with rfl | ⟨b, o, rfl⟩
  · have hx : xs = [] := by
      rcases h with h | ⟨_, _, h, _⟩
      · exact h
      · cases h
    subst hx
    have := run_convert_bytes_nil (P := Ybaf.prog) w 22 5 Ybaf.underlying22 Ybaf.underlying5 ([] : List Int).length cap 9 Ybaf.underlying9
    rw [this]
    rfl
  · refine run_convert_bytes_arg (P := Ybaf.prog) w 22 5 Ybaf.underlying22 Ybaf.underlying5 b o xs.length cap xs rfl (fun i hi => ?_) 9 Ybaf.underlying9
    rcases h with h | ⟨b', o', h, hc⟩
    · subst h; simp at hi
    · cases h; exact hc i hi

theorem equal_rd (p q : Option Addr) (c d : Nat) (xs : List Int) (w : World) (e1 : Pl p) (e2 : Pl q) (h1 : Rd w p xs) (h2 : Rd w q xs) :
    Calls Ybaf.prog 7 #[.slice p xs.length c, .slice q xs.length d] w fun e w' => e = .returned (.bool true) ∧ w = w' := by
  have k1 := conv_rd w p c xs e1 h1
  have k2 := conv_rd w q d xs e2 h2
  clear h1 h2 e1 e2
  go_enter Ybaf.func7, Ybaf.ntmps7
  go_wp2
  go_ret
  exact ⟨by simp, rfl⟩

theorem clone_nil (c d : Nat) (w : World) :
    Calls Ybaf.prog 5 #[.slice none c d] w fun e w' => e = .returned (.slice none 0 0) ∧ w = w' := by
  have hnil := fun w => Lib.run_eql_slice_nil (P := Ybaf.prog) w 22 5 none c d 0 0 Ybaf.underlying22
  go_enter Ybaf.func5, Ybaf.ntmps5
  go_wp2
  go_ret
  exact ⟨rfl, rfl⟩

theorem clone_row (ad : Addr) (d : Nat) (ys : List Int) (w : World) (hl : ys.length ≤ 2000) (h1 : Rd w (some ad) ys) :
    Calls Ybaf.prog 5 #[.slice (some ad) ys.length d] w fun e w' => ∃ p' c', e = .returned (.slice p' ys.length c') ∧ Bs w' w.heap.size p' c' ys ∧ Fr [] w w' := by
  have hnil := fun w => Lib.run_eql_slice_nil (P := Ybaf.prog) w 22 5 (some ad) ys.length d 0 0 Ybaf.underlying22
  have Z0 : Hid (Bs (w.alloc (.cells #[] 5)) w.heap.size (some ⟨w.heap.size, 0, none⟩) 0 []) := Bs.mk (cur := #[]) (Nat.le_refl _) (by show (w.heap.push _)[w.heap.size]? = _; simp) (by simp) (by simp) rfl (by simp)
  have F0 : Hid (Fr [] w (w.alloc (.cells #[] 5))) := (Fr.refl [] w).alloc _
  have R0 : Hid (Rd (w.alloc (.cells #[] 5)) (some ad) ys) := h1.keep F0.out (by simp)
  have S0 : Hid (w.heap.size ≤ (w.alloc (.cells #[] 5)).heap.size) := F0.out.size
  have B0 : Hid (([] : List Int).length + ys.length ≤ 1000000) := by show _ ≤ _; simp; omega
  clear h1
  go_enter Ybaf.func5, Ybaf.ntmps5
  go_wp2_with (at_builtin; refine app_wp rfl (.tmp 5) (.tmp 6) rfl w.heap.size (some ⟨w.heap.size, 0, none⟩) 0 [] rfl Z0 (some ad) ys.length d ys rfl rfl (by simp) R0 B0 S0 ?_; intro p5 c5 w5 o5 E1 E2 E3 E4)
  go_ret
  have e : o5 = ys := by rw [E1.out]; rfl
  subst e
  exact ⟨p5, c5, rfl, E2, F0.out.trans' E3.out (fun x hx => Or.inr (by simp [pb] at hx; omega))⟩

end Go.Proofs.YbulkbxkmFmt
