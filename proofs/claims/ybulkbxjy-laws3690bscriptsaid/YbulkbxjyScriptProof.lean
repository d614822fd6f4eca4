/-
  The statement 'Rows.LawS3690BScriptSaid', out of the walk.
-/
import Derived.Test.YbulkbxjyRows
import Derived.Test.YbulkbxjyScript
import Derived.WalkKit
import Derived.ProofKit
import Derived.OpenShut
import Derived.ShutString
import Derived.ChangeOld
import Derived.Below
import Derived.Deep.Slices
import Derived.Deep.Strs
namespace Go.Proofs.Ybulkbxjy.lawS3690BScript
open Go.ChangeShapes Go.WideShapes Go.ChangeAt Go.RowKit

theorem own : ownKnob Yba.prog.godebug = none := by kernel_rfl
theorem laidOut : laidOutB Yba.prog = true := by kernel_rfl
theorem cells41 : Yba.prog.cellsOf 41 = 3 := by kernel_rfl
theorem cells5 : Yba.prog.cellsOf 5 = 1 := by kernel_rfl
theorem cells3 : Yba.prog.cellsOf 3 = 1 := by kernel_rfl

theorem three {α : Type} : ∀ {l : List α}, l.length = 3 → ∃ a b c, l = [a, b, c]
  | [a, b, c], _ => ⟨a, b, c, rfl⟩

theorem isOps {H : Type} {enc : TypeId × Value → H} {W : World} {a0 : Option Addr} {len cap fuel : Nat} {x : DataW H × List MemPlace}
    (h : DataW.trod enc Yba.prog W 0 (fun _ => true) true fuel 22 [.slice a0 len cap] = some x) : IsOps W a0 len := by
  rcases Deep.open_slice Yba.underlying22 h with ⟨hcs, _⟩ | ⟨a, len', cap', m, n, D, Pl, hcs, _, hl, hm, hmm, _, hx⟩
  · simp at hcs
    exact Or.inl hcs.2.1
  · simp at hcs
    obtain ⟨rfl, rfl, rfl⟩ := hcs
    have hlm : len ≤ m := by rw [hmm]; simpa using hl
    by_cases hz : len = 0
    · exact Or.inl hz
    have each : ∀ i, i < len → ∃ q : Int × Int × Int, W.cell? (a.add (i * 3)) = some (.int .u8 q.1) ∧ W.cell? (a.add (i * 3 + 1)) = some (.int .i64 q.2.1) ∧ W.cell? (a.add (i * 3 + 2)) = some (.int .i64 q.2.2) ∧ 0 ≤ q.1 ∧ q.1 ≤ 255 := by
      intro i hi
      obtain ⟨cs', h1, h2⟩ := hx i (by omega)
      rw [cells41] at h1
      obtain ⟨_, hlen, hcell⟩ := World.cells?_some h1
      obtain ⟨y0, y1, y2, n', _, _, g0, g1, g2⟩ := Deep.trod_struct3 Yba.underlying41 h2
      obtain ⟨c0, c1, c2, rfl⟩ : ∃ c0 c1 c2, cs' = [c0, c1, c2] := three hlen
      simp only [cells5, cells3] at g0 g1 g2
      obtain ⟨q0, e0, _, w0⟩ := DataW.trod_int Yba.underlying5 g0
      obtain ⟨q1, e1, _, _⟩ := DataW.trod_int Yba.underlying3 g1
      obtain ⟨q2, e2, _, _⟩ := DataW.trod_int Yba.underlying3 g2
      simp at e0 e1 e2
      subst e0 e1 e2
      have b0 := bounds_u8 w0
      have f0 := hcell 0 (by omega)
      have f1 := hcell 1 (by omega)
      have f2 := hcell 2 (by omega)
      rw [Deep.add_add] at f0 f1 f2
      exact ⟨(q0, q1, q2), by simpa using f0, by simpa using f1, by simpa using f2, b0.1, b0.2⟩
    obtain ⟨q, hq⟩ := Deep.choose_lt each
    have hfirst := (hq 0 (by omega)).1
    obtain ⟨_, _, _, _, hsp⟩ := World.shape?_of_cell? hfirst
    have hlt := World.block_lt_of_cell? _ _ hfirst
    obtain ⟨b, off, sp⟩ := a
    have hsp' : sp = none := by simpa [Addr.add] using hsp
    subst hsp'
    have hblk : b < W.heap.size := by simpa [Addr.add] using hlt
    refine Or.inr ⟨b, off, fun i => (q i).1, fun i => (q i).2.1, fun i => (q i).2.2, rfl, hblk, fun i hi => ?_⟩
    obtain ⟨r0, r1, r2, r3, r4⟩ := hq i hi
    rw [add_plain] at r0 r1 r2
    exact ⟨r0, by simpa [Nat.add_assoc] using r1, by simpa [Nat.add_assoc] using r2, r3, r4⟩

theorem walk (a0 : Option Addr) (len0 cap0 : Nat) (w : World) (h : IsOps w a0 len0) :
    Calls Yba.prog 3 #[.slice a0 len0 cap0] w fun e w' => e = .returned (.bool true) ∧ Below w.heap.size w w' := by
  by_cases hl : len0 ≤ 1024
  · exact script_short a0 len0 cap0 w hl h
  · exact script_long a0 len0 cap0 w (by omega)

set_option maxRecDepth 100000 in
theorem lifted (os : Os) (started : os.Started) (H : Type) (enc : TypeId × Value → H) :
    ReturnsInHanded {} Yba.checked os 3 .any (Rows.lawS3690BScriptSpec.pre6 enc Yba.prog Yba.f3 Rows.lawS3690BScriptRow.domain false) (Rows.lawS3690BScriptSpec.post enc Yba.prog Yba.f3 false true false false) := by
  refine returnsInHanded_of_change (C := Yba.checked) own started (by kernel_rfl) Yba.func3
    (ChangeSpec.witness6 (enc := enc) (C := Yba.checked) false ⟨#[], #[.slice none 0 0], []⟩ 8 (by kernel_rfl) (by kernel_rfl) (by kernel_rfl) (by kernel_rfl)) ?_
  intro W base args ds gs before hval0 hW hcnd _
  have hval : ∀ (j : Nat) t v, Yba.f3.params[j]? = some t → args[j]? = some v → Value.okWide Yba.prog W .any base t v := hval0
  have hW' := hW
  obtain ⟨p, q, hA0, hV, rfl, hfz, hnd⟩ := hW
  have hA : DataW.TrodAll enc Yba.prog W 0 (fun _ => true) true Yba.f3.params.toList args.toList ds p := hA0
  rw [Yba.params3] at hA hval
  obtain ⟨v0, vs0, d0, ds0, p0, q0, hargs, rfl, rfl, h0, r0⟩ := trodAll_cons hA
  obtain ⟨rfl, rfl, rfl⟩ := trodAll_nil r0
  obtain rfl : args = #[v0] := by cases args; simp_all
  obtain ⟨rfl, rfl⟩ := trodVars_none hV
  obtain ⟨a0, len0, cap0, rfl⟩ := okWide_slice Yba.underlying22 (hval 0 22 v0 rfl rfl)
  have k0 := h0
  have lt0 : ∀ x ∈ p0, x.block < W.heap.size := by obtain ⟨m, hm⟩ := k0; exact DataW.trod_lt m _ _ _ hm
  have w0 : IsOps W a0 len0 := by
    obtain ⟨fuel, hf⟩ := h0
    exact isOps (by simpa [Value.cells] using hf)
  clear hA0 hval0
  refine (walk a0 len0 cap0 W w0).mono fun e W' ⟨he, bel⟩ => ?_
  subst he
  exact ⟨_, rfl, _, _, _, [], _, [], hW', trodAll_mk1 (shut_bool Yba.underlying4 _), (trodAll_cons_mk (Below.trod laidOut (by kernel_rfl) (of_decide_eq_true (by kernel_rfl)) k0 bel lt0) trodAll_mk0), rfl, bel.frame _, fun h => by cases h⟩

theorem over : Rows.lawS3690BScriptRow.holds Yba.pinned (OpenSpec.ofChange Rows.lawS3690BScriptSpec) :=
  OpenClaim.holds_of_wide 3 Yba.f3 rfl rfl rfl rfl rfl rfl rfl ⟨rfl, rfl, rfl, rfl, rfl⟩ rfl rfl rfl rfl rfl (by kernel_rfl) Yba.func3 (by kernel_rfl)
    (of_decide_eq_true (by kernel_rfl)) (by unfold Func.isWrapper; first | (rw [if_pos (by decide +kernel)]; kernel_rfl) | (rw [if_neg (by decide +kernel)]; exact ⟨rfl, rfl⟩))
    (fun os started H enc _ => lifted os started H enc)

theorem proved : Rows.LawS3690BScriptSaid := over
#print axioms proved
end Go.Proofs.Ybulkbxjy.lawS3690BScript
