/-
  copy into an owned row; the row behind InsertHeader's copies and stores.
-/
import Derived.Test.YbulkbxkmFmtAppH
import Derived.Laws.CopyOwn
namespace Go.Proofs.YbulkbxkmFmt
open Go.RowKit

theorem Ybaf.size5 : (Ybaf.prog.info? 5).map (·.size) = some 1 := by kernel_rfl

theorem run_copy_fr (w : World) (ty : TypeId) (dp sp : Option Addr) (dLen dCap sLen sCap g off : Nat) (cur : List Value) (hg : w.heap[g]? = some (.cells cur.toArray 5)) (cs : List Value) (hn : cs.length = Nat.min sLen dLen)
    (hpos : 0 < cs.length → dp = some ⟨g, off, none⟩ ∧ ∃ ad, sp = some ad ∧ ∀ j v, cs[j]? = some v → w.cell? (ad.add j) = some v) (hfit : off + cs.length ≤ cur.length) (h1 : ∀ v ∈ cs, v.oneCell' = true) :
    ∃ w', (Builtin.copy_ #[22, 22] ty #[.slice dp dLen dCap, .slice sp sLen sCap]).run Ybaf.prog w = .ok (goInt cs.length) w' ∧ w'.heap[g]? = some (.cells (splice cur off cs).toArray 5) ∧ Fr [g] w w' := by
  by_cases h0 : cs.length = 0
  · obtain rfl : cs = [] := List.eq_nil_of_length_eq_zero h0
    exact ⟨w, run_copy_none (P := Ybaf.prog) w 22 22 ty 5 dp sp dLen dCap sLen sCap Ybaf.underlying22 Ybaf.size5 (by simpa using hn.symm), by simpa [splice] using hg, Fr.refl _ _⟩
  · obtain ⟨rfl, ad, rfl, hsrc⟩ := hpos (by omega)
    have hrun := run_copy_row (P := Ybaf.prog) w 22 22 ty 5 g off dLen dCap ad sLen sCap cur.toArray 5 cs Ybaf.underlying22 Ybaf.size5 hg hn hsrc (by simpa using hfit) h1
    refine ⟨_, hrun, by simpa [splice] using setRow_heap w g _ _ 5 _ hg, ⟨rfl, rfl, rfl, by simp [World.setRow], fun k _ hk => setRow_other w g k _ (by simpa using hk)⟩⟩

theorem step_copy_fr {ops : Array Oper} {o : Oper} {a : Act} {w : World} {K : Act → World → Prop} {Q : Exit → Act → World → Prop} {E : Prop} (hgd : o.guard = none) (d s : Operand)
    (ho : o.op = .call { callee := .builtin .copy, args := #[d, s], argTypes := #[22, 22] })
    (dp sp : Option Addr) (dLen dCap sLen sCap : Nat) (hd : a.eval d = .slice dp dLen dCap) (hs : a.eval s = .slice sp sLen sCap)
    (g off : Nat) (cur : List Value) (hg : w.heap[g]? = some (.cells cur.toArray 5)) (cs : List Value) (hn : cs.length = Nat.min sLen dLen)
    (hpos : 0 < cs.length → dp = some ⟨g, off, none⟩ ∧ ∃ ad, sp = some ad ∧ ∀ j v, cs[j]? = some v → w.cell? (ad.add j) = some v)
    (hfit : off + cs.length ≤ cur.length) (h1 : ∀ v ∈ cs, v.oneCell' = true)
    (h : ∀ w', Hid (w'.heap[g]? = some (.cells (splice cur off cs).toArray 5)) → Hid (Fr [g] w w') → K (a.put o.dst (goInt cs.length)) w') :
    if Region.wanted o (yielded ops a.tmps) = true then Oper.wp Ybaf.prog o a w K Q else E := by
  have hw : Region.wanted o (yielded ops a.tmps) = true := by simp [Region.wanted, hgd]
  rw [if_pos hw]
  obtain ⟨w', hrun, h2, h3⟩ := run_copy_fr w o.type dp sp dLen dCap sLen sCap g off cur hg cs hn hpos hfit h1
  unfold Oper.wp
  simp [execOp, ho, resolve, invoke, builtin, hd, hs, hrun, Result.andThen]
  exact h w' h2 h3

theorem copy_wp {ops : Array Oper} {rest : List Oper} {o : Oper} {a : Act} {w : World} {Q : Exit → Act → World → Prop} (hgd : o.guard = none) (d s : Operand)
    (ho : o.op = .call { callee := .builtin .copy, args := #[d, s], argTypes := #[22, 22] })
    (dp sp : Option Addr) (dLen dCap sLen sCap : Nat) (hd : a.eval d = .slice dp dLen dCap) (hs : a.eval s = .slice sp sLen sCap)
    (g off : Nat) (cur : List Value) (hg : w.heap[g]? = some (.cells cur.toArray 5)) (cs : List Value) (hn : cs.length = Nat.min sLen dLen)
    (hpos : 0 < cs.length → dp = some ⟨g, off, none⟩ ∧ ∃ ad, sp = some ad ∧ ∀ j v, cs[j]? = some v → w.cell? (ad.add j) = some v)
    (hfit : off + cs.length ≤ cur.length) (h1 : ∀ v ∈ cs, v.oneCell' = true)
    (h : ∀ w', Hid (w'.heap[g]? = some (.cells (splice cur off cs).toArray 5)) → Hid (Fr [g] w w') → wpList Ybaf.prog ops Q rest (a.put o.dst (goInt cs.length)) w') :
    wpList Ybaf.prog ops Q (o :: rest) a w := by
  refine wpList_plain hgd fun K hK => ?_
  obtain ⟨w', hrun, h2, h3⟩ := run_copy_fr w o.type dp sp dLen dCap sLen sCap g off cur hg cs hn hpos hfit h1
  unfold Oper.wp
  simp [execOp, ho, resolve, invoke, builtin, hd, hs, hrun, Result.andThen]
  exact hK _ _ (h w' h2 h3)

/-- A copy behind the inserted place, then the inserted cells. -/
theorem splice_ins {α : Type} (cur xs hs : List α) (s : Nat) (hs1 : s ≤ xs.length) (hc : cur.take (xs.length + hs.length) = xs ++ hs) (hl : xs.length + hs.length ≤ cur.length) :
    (splice (splice cur (s + hs.length) (xs.drop s)) s hs).take (xs.length + hs.length) = xs.take s ++ hs ++ xs.drop s := by
  obtain ⟨tl, rfl⟩ : ∃ tl, cur = (xs ++ hs) ++ tl := ⟨cur.drop (xs.length + hs.length), by rw [← hc]; exact (List.take_append_drop _ _).symm⟩
  obtain ⟨a, b, rfl, rfl⟩ : ∃ a b, xs = a ++ b ∧ s = a.length := ⟨xs.take s, xs.drop s, (List.take_append_drop _ _).symm, by simp; omega⟩
  unfold splice
  simp only [List.drop_left, List.take_left]
  have e1 : ((a ++ b) ++ hs ++ tl).take (a.length + hs.length) = a ++ (b ++ hs).take hs.length := by
    have e0 : (a ++ b) ++ hs ++ tl = a ++ ((b ++ hs) ++ tl) := by simp
    rw [e0, List.take_length_add_append, List.take_append_of_le_length (by simp)]
  rw [e1]
  have e2 : (a ++ (b ++ hs).take hs.length ++ (b ++ ((a ++ b) ++ hs ++ tl).drop (a.length + hs.length + b.length))).take a.length = a := by
    rw [List.append_assoc, List.take_left]
  have hbl : ((b ++ hs).take hs.length).length = hs.length := by simp
  have e3 : (a ++ (b ++ hs).take hs.length ++ (b ++ ((a ++ b) ++ hs ++ tl).drop (a.length + hs.length + b.length))).drop (a.length + hs.length) = b ++ ((a ++ b) ++ hs ++ tl).drop (a.length + hs.length + b.length) := by
    have : a.length + hs.length = (a ++ (b ++ hs).take hs.length).length := by simp
    rw [this, List.drop_left]
  rw [e2, e3]
  have e4 : (a ++ b).length + hs.length = (a ++ (hs ++ b)).length := by simp; omega
  rw [e4, show a ++ (hs ++ (b ++ ((a ++ b) ++ hs ++ tl).drop (a.length + hs.length + b.length))) = (a ++ (hs ++ b)) ++ ((a ++ b) ++ hs ++ tl).drop (a.length + hs.length + b.length) by simp, List.take_left]
  simp

end Go.Proofs.YbulkbxkmFmt
