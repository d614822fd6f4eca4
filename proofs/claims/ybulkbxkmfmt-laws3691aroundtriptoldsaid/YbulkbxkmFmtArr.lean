/-
  A slice of a local array of sixteen bytes, appended to within its room.
-/
import Derived.Test.YbulkbxkmFmtWork
import Derived.Test.YbulkbxkmFmtPlain
namespace Go.Proofs.YbulkbxkmFmt
open Go.RowKit

/-- Block g is a [16]byte whose first cells are xs. -/
def Ab (w : World) (g : Nat) (xs : List Int) : Prop :=
  ∃ cur : Array Value, w.heap[g]? = some (.cells cur 40) ∧ cur.size = 16 ∧ xs.length ≤ 16 ∧ cur.toList.take xs.length = xs.map (Value.int .u8)

theorem Ab.keep {w w' : World} {g : Nat} {xs : List Int} {S : List Nat} (h : Ab w g xs) (hf : Fr S w w') (hn : g ∉ S) : Ab w' g xs := by
  obtain ⟨cur, h1, h2⟩ := h
  exact ⟨cur, hf.keep h1 hn, h2⟩
theorem Ab.lt {w : World} {g : Nat} {xs : List Int} (h : Ab w g xs) : g < w.heap.size := by
  obtain ⟨cur, h1, h2⟩ := h
  exact blk_lt h1
theorem Ab.rd {w : World} {g : Nat} {xs : List Int} (h : Ab w g xs) : Rd w (some ⟨g, 0, none⟩) xs := by
  obtain ⟨cur, h1, h2, h3, h4⟩ := h
  refine Or.inr ⟨g, 0, rfl, fun j hj => ?_⟩
  have e : cur[j]? = (xs.map (Value.int .u8))[j]? := by
    rw [← h4, List.getElem?_take_of_lt hj]; simp
  simp [World.cell?, h1, e, List.getD, hj]

theorem run_app_arr (w : World) (ty g : Nat) (xs : List Int) (hown : Ab w g xs) (b o m c : Nat) (ys : List Int) (hm : ys.length = m)
    (hy : ∀ j, j < ys.length → w.cell? ⟨b, o + j, none⟩ = some (.int .u8 (ys.getD j 0))) (hroom : xs.length + m ≤ 16) :
    ∃ w', (Builtin.append_ #[22, 22] ty #[.slice (some ⟨g, 0, none⟩) xs.length 16, .slice (some ⟨b, o, none⟩) m c]).run Ybaf.prog w = .ok (.slice (some ⟨g, 0, none⟩) (xs ++ ys).length 16) w' ∧ Ab w' g (xs ++ ys) ∧ Fr [g] w w' := by
  obtain ⟨i, hi, hz0, hz1, hz2⟩ := info_parts Ybaf.info5
  obtain ⟨cur, h1, h2, h3, h4⟩ := hown
  have hnews : ∀ j u, (ys.map (Value.int .u8))[j]? = some u → w.cell? ((⟨b, o, none⟩ : Addr).add j) = some u := fun j u hj => by
    have hjl : j < ys.length := by
      rcases Nat.lt_or_ge j ys.length with h | h
      · exact h
      · simp [List.getElem?_eq_none (show (ys.map (Value.int .u8)).length ≤ j by simpa using h)] at hj
    rw [addr_plain, hy j hjl]
    simp [List.getElem?_eq_getElem hjl] at hj
    subst hj
    simp [List.getD, List.getElem?_eq_getElem hjl]
  have hf := run_firstCells_some (P := Ybaf.prog) w i.size m ⟨b, o, none⟩ m c (ys.map (Value.int .u8)) (by simp [hz1, hm]) hnews
  have hst := run_storeCells_at Ybaf.prog g xs.length 40 (ys.map (Value.int .u8)) 0 cur w h1 (by simp; omega) (u8s_oneCell ys)
  simp only [Nat.add_zero] at hst
  rw [hz1] at hf
  have hle : xs.length + m ≤ 16 := hroom
  refine ⟨w.setRow g (cur.toList.take xs.length ++ ys.map (Value.int .u8) ++ cur.toList.drop (xs.length + (ys.map (Value.int .u8)).length)).toArray, ?_, ?_, ?_⟩
  · simp [Builtin.append_, run_underlying Ybaf.underlying22, sizeOf, typeInfo, hi, hz1, Builtin.lenOf, hle, hf, Addr.add_lit, hst, hm]
  · refine ⟨_, setRow_heap w g cur _ 40 _ h1, ?_, by simp; omega, ?_⟩
    · simp; omega
    · rw [h4]
      simp only [List.map_append]
      have e : (xs ++ ys).length = (xs.map (Value.int .u8) ++ ys.map (Value.int .u8)).length := by simp
      rw [e]
      exact List.take_left
  · exact ⟨rfl, rfl, rfl, by simp [World.setRow], fun k _ hk => setRow_other w g k _ (by simpa using hk)⟩

theorem app1_arr {w : World} {ops : Array Oper} {rest : List Oper} {o : Oper} {a : Act} {Q : Exit → Act → World → Prop} (hgd : o.guard = none) (s x : Operand)
    (ho : o.op = .call { callee := .builtin .append, args := #[s, x], argTypes := #[22, 22] })
    (g : Nat) (xs : List Int) (hs : a.eval s = .slice (some ⟨g, 0, none⟩) xs.length 16) (hown : Ab w g xs)
    (y : Int) (hx : a.eval x = .slice (some ⟨w.heap.size, 0, none⟩) 1 1) (hbd : xs.length < 16)
    (h : ∀ w' zs, Hid (zs = xs ++ [y]) → Hid (Ab w' g zs) → Hid (Fr [g] w w') → wpList Ybaf.prog ops Q rest (a.put o.dst (.slice (some ⟨g, 0, none⟩) zs.length 16)) w') :
    wpList Ybaf.prog ops Q (o :: rest) a (w.alloc (.cells #[.int .u8 y] 5)) := by
  have hk : Ab (w.alloc (.cells #[.int .u8 y] 5)) g xs := hown.keep ((Fr.refl [] w).alloc _) (by simp)
  obtain ⟨w', hr, h1, h2⟩ := run_app_arr (w.alloc (.cells #[.int .u8 y] 5)) o.type g xs hk w.heap.size 0 1 1 [y] rfl (fun j hj => by
    obtain rfl : j = 0 := by simpa using hj
    simp) (by omega)
  refine wpList_plain hgd fun K hK => ?_
  unfold Oper.wp execOp
  simp only [ho, resolve, invoke, builtin, Sem.run_bind, Sem.run_pure, Result.andThen_ok, List.map_toArray, List.map_cons, List.map_nil, hs, hx, hr]
  exact hK _ _ (h w' (xs ++ [y]) rfl h1 (((Fr.refl _ w).alloc _).trans h2))

end Go.Proofs.YbulkbxkmFmt
