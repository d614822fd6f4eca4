/-
  Byte slices that the call owns: what a walk is told of them, and append as one law.
-/
import Derived.Test.YbulkbxkmFmtProg
import Derived.WalkKit
import Derived.WalkSpells
import Derived.WalkLawsBesides
import Derived.Maps.AppendAt
import Derived.Laws.AppendOwnNone
import Derived.Laws.BytesArg
namespace Go.Proofs.YbulkbxkmFmt
open Go.RowKit

def pb : Option Addr → List Nat
  | none => []
  | some a => [a.block]

/-- Outside the blocks of S, and below the old size, the world w' is as w was. -/
structure Fr (S : List Nat) (w w' : World) : Prop where
  os : w'.os = w.os
  tape : w'.tape = w.tape
  output : w'.output = w.output
  size : w.heap.size ≤ w'.heap.size
  block : ∀ k, k < w.heap.size → k ∉ S → w'.heap[k]? = w.heap[k]?

theorem Fr.refl (S : List Nat) (w : World) : Fr S w w := ⟨rfl, rfl, rfl, Nat.le_refl _, fun _ _ _ => rfl⟩
theorem Fr.trans {S : List Nat} {a b c : World} (h : Fr S a b) (k : Fr S b c) : Fr S a c :=
  ⟨k.os.trans h.os, k.tape.trans h.tape, k.output.trans h.output, Nat.le_trans h.size k.size, fun i hi hn => (k.block i (Nat.lt_of_lt_of_le hi h.size) hn).trans (h.block i hi hn)⟩
/-- A second step that may write what S names, and whatever is new to a. -/
theorem Fr.trans' {S T : List Nat} {a b c : World} (h : Fr S a b) (k : Fr T b c) (hT : ∀ x ∈ T, x ∈ S ∨ a.heap.size ≤ x) : Fr S a c :=
  ⟨k.os.trans h.os, k.tape.trans h.tape, k.output.trans h.output, Nat.le_trans h.size k.size, fun i hi hn =>
    (k.block i (Nat.lt_of_lt_of_le hi h.size) (fun hm => by rcases hT i hm with h1 | h1; exact hn h1; omega)).trans (h.block i hi hn)⟩
theorem Fr.drew {S : List Nat} {a w : World} (h : Fr S a w) : Fr S a w.drew := ⟨h.os, h.tape, h.output, h.size, h.block⟩
theorem Fr.drewN {S : List Nat} {a w : World} (h : Fr S a w) (n : Nat) : Fr S a (w.drewN n) := ⟨h.os, h.tape, h.output, h.size, h.block⟩
theorem Fr.alloc {S : List Nat} {a w : World} (h : Fr S a w) (o : Obj) : Fr S a (w.alloc o) :=
  h.trans ⟨rfl, rfl, rfl, by simp, fun k hk _ => Below.heap_alloc _ _ _ hk⟩
theorem Fr.setCell {S : List Nat} {a w : World} (h : Fr S a w) {p : Addr} (hp : p.block ∈ S ∨ a.heap.size ≤ p.block) (u : Value) : Fr S a (w.setCell p u) :=
  ⟨h.os, h.tape, h.output, by simpa using h.size, fun k hk hn => by
    rw [Below.heap_setCell _ _ _ _ (by rintro rfl; rcases hp with hp | hp; exact hn hp; omega)]; exact h.block k hk hn⟩
theorem Fr.mono {S T : List Nat} {a w : World} (h : Fr S a w) (hs : ∀ k ∈ S, k ∈ T) : Fr T a w :=
  ⟨h.os, h.tape, h.output, h.size, fun k hk hn => h.block k hk fun hm => hn (hs k hm)⟩
theorem blk_lt {w : World} {b : Nat} {o : Obj} (h : w.heap[b]? = some o) : b < w.heap.size := (Array.getElem?_eq_some_iff.1 h).1
theorem Fr.keep {S : List Nat} {a w : World} (h : Fr S a w) {k : Nat} {o : Obj} (hk : a.heap[k]? = some o) (hn : k ∉ S) : w.heap[k]? = some o := by
  rw [h.block k (blk_lt hk) hn]; exact hk
theorem Fr.below {S : List Nat} {a w : World} {B : Nat} (h : Fr S a w) (hB : B ≤ a.heap.size) (hs : ∀ k ∈ S, B ≤ k) : Below B a w :=
  ⟨h.os, h.tape, h.output, h.size, fun k hk => h.block k (by omega) fun hm => by have := hs k hm; omega⟩
theorem Fr.cell {S : List Nat} {a w : World} (h : Fr S a w) {x : Addr} (hk : x.block < a.heap.size) (hn : x.block ∉ S) : w.cell? x = a.cell? x :=
  World.cell?_of_block (w := a) (h.block x.block hk hn)

/-- The slice value '.slice p xs.length cap' is one of the call's own (its block from B on) and holds the bytes xs. -/
def Bs (w : World) (B : Nat) (p : Option Addr) (cap : Nat) (xs : List Int) : Prop := w.ownsRow B 5 1 (.slice p xs.length cap) xs.length (xs.map (Value.int .u8))

/-- The bytes ys can be read from p on. -/
def Rd (w : World) (p : Option Addr) (ys : List Int) : Prop :=
  ys = [] ∨ ∃ b o, p = some ⟨b, o, none⟩ ∧ ∀ j, j < ys.length → w.cell? ⟨b, o + j, none⟩ = some (.int .u8 (ys.getD j 0))

theorem Bs.nil (w : World) (B : Nat) : Bs w B none 0 [] := World.ownsRow_nil w B 5 1

theorem Bs.form {w : World} {B : Nat} {p : Option Addr} {cap : Nat} {xs : List Int} (h : Bs w B p cap xs) :
    (p = none ∧ cap = 0 ∧ xs = []) ∨ ∃ g cur, p = some ⟨g, 0, none⟩ ∧ B ≤ g ∧ w.heap[g]? = some (.cells cur 5) ∧ xs.length ≤ cap ∧ cap ≤ maxLen ∧ cur.size = cap ∧ cur.toList.take xs.length = xs.map (Value.int .u8) := by
  rcases h.2 with ⟨h1, h2⟩ | ⟨g, c, cur, h1, h2, h3, h4, h5, h6, h7⟩
  · simp only [Value.slice.injEq] at h1
    exact Or.inl ⟨h1.1, h1.2.2, List.eq_nil_of_length_eq_zero h2⟩
  · cases h1
    exact Or.inr ⟨g, cur, rfl, h2, h3, h4, h5, by simpa using h6, by simpa using h7⟩

theorem Bs.mk {w : World} {B : Nat} {cap g : Nat} {xs : List Int} {cur : Array Value} (hB : B ≤ g) (hg : w.heap[g]? = some (.cells cur 5)) (hl : xs.length ≤ cap) (hm : cap ≤ maxLen) (hs : cur.size = cap)
    (ht : cur.toList.take xs.length = xs.map (Value.int .u8)) : Bs w B (some ⟨g, 0, none⟩) cap xs :=
  ⟨by simp, Or.inr ⟨g, cap, cur, rfl, hB, hg, hl, hm, by simpa using hs, by simpa using ht⟩⟩

theorem Bs.lt {w : World} {B : Nat} {p : Option Addr} {cap : Nat} {xs : List Int} (h : Bs w B p cap xs) : ∀ k ∈ pb p, B ≤ k ∧ k < w.heap.size := by
  rcases h.form with ⟨rfl, _⟩ | ⟨g, cur, rfl, h2, h3, _⟩
  · simp [pb]
  · simp [pb]; exact ⟨h2, blk_lt h3⟩

theorem Bs.keep {w w' : World} {B : Nat} {p : Option Addr} {cap : Nat} {xs : List Int} {S : List Nat} (h : Bs w B p cap xs) (hf : Fr S w w') (hn : ∀ k ∈ pb p, k ∉ S) : Bs w' B p cap xs := by
  rcases h.form with ⟨rfl, rfl, rfl⟩ | ⟨g, cur, rfl, h2, h3, h4, h5, h6, h7⟩
  · exact Bs.nil w' B
  · exact Bs.mk h2 (hf.keep h3 (hn g (by simp [pb]))) h4 h5 h6 h7

theorem Bs.mono {w : World} {B B' : Nat} {p : Option Addr} {cap : Nat} {xs : List Int} (h : Bs w B p cap xs) (hB : ∀ k ∈ pb p, B' ≤ k) : Bs w B' p cap xs := by
  rcases h.form with ⟨rfl, rfl, rfl⟩ | ⟨g, cur, rfl, h2, h3, h4, h5, h6, h7⟩
  · exact Bs.nil w B'
  · exact Bs.mk (hB g (by simp [pb])) h3 h4 h5 h6 h7

/-- A part of an owned row can be read. -/
theorem Bs.rd {w : World} {B : Nat} {p : Option Addr} {cap : Nat} {xs : List Int} (h : Bs w B p cap xs) : Rd w p xs := by
  rcases h.form with ⟨rfl, rfl, rfl⟩ | ⟨g, cur, rfl, h2, h3, h4, h5, h6, h7⟩
  · exact Or.inl rfl
  · refine Or.inr ⟨g, 0, rfl, fun j hj => ?_⟩
    have e : cur[j]? = (xs.map (Value.int .u8))[j]? := by
      rw [← h7, List.getElem?_take_of_lt hj]; simp
    simp [World.cell?, h3, e, List.getD, hj]

theorem Bs.cell {w : World} {B g : Nat} {cap : Nat} {xs : List Int} (h : Bs w B (some ⟨g, 0, none⟩) cap xs) (j : Nat) (hj : j < xs.length) : w.cell? ⟨g, j, none⟩ = some (.int .u8 (xs.getD j 0)) := by
  rcases h.rd with h | ⟨b', o', h, hc⟩
  · rw [h] at hj; simp at hj
  · cases h
    have := hc j hj
    rwa [Nat.zero_add] at this

theorem Bs.isRow {w : World} {B : Nat} {p : Option Addr} {cap : Nat} {xs : List Int} (h : Bs w B p cap xs) (hn : 0 < xs.length) : ∃ g, p = some ⟨g, 0, none⟩ := by
  rcases h.form with ⟨_, _, h⟩ | ⟨g, cur, h, _⟩
  · rw [h] at hn; simp at hn
  · exact ⟨g, h⟩

theorem Rd.sub {w : World} {b o : Nat} {ys : List Int} (h : Rd w (some ⟨b, o, none⟩) ys) (i : Nat) (zs : List Int) (hz : ∀ j, j < zs.length → i + j < ys.length ∧ zs.getD j 0 = ys.getD (i + j) 0) : Rd w (some ⟨b, o + i, none⟩) zs := by
  rcases h with h | ⟨b', o', h, hc⟩
  · left
    rcases zs with _ | ⟨z, zs⟩
    · rfl
    · have := (hz 0 (by simp)).1
      rw [h] at this; simp at this
  · cases h
    refine Or.inr ⟨b, o + i, rfl, fun j hj => ?_⟩
    obtain ⟨z1, z2⟩ := hz j hj
    rw [z2, Nat.add_assoc]
    exact hc (i + j) z1

theorem Rd.keep {w w' : World} {p : Option Addr} {ys : List Int} {S : List Nat} (h : Rd w p ys) (hf : Fr S w w') (hn : ∀ k ∈ pb p, k ∉ S) : Rd w' p ys := by
  rcases h with h | ⟨b, o, rfl, hc⟩
  · exact Or.inl h
  · refine Or.inr ⟨b, o, rfl, fun j hj => ?_⟩
    have h1 := World.block_lt_of_cell? _ _ (hc j hj)
    rw [hf.cell (by exact h1) (by exact hn b (by simp [pb]))]
    exact hc j hj

theorem Ybaf.info5 : (Ybaf.prog.info? 5).map (fun i => (i.zero, i.size, i.bytes)) = some (some (.int .u8 0), 1, 1) := by kernel_rfl

theorem addr_plain (b o j : Nat) : (⟨b, o, none⟩ : Addr).add j = ⟨b, o + j, none⟩ := by unfold Addr.add; split <;> simp_all

theorem u8s_oneCell (zs : List Int) : ∀ u ∈ zs.map (Value.int .u8), u.oneCell' = true := by
  intro u hu
  obtain ⟨z, _, rfl⟩ := List.mem_map.1 hu
  rfl

theorem run_app (w : World) (ty : TypeId) (B : Nat) (p : Option Addr) (cap : Nat) (xs : List Int) (hown : Bs w B p cap xs) (q : Option Addr) (m c : Nat) (ys : List Int) (hm : ys.length = m) (hc : q = none → c = 0) (hy : Rd w q ys)
    (hbd : xs.length + m ≤ 1000000) (hB : B ≤ w.heap.size) :
    ∃ p' cap' w', (Builtin.append_ #[22, 22] ty #[.slice p xs.length cap, .slice q m c]).run Ybaf.prog w = .ok (.slice p' (xs ++ ys).length cap') w' ∧ Bs w' B p' cap' (xs ++ ys) ∧ Fr (pb p) w w' ∧ (p' = p ∨ p' = some ⟨w.heap.size, 0, none⟩) := by
  obtain ⟨i, hi, hz0, hz1, hz2⟩ := info_parts Ybaf.info5
  rcases q with _ | ad
  · have hys : ys = [] := by
      rcases hy with h | ⟨b, o, h, _⟩
      · exact h
      · cases h
    subst hys
    simp at hm
    subst hm
    obtain rfl := hc rfl
    have hr := run_append_owned_none (P := Ybaf.prog) (w := w) B 22 ty 5 i 1 Ybaf.underlying22 hi _ _ _ hown
    refine ⟨p, cap, w, by simpa using hr, by simpa using hown, Fr.refl _ _, Or.inl rfl⟩
  · have hnews : ∀ j u, (ys.map (Value.int .u8))[j]? = some u → w.cell? (ad.add j) = some u := fun j u hj => by
      have hjl : j < ys.length := by
        rcases Nat.lt_or_ge j ys.length with h | h
        · exact h
        · simp [List.getElem?_eq_none (show (ys.map (Value.int .u8)).length ≤ j by simpa using h)] at hj
      rcases hy with h | ⟨b, o, h, hcell⟩
      · rw [h] at hjl; simp at hjl
      · cases h
        rw [addr_plain, hcell j hjl]
        simp [List.getElem?_eq_getElem hjl] at hj
        subst hj
        simp [List.getD, List.getElem?_eq_getElem hjl]
    obtain ⟨v', w', hr, h2, h3, h4, h5⟩ := run_append_own_at (P := Ybaf.prog) w B 22 ty 5 i _ 1 1 Ybaf.underlying22 hi hz0 hz1 hz2 rfl (by decide) _ _ _ hown ad m c (ys.map (Value.int .u8)) (by simp [hm])
      hnews (u8s_oneCell ys) (by simp [maxLen]; omega) (by omega) hB
    rw [← List.map_append] at h2
    have hfr : Fr (pb p) w w' := ⟨h3.os, h3.tape, h3.output, h3.size, fun k hk hn => h3.block k hk (by
      cases p with
      | none => simp [Value.ownBlock]
      | some a => simp [Value.ownBlock]; simpa [pb] using hn)⟩
    have hlen : xs.length + m = (xs ++ ys).length := by simp [hm]
    rcases h2.2 with ⟨rfl, h0⟩ | ⟨g, cap', cur, rfl, g2, g3, g4, g5, g6, g7⟩
    · have hp : p = none := by
        have := (h4.1 rfl).1
        simp only [Value.slice.injEq] at this
        exact this.1
      subst hp
      have hnil : xs ++ ys = [] := List.eq_nil_of_length_eq_zero (by omega)
      refine ⟨none, 0, w', by rw [hr, hnil]; rfl, by rw [hnil]; exact Bs.nil _ _, hfr, Or.inl rfl⟩
    · refine ⟨some ⟨g, 0, none⟩, cap', w', by rw [hr, hlen], Bs.mk g2 g3 (by omega) g5 (by simpa using g6) (by rw [← hlen]; simpa using g7), hfr, ?_⟩
      rcases h5 with h5 | h5
      · left
        rcases hown.form with ⟨rfl, _⟩ | ⟨g', cur', rfl, _⟩
        · simp [Value.ownBlock] at h5
        · simp [Value.ownBlock] at h5
          rw [h5]
      · right
        simp [Value.ownBlock] at h5
        rw [h5]

/-- append, at the operation. What was appended to reads on as a list of its own, zs. -/
theorem app_wp {w : World} {ops : Array Oper} {rest : List Oper} {o : Oper} {a : Act} {Q : Exit → Act → World → Prop} (hgd : o.guard = none) (s x : Operand)
    (ho : o.op = .call { callee := .builtin .append, args := #[s, x], argTypes := #[22, 22] })
    (B : Nat) (p : Option Addr) (cap : Nat) (xs : List Int) (hs : a.eval s = .slice p xs.length cap) (hown : Bs w B p cap xs)
    (q : Option Addr) (m c : Nat) (ys : List Int) (hx : a.eval x = .slice q m c) (hm : ys.length = m) (hc : q = none → c = 0) (hy : Rd w q ys)
    (hbd : xs.length + m ≤ 1000000) (hB : B ≤ w.heap.size)
    (h : ∀ p' cap' w' zs, Hid (zs = xs ++ ys) → Hid (Bs w' B p' cap' zs) → Hid (Fr (pb p) w w') → Hid (p' = p ∨ p' = some ⟨w.heap.size, 0, none⟩) → wpList Ybaf.prog ops Q rest (a.put o.dst (.slice p' zs.length cap')) w') :
    wpList Ybaf.prog ops Q (o :: rest) a w := by
  obtain ⟨p', cap', w', hr, h1, h2, h3⟩ := run_app w o.type B p cap xs hown q m c ys hm hc hy hbd hB
  refine wpList_plain hgd fun K hK => ?_
  unfold Oper.wp execOp
  simp only [ho, resolve, invoke, builtin, Sem.run_bind, Sem.run_pure, Result.andThen_ok, List.map_toArray, List.map_cons, List.map_nil, hs, hx, hr]
  exact hK _ _ (h p' cap' w' (xs ++ ys) rfl h1 h2 h3)

theorem Rd.one (w : World) (y : Int) : Rd (w.alloc (.cells #[.int .u8 y] 5)) (some ⟨w.heap.size, 0, none⟩) [y] := by
  refine Or.inr ⟨_, 0, rfl, fun j hj => ?_⟩
  obtain rfl : j = 0 := by simpa using hj
  simp

theorem Bs.alloc {w : World} {B : Nat} {p : Option Addr} {cap : Nat} {xs : List Int} (h : Bs w B p cap xs) (o : Obj) : Bs (w.alloc o) B p cap xs := h.keep ((Fr.refl [] w).alloc o) (by simp)

/-- append of one byte. -/
theorem app1_wp {w : World} {ops : Array Oper} {rest : List Oper} {o : Oper} {a : Act} {Q : Exit → Act → World → Prop} (hgd : o.guard = none) (s x : Operand)
    (ho : o.op = .call { callee := .builtin .append, args := #[s, x], argTypes := #[22, 22] })
    (B : Nat) (p : Option Addr) (cap : Nat) (xs : List Int) (hs : a.eval s = .slice p xs.length cap) (hown : Bs w B p cap xs)
    (y : Int) (hx : a.eval x = .slice (some ⟨w.heap.size, 0, none⟩) 1 1) (hbd : xs.length ≤ 900000) (hB : B ≤ w.heap.size)
    (h : ∀ p' cap' w' zs, Hid (zs = xs ++ [y]) → Hid (Bs w' B p' cap' zs) → Hid (Fr (pb p) w w') → Hid (p' = p ∨ p' = some ⟨w.heap.size + 1, 0, none⟩) → wpList Ybaf.prog ops Q rest (a.put o.dst (.slice p' zs.length cap')) w') :
    wpList Ybaf.prog ops Q (o :: rest) a (w.alloc (.cells #[.int .u8 y] 5)) := by
  refine app_wp hgd s x ho B p cap xs hs (hown.alloc _) (some ⟨w.heap.size, 0, none⟩) 1 1 [y] hx rfl (by simp) (Rd.one w y) (by omega) (by simp; omega) ?_
  intro p' cap' w' zs h1 h2 h3 h4
  exact h p' cap' w' zs h1 h2 (((Fr.refl _ w).alloc _).trans h3.out) (by simpa using h4)

end Go.Proofs.YbulkbxkmFmt
