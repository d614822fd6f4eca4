/-
  (*sync.Mutex).TryLock on a free lock; Tx.Place; LawS3699CReads: the walks.
-/
import Derived.Test.YbulkbxouLocks
import Derived.Conc.MuLone
import Derived.Laws.LoneSync
import Derived.WalkKit
import Derived.Below
namespace Go.Proofs.Ybulkbxou
open Go.RowKit
open Go.MuLone

theorem Yba.size80 : (Yba.prog.info? 80).map (fun i => decide (i.size = 0)) = some false := by kernel_rfl

theorem conv_mu {a : Addr} {v : Value} {w : World} (h : w.cell? a = some v) : (convert 103 107 (.pointer (some a))).run Yba.prog w = .ok (.pointer (some a)) w := by
  obtain ⟨e, n, hsh, hlt, hsp⟩ := World.shape?_of_cell? h
  obtain ⟨i, hi, hz0⟩ := Option.map_eq_some_iff.1 Yba.size80
  have hz : i.size ≠ 0 := by simpa using hz0
  have hge : ¬ (n ≤ a.off) := by omega
  simp only [convert, Sem.run_bind, run_underlying Yba.underlying103, run_underlying Yba.underlying107, Result.andThen_ok]
  change Sem.run Yba.prog (underlying 103 >>= _) w = _
  simp [Conv.seenAt, viewAt, cellsIn, sizeOf, typeInfo, run_underlying Yba.underlying103, run_underlying Yba.underlying107, hi, hz, hsh, hge, Result.andThen]

set_option maxRecDepth 100000 in
set_option maxHeartbeats 800000 in
theorem itry_free (a : Addr) (w : World) (hc : w.cell? a = some (.int .i32 0)) (hz : w.frozen? a = false) :
    Calls Yba.prog 20 #[.pointer (some a)] w fun e w' => e = .returned (.bool true) ∧ w' = w.setCell a (.int .i32 1) := by
  have hd : ∀ w, (callFunc 26 #[]).run Yba.prog w = .ok (.value (.tuple #[])) w := disable Yba.muLib
  have he : ∀ w, (callFunc 27 #[]).run Yba.prog w = .ok (.value (.tuple #[])) w := enable Yba.muLib
  have ha : ∀ a w, (callFunc 29 #[.pointer (some a)]).run Yba.prog w = .ok (.value (.tuple #[])) w := acquire Yba.muLib
  have hcas : (callFunc 28 #[.pointer (some a), .int .i32 0, .int .i32 1]).run Yba.prog w = .ok (.value (.bool true)) (w.setCell a (.int .i32 1)) := run_call_cas_hit (P := Yba.prog) Yba.muLib.f_cas32 (by kernel_rfl) (by kernel_rfl) (by kernel_rfl) .i32 (by kernel_rfl) (y := 1) hc hz
  have hc' : (w.setCell a (.int .i32 1)).cell? a = some (.int .i32 1) := by simp [go_sem, hc]
  have hcv := conv_mu hc'
  have b1 : bits .and .i32 0 5 = 0 := by decide
  have b2 : bits .or .i32 0 1 = 1 := by decide
  go_enter Yba.func20, Yba.ntmps20
  go_wp2
  go_ret
  exact ⟨rfl, rfl⟩

set_option maxHeartbeats 800000 in
theorem try_free (a : Addr) (w : World) (hc : w.cell? a = some (.int .i32 0)) (hz : w.frozen? a = false) :
    Calls Yba.prog 14 #[.pointer (some a)] w fun e w' => e = .returned (.bool true) ∧ w' = w.setCell a (.int .i32 1) := by
  go_enter Yba.func14, Yba.ntmps14
  go_wp2_with fail
  refine (itry_free a w hc hz).mono ?_
  rintro e w' ⟨rfl, rfl⟩
  go_wp2_with fail
  go_ret
  exact ⟨rfl, rfl⟩

set_option maxHeartbeats 800000 in
theorem place_any (T S : Nat) (p : Int) (w : World) (h0 : w.cell? ⟨T, 0, none⟩ = some (.pointer (some ⟨S, 0, none⟩))) (h2 : w.cell? ⟨T, 2, none⟩ = some (.int .u64 p)) (hm : w.cell? ⟨S, 7, none⟩ = some (.int .i32 0)) (hz : w.frozen? ⟨S, 7, none⟩ = false) :
    Calls Yba.prog 13 #[.pointer (some ⟨T, 0, none⟩)] w fun e w' => e = .returned (.int .u64 p) ∧ w' = (w.setCell ⟨S, 7, none⟩ (.int .i32 1)).setCell ⟨S, 7, none⟩ (.int .i32 0) := by
  have k0 : (w.setCell ⟨S, 7, none⟩ (.int .i32 1)).cell? ⟨T, 0, none⟩ = some (.pointer (some ⟨S, 0, none⟩)) := (World.cell?_setCell_other w ⟨S, 7, none⟩ ⟨T, 0, none⟩ _ (by simp)).trans h0
  have k2 : (w.setCell ⟨S, 7, none⟩ (.int .i32 1)).cell? ⟨T, 2, none⟩ = some (.int .u64 p) := (World.cell?_setCell_other w ⟨S, 7, none⟩ ⟨T, 2, none⟩ _ (by simp)).trans h2
  go_enter_defers Yba.func13, Yba.ntmps13
  go_wp2_with (go_at_call 19; refine (lock_free Yba.muLib ⟨S, 7, none⟩ _ hm hz).mono ?_; rintro e w' ⟨rfl, rfl⟩)
  refine leaves_cons (f := 15) (args := #[.pointer (some ⟨S, 7, none⟩)]) (by simp) (by simp [go_sem]) ?_
  refine (unlock_deferred Yba.muLib ⟨S, 7, none⟩ .returning _ ?_ ?_).mono ?_
  · exact World.cell?_setCell_same w ⟨S, 7, none⟩ (.int .i32 1) hm
  · simp [hz]
  rintro e u' w'' ⟨rfl, rfl, rfl⟩
  exact ⟨_, results_tmp rfl _ _ _, rfl, rfl⟩

/-- The cells that the law reads, the lock free. -/
structure St (W : World) (S T : Nat) (p b c : Int) : Prop where
  t0 : W.cell? ⟨T, 0, none⟩ = some (.pointer (some ⟨S, 0, none⟩))
  t2 : W.cell? ⟨T, 2, none⟩ = some (.int .u64 p)
  m : W.cell? ⟨S, 7, none⟩ = some (.int .i32 0)
  z : W.frozen? ⟨S, 7, none⟩ = false
  s16 : W.cell? ⟨S, 16, none⟩ = some (.int .u64 b)
  s17 : W.cell? ⟨S, 17, none⟩ = some (.int .u64 c)

theorem St.again {W : World} {S T : Nat} {p b c : Int} (h : St W S T p b c) : St ((W.setCell ⟨S, 7, none⟩ (.int .i32 1)).setCell ⟨S, 7, none⟩ (.int .i32 0)) S T p b c where
  t0 := (World.cell?_setCell_other _ ⟨S, 7, none⟩ ⟨T, 0, none⟩ _ (by simp)).trans ((World.cell?_setCell_other W ⟨S, 7, none⟩ ⟨T, 0, none⟩ _ (by simp)).trans h.t0)
  t2 := (World.cell?_setCell_other _ ⟨S, 7, none⟩ ⟨T, 2, none⟩ _ (by simp)).trans ((World.cell?_setCell_other W ⟨S, 7, none⟩ ⟨T, 2, none⟩ _ (by simp)).trans h.t2)
  m := World.cell?_setCell_same _ ⟨S, 7, none⟩ (.int .i32 0) (World.cell?_setCell_same W ⟨S, 7, none⟩ (.int .i32 1) h.m)
  z := by simp [h.z]
  s16 := (World.cell?_setCell_other _ ⟨S, 7, none⟩ ⟨S, 16, none⟩ _ (by simp)).trans ((World.cell?_setCell_other W ⟨S, 7, none⟩ ⟨S, 16, none⟩ _ (by simp)).trans h.s16)
  s17 := (World.cell?_setCell_other _ ⟨S, 7, none⟩ ⟨S, 17, none⟩ _ (by simp)).trans ((World.cell?_setCell_other W ⟨S, 7, none⟩ ⟨S, 17, none⟩ _ (by simp)).trans h.s17)

def storeObj (b c : Int) : Obj :=
  .cells #[.nilFunc, .nilFunc, .nilFunc, .bool false, .pointer none, .string ⟨#[]⟩, .int .i64 0, .int .i32 0, .int .u32 0, .bool false, .pointer none, .map none, .slice none 0 0, .slice none 0 0, .slice none 0 0, .slice none 0 0, .int .u64 b, .int .u64 c, .int .u64 0, .int .u64 0, .int .u64 0, .int .i64 0, .chan none, .nilIface] 89
def txObj (S : Nat) (p : Int) : Obj :=
  .cells #[.pointer (some ⟨S, 0, none⟩), .int .u64 0, .int .u64 p, .bool false, .bool false, .slice none 0 0, .slice none 0 0] 44

theorem cell_in {w : World} {b : Nat} {cs : Array Value} {t : TypeId} (h : w.heap[b]? = some (.cells cs t)) {i : Nat} {v : Value} (hi : cs[i]? = some v) : w.cell? ⟨b, i, none⟩ = some v := by
  simp [World.cell?, h, hi]
theorem frozen_in {w : World} {b : Nat} {cs : Array Value} {t : TypeId} (h : w.heap[b]? = some (.cells cs t)) (i : Nat) : w.frozen? ⟨b, i, none⟩ = false := by simp [World.frozen?, h]

theorem st_new (w : World) (p b c : Int) : St ((w.alloc (storeObj b c)).alloc (txObj w.heap.size p)) w.heap.size (w.heap.size + 1) p b c := by
  have hT : ((w.alloc (storeObj b c)).alloc (txObj w.heap.size p)).heap[w.heap.size + 1]? = some (txObj w.heap.size p) := by
    show ((w.heap.push _).push _)[w.heap.size + 1]? = _
    rw [Array.getElem?_push]
    simp
  have hS : ((w.alloc (storeObj b c)).alloc (txObj w.heap.size p)).heap[w.heap.size]? = some (storeObj b c) := by
    show ((w.heap.push _).push _)[w.heap.size]? = _
    simp [Array.getElem?_push]
  exact ⟨cell_in hT rfl, cell_in hT rfl, cell_in hS rfl, frozen_in hS 7, cell_in hS rfl, cell_in hS rfl⟩

theorem below_new (w : World) (p b c : Int) : Below w.heap.size w ((w.alloc (storeObj b c)).alloc (txObj w.heap.size p)) :=
  ((Below.refl _ w).alloc (Nat.le_refl _) _).alloc (by show _ ≤ (w.heap.push _).size; simp) _

set_option maxRecDepth 100000 in
set_option maxHeartbeats 1000000 in
theorem reads_any (p b c : Int) (w : World) :
    Calls Yba.prog 6 #[.int .u64 p, .int .u64 b, .int .u64 c] w fun e w' => e = .returned (.bool true) ∧ Below w.heap.size w w' := by
  go_enter Yba.func6, Yba.ntmps6
  go_wp2_with fail
  change Calls _ _ _ ((w.alloc (storeObj b c)).alloc (txObj w.heap.size p)) _
  have H1 : Hid (St ((w.alloc (storeObj b c)).alloc (txObj w.heap.size p)) w.heap.size (w.heap.size + 1) p b c) := st_new w p b c
  have B1 : Hid (Below w.heap.size w ((w.alloc (storeObj b c)).alloc (txObj w.heap.size p))) := below_new w p b c
  generalize (w.alloc (storeObj b c)).alloc (txObj w.heap.size p) = w1 at *
  refine (place_any (w.heap.size + 1) w.heap.size p w1 H1.out.t0 H1.out.t2 H1.out.m H1.out.z).mono ?_
  rintro e w' ⟨rfl, rfl⟩
  have H2 : Hid (St ((w1.setCell ⟨w.heap.size, 7, none⟩ (.int .i32 1)).setCell ⟨w.heap.size, 7, none⟩ (.int .i32 0)) w.heap.size (w.heap.size + 1) p b c) := H1.out.again
  have B2 : Hid (Below w.heap.size w ((w1.setCell ⟨w.heap.size, 7, none⟩ (.int .i32 1)).setCell ⟨w.heap.size, 7, none⟩ (.int .i32 0))) := (B1.out.setCell (p := ⟨w.heap.size, 7, none⟩) (Nat.le_refl _) _).setCell (p := ⟨w.heap.size, 7, none⟩) (Nat.le_refl _) _
  generalize (w1.setCell ⟨w.heap.size, 7, none⟩ (.int .i32 1)).setCell ⟨w.heap.size, 7, none⟩ (.int .i32 0) = w2 at *
  have e2 := H2.out.t2
  have e16 := H2.out.s16
  have e17 := H2.out.s17
  go_wp2_with fail
  refine (try_free ⟨w.heap.size, 7, none⟩ w2 H2.out.m H2.out.z).mono ?_
  rintro e w' ⟨rfl, rfl⟩
  have H3 : Hid (St ((w2.setCell ⟨w.heap.size, 7, none⟩ (.int .i32 1)).setCell ⟨w.heap.size, 7, none⟩ (.int .i32 0)) w.heap.size (w.heap.size + 1) p b c) := H2.out.again
  have B3 : Hid (Below w.heap.size w ((w2.setCell ⟨w.heap.size, 7, none⟩ (.int .i32 1)).setCell ⟨w.heap.size, 7, none⟩ (.int .i32 0))) := (B2.out.setCell (p := ⟨w.heap.size, 7, none⟩) (Nat.le_refl _) _).setCell (p := ⟨w.heap.size, 7, none⟩) (Nat.le_refl _) _
  have z3 : (w2.setCell ⟨w.heap.size, 7, none⟩ (.int .i32 1)).frozen? ⟨w.heap.size, 7, none⟩ = false := by simp [H2.out.z]
  have m3 : (w2.setCell ⟨w.heap.size, 7, none⟩ (.int .i32 1)).cell? ⟨w.heap.size, 7, none⟩ = some (.int .i32 1) := World.cell?_setCell_same w2 ⟨w.heap.size, 7, none⟩ (.int .i32 1) H2.out.m
  clear e2 e16 e17
  generalize w2.setCell ⟨w.heap.size, 7, none⟩ (.int .i32 1) = w3 at *
  go_wp2_with fail
  refine (unlock_held Yba.muLib ⟨w.heap.size, 7, none⟩ w3 m3 z3).mono ?_
  rintro e w' ⟨rfl, rfl⟩
  clear z3 m3
  generalize w3.setCell ⟨w.heap.size, 7, none⟩ (.int .i32 0) = w4 at *
  go_wp2_with fail
  refine (place_any (w.heap.size + 1) w.heap.size p w4 H3.out.t0 H3.out.t2 H3.out.m H3.out.z).mono ?_
  rintro e w' ⟨rfl, rfl⟩
  have B5 : Hid (Below w.heap.size w ((w4.setCell ⟨w.heap.size, 7, none⟩ (.int .i32 1)).setCell ⟨w.heap.size, 7, none⟩ (.int .i32 0))) := (B3.out.setCell (p := ⟨w.heap.size, 7, none⟩) (Nat.le_refl _) _).setCell (p := ⟨w.heap.size, 7, none⟩) (Nat.le_refl _) _
  generalize (w4.setCell ⟨w.heap.size, 7, none⟩ (.int .i32 1)).setCell ⟨w.heap.size, 7, none⟩ (.int .i32 0) = w5 at *
  go_wp2_with fail
  go_ret
  exact ⟨by simp, B5⟩

end Go.Proofs.Ybulkbxou
