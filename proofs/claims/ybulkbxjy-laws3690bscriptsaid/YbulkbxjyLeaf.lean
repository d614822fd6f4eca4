/-
  Contracts of the leaf methods of sync/atomic's types, on the queue's cells.
-/
import Derived.Test.YbulkbxjyLaws
import Derived.Test.YbulkbxjyProg
import Derived.WalkSpells
import Derived.WalkLawsBesides
namespace Go.Proofs.Ybulkbxjy
open Go.RowKit

theorem Yba.run_LoadInt64 {a : Addr} {x : Int} {w : World} (hc : w.cell? a = some (.int .i64 x)) : (callFunc 25 #[.pointer (some a)]).run Yba.prog w = .ok (.value (.int .i64 x)) w :=
  run_call_load Yba.func25 (by kernel_rfl) (by kernel_rfl) (by kernel_rfl) .i64 (by kernel_rfl) hc
theorem Yba.run_LoadInt32 {a : Addr} {x : Int} {w : World} (hc : w.cell? a = some (.int .i32 x)) : (callFunc 37 #[.pointer (some a)]).run Yba.prog w = .ok (.value (.int .i32 x)) w :=
  run_call_load Yba.func37 (by kernel_rfl) (by kernel_rfl) (by kernel_rfl) .i32 (by kernel_rfl) hc
theorem Yba.run_LoadUint32 {a : Addr} {x : Int} {w : World} (hc : w.cell? a = some (.int .u32 x)) : (callFunc 75 #[.pointer (some a)]).run Yba.prog w = .ok (.value (.int .u32 x)) w :=
  run_call_load Yba.func75 (by kernel_rfl) (by kernel_rfl) (by kernel_rfl) .u32 (by kernel_rfl) hc
theorem Yba.run_LoadPointer {a : Addr} {x : Option Addr} {w : World} (hc : w.cell? a = some (.pointer x)) : (callFunc 36 #[.pointer (some a)]).run Yba.prog w = .ok (.value (.pointer x)) w :=
  call_load_ptr Yba.func36 (by kernel_rfl) (by kernel_rfl) (by kernel_rfl) (by kernel_rfl) hc
theorem Yba.run_CasInt64 {a : Addr} {x y : Int} {w : World} (hc : w.cell? a = some (.int .i64 x)) (hz : w.frozen? a = false) :
    (callFunc 26 #[.pointer (some a), .int .i64 x, .int .i64 y]).run Yba.prog w = .ok (.value (.bool true)) (w.setCell a (.int .i64 y)) :=
  run_call_cas_hit Yba.func26 (by kernel_rfl) (by kernel_rfl) (by kernel_rfl) .i64 (by kernel_rfl) hc hz
theorem Yba.run_StoreInt64 {a : Addr} {y : Int} {u : Value} {w : World} (hc : w.cell? a = some u) (hz : w.frozen? a = false) :
    (callFunc 73 #[.pointer (some a), .int .i64 y]).run Yba.prog w = .ok (.value (.tuple #[])) (w.setCell a (.int .i64 y)) :=
  run_call_store Yba.func73 (by kernel_rfl) (by kernel_rfl) (by kernel_rfl) (by kernel_rfl) hc hz
theorem Yba.run_StoreUint32 {a : Addr} {y : Int} {u : Value} {w : World} (hc : w.cell? a = some u) (hz : w.frozen? a = false) :
    (callFunc 74 #[.pointer (some a), .int .u32 y]).run Yba.prog w = .ok (.value (.tuple #[])) (w.setCell a (.int .u32 y)) :=
  run_call_store Yba.func74 (by kernel_rfl) (by kernel_rfl) (by kernel_rfl) (by kernel_rfl) hc hz
theorem Yba.run_StorePointer {a : Addr} {y : Option Addr} {u : Value} {w : World} (hc : w.cell? a = some u) (hz : w.frozen? a = false) :
    (callFunc 49 #[.pointer (some a), .pointer y]).run Yba.prog w = .ok (.value (.tuple #[])) (w.setCell a (.pointer y)) :=
  call_store_ptr Yba.func49 (by kernel_rfl) (by kernel_rfl) (by kernel_rfl) (by kernel_rfl) hc hz
theorem Yba.run_CasPointer {a : Addr} {y : Option Addr} {w : World} (hc : w.cell? a = some (.pointer none)) (hz : w.frozen? a = false) :
    (callFunc 47 #[.pointer (some a), .pointer none, .pointer y]).run Yba.prog w = .ok (.value (.bool true)) (w.setCell a (.pointer y)) :=
  call_cas_ptr_nil Yba.func47 (by kernel_rfl) (by kernel_rfl) (by kernel_rfl) (by kernel_rfl) hc hz
theorem Yba.run_AddInt64 {a : Addr} {x y : Int} {w : World} (hc : w.cell? a = some (.int .i64 x)) (hz : w.frozen? a = false) :
    (callFunc 50 #[.pointer (some a), .int .i64 y]).run Yba.prog w = .ok (.value (.int .i64 (wrap64 (x + y)))) (w.setCell a (.int .i64 (wrap64 (x + y)))) :=
  run_call_add Yba.func50 (by kernel_rfl) (by kernel_rfl) (by kernel_rfl) .i64 (by kernel_rfl) hc hz (by simp [go_sem, wrap64, IntKind.wrap_i64])

theorem Yba.cells75 : Yba.prog.cellsOf 75 = 7 := by kernel_rfl
theorem Yba.cells64 : Yba.prog.cellsOf 64 = 4 := by kernel_rfl
theorem Yba.lies75 : liesAt Yba.prog Yba.prog.depth 75 (7 / Yba.prog.cellsOf 75) 0 75 1 = true := by kernel_rfl
theorem Yba.lies64 : liesAt Yba.prog Yba.prog.depth 64 (4 / Yba.prog.cellsOf 64) 0 64 1 = true := by kernel_rfl

theorem Yba.isInfo75 : (Yba.prog.info? 75).isSome = true := by kernel_rfl
theorem Yba.isInfo64 : (Yba.prog.info? 64).isSome = true := by kernel_rfl
theorem Yba.size75 : (Yba.prog.info? 75).map (fun i => decide (i.size = 0)) = some false := by kernel_rfl
theorem Yba.size64 : (Yba.prog.info? 64).map (fun i => decide (i.size = 0)) = some false := by kernel_rfl

theorem Yba.conv_chunk_out {b : Nat} {w : World} (h : w.shape? b = some (75, 7)) : (convert 27 23 (.pointer (some ⟨b, 0, none⟩))).run Yba.prog w = .ok (.pointer (some ⟨b, 0, none⟩)) w := by
  obtain ⟨i, hi⟩ := Option.isSome_iff_exists.1 Yba.isInfo75
  have hl := Yba.lies75
  simp only [convert, Sem.run_bind, run_underlying Yba.underlying27, run_underlying Yba.underlying23, Result.andThen_ok]
  change Sem.run Yba.prog (underlying 27 >>= _) w = _
  simp [Conv.seenAt, viewAt, variablesAt, sizeOf, typeInfo, run_underlying Yba.underlying27, run_underlying Yba.underlying23, hi, h, hl, Result.andThen]
theorem Yba.conv_cap_out {b : Nat} {w : World} (h : w.shape? b = some (64, 4)) : (convert 27 34 (.pointer (some ⟨b, 0, none⟩))).run Yba.prog w = .ok (.pointer (some ⟨b, 0, none⟩)) w := by
  obtain ⟨i, hi⟩ := Option.isSome_iff_exists.1 Yba.isInfo64
  have hl := Yba.lies64
  simp only [convert, Sem.run_bind, run_underlying Yba.underlying27, run_underlying Yba.underlying34, Result.andThen_ok]
  change Sem.run Yba.prog (underlying 27 >>= _) w = _
  simp [Conv.seenAt, viewAt, variablesAt, sizeOf, typeInfo, run_underlying Yba.underlying27, run_underlying Yba.underlying34, hi, h, hl, Result.andThen]
theorem Yba.conv_chunk_in {a : Addr} {v : Value} {w : World} (h : w.cell? a = some v) : (convert 23 27 (.pointer (some a))).run Yba.prog w = .ok (.pointer (some a)) w := by
  obtain ⟨e, n, hsh, hlt, hsp⟩ := World.shape?_of_cell? h
  obtain ⟨i, hi, hz0⟩ := Option.map_eq_some_iff.1 Yba.size75
  have hz : i.size ≠ 0 := by simpa using hz0
  have hge : ¬ (n ≤ a.off) := by omega
  simp only [convert, Sem.run_bind, run_underlying Yba.underlying27, run_underlying Yba.underlying23, Result.andThen_ok]
  change Sem.run Yba.prog (underlying 23 >>= _) w = _
  simp [Conv.seenAt, viewAt, cellsIn, sizeOf, typeInfo, run_underlying Yba.underlying27, run_underlying Yba.underlying23, hi, hz, hsh, hge, Result.andThen]
theorem Yba.conv_cap_in {a : Addr} {v : Value} {w : World} (h : w.cell? a = some v) : (convert 34 27 (.pointer (some a))).run Yba.prog w = .ok (.pointer (some a)) w := by
  obtain ⟨e, n, hsh, hlt, hsp⟩ := World.shape?_of_cell? h
  obtain ⟨i, hi, hz0⟩ := Option.map_eq_some_iff.1 Yba.size64
  have hz : i.size ≠ 0 := by simpa using hz0
  have hge : ¬ (n ≤ a.off) := by omega
  simp only [convert, Sem.run_bind, run_underlying Yba.underlying27, run_underlying Yba.underlying34, Result.andThen_ok]
  change Sem.run Yba.prog (underlying 34 >>= _) w = _
  simp [Conv.seenAt, viewAt, cellsIn, sizeOf, typeInfo, run_underlying Yba.underlying27, run_underlying Yba.underlying34, hi, hz, hsh, hge, Result.andThen]
theorem Yba.conv_chunk_out_nil (w : World) : (convert 27 23 (.pointer none)).run Yba.prog w = .ok (.pointer none) w := by kernel_rfl
theorem Yba.conv_cap_out_nil (w : World) : (convert 27 34 (.pointer none)).run Yba.prog w = .ok (.pointer none) w := by kernel_rfl
theorem Yba.conv_weak_out_nil (w : World) : (convert 27 30 (.pointer none)).run Yba.prog w = .ok (.pointer none) w := by kernel_rfl
theorem Yba.conv_chunk_in_nil (w : World) : (convert 23 27 (.pointer none)).run Yba.prog w = .ok (.pointer none) w := by kernel_rfl
theorem Yba.conv_cap_in_nil (w : World) : (convert 34 27 (.pointer none)).run Yba.prog w = .ok (.pointer none) w := by kernel_rfl

theorem i64_load (b o : Nat) (x : Int) (w : World) (hc : w.cell? ⟨b, o, none⟩ = some (.int .i64 x)) :
    Calls Yba.prog 15 #[.pointer (some ⟨b, o, none⟩)] w fun e w' => e = .returned (.int .i64 x) ∧ w = w' := by
  have h1 := Yba.run_LoadInt64 hc
  go_enter Yba.func15, Yba.ntmps15
  go_wp2
  go_ret
  exact ⟨rfl, rfl⟩

theorem i32_load (b o : Nat) (x : Int) (w : World) (hc : w.cell? ⟨b, o, none⟩ = some (.int .i32 x)) :
    Calls Yba.prog 20 #[.pointer (some ⟨b, o, none⟩)] w fun e w' => e = .returned (.int .i32 x) ∧ w = w' := by
  have h1 := Yba.run_LoadInt32 hc
  go_enter Yba.func20, Yba.ntmps20
  go_wp2
  go_ret
  exact ⟨rfl, rfl⟩

theorem u32_load (b o : Nat) (x : Int) (w : World) (hc : w.cell? ⟨b, o, none⟩ = some (.int .u32 x)) :
    Calls Yba.prog 52 #[.pointer (some ⟨b, o, none⟩)] w fun e w' => e = .returned (.int .u32 x) ∧ w = w' := by
  have h1 := Yba.run_LoadUint32 hc
  go_enter Yba.func52, Yba.ntmps52
  go_wp2
  go_ret
  exact ⟨rfl, rfl⟩

theorem i64_cas (b o : Nat) (x y : Int) (w : World) (hc : w.cell? ⟨b, o, none⟩ = some (.int .i64 x)) (hz : w.frozen? ⟨b, o, none⟩ = false) :
    Calls Yba.prog 16 #[.pointer (some ⟨b, o, none⟩), .int .i64 x, .int .i64 y] w fun e w' => e = .returned (.bool true) ∧ w' = w.setCell ⟨b, o, none⟩ (.int .i64 y) := by
  have h1 := Yba.run_CasInt64 (y := y) hc hz
  go_enter Yba.func16, Yba.ntmps16
  go_wp2
  go_ret
  exact ⟨rfl, rfl⟩

theorem i64_add (b o : Nat) (x y : Int) (w : World) (hc : w.cell? ⟨b, o, none⟩ = some (.int .i64 x)) (hz : w.frozen? ⟨b, o, none⟩ = false) :
    Calls Yba.prog 30 #[.pointer (some ⟨b, o, none⟩), .int .i64 y] w fun e w' => e = .returned (.int .i64 (wrap64 (x + y))) ∧ w' = w.setCell ⟨b, o, none⟩ (.int .i64 (wrap64 (x + y))) := by
  have h1 := Yba.run_AddInt64 (y := y) hc hz
  go_enter Yba.func30, Yba.ntmps30
  go_wp2
  go_ret
  exact ⟨rfl, rfl⟩

theorem i64_store (b o : Nat) (u : Value) (y : Int) (w : World) (hc : w.cell? ⟨b, o, none⟩ = some u) (hz : w.frozen? ⟨b, o, none⟩ = false) :
    Calls Yba.prog 48 #[.pointer (some ⟨b, o, none⟩), .int .i64 y] w fun e w' => e = .returned (.tuple #[]) ∧ w' = w.setCell ⟨b, o, none⟩ (.int .i64 y) := by
  have h1 := Yba.run_StoreInt64 (y := y) hc hz
  go_enter Yba.func48, Yba.ntmps48
  go_wp2
  go_end0
  exact ⟨rfl, rfl⟩

theorem u32_store (b o : Nat) (u : Value) (y : Int) (w : World) (hc : w.cell? ⟨b, o, none⟩ = some u) (hz : w.frozen? ⟨b, o, none⟩ = false) :
    Calls Yba.prog 51 #[.pointer (some ⟨b, o, none⟩), .int .u32 y] w fun e w' => e = .returned (.tuple #[]) ∧ w' = w.setCell ⟨b, o, none⟩ (.int .u32 y) := by
  have h1 := Yba.run_StoreUint32 (y := y) hc hz
  go_enter Yba.func51, Yba.ntmps51
  go_wp2
  go_end0
  exact ⟨rfl, rfl⟩

theorem chunk_load_nil (b o : Nat) (w : World) (hc : w.cell? ⟨b, o, none⟩ = some (.pointer none)) :
    Calls Yba.prog 19 #[.pointer (some ⟨b, o, none⟩)] w fun e w' => e = .returned (.pointer none) ∧ w = w' := by
  have h1 := Yba.run_LoadPointer hc
  have h2 := Yba.conv_chunk_out_nil w
  go_enter Yba.func19, Yba.ntmps19
  go_wp2
  go_ret
  exact ⟨rfl, rfl⟩

theorem chunk_load (b o c : Nat) (w : World) (hc : w.cell? ⟨b, o, none⟩ = some (.pointer (some ⟨c, 0, none⟩))) (hs : w.shape? c = some (75, 7)) :
    Calls Yba.prog 19 #[.pointer (some ⟨b, o, none⟩)] w fun e w' => e = .returned (.pointer (some ⟨c, 0, none⟩)) ∧ w = w' := by
  have h1 := Yba.run_LoadPointer hc
  have h2 := Yba.conv_chunk_out hs
  go_enter Yba.func19, Yba.ntmps19
  go_wp2
  go_ret
  exact ⟨rfl, rfl⟩

theorem cap_load_nil (b o : Nat) (w : World) (hc : w.cell? ⟨b, o, none⟩ = some (.pointer none)) :
    Calls Yba.prog 18 #[.pointer (some ⟨b, o, none⟩)] w fun e w' => e = .returned (.pointer none) ∧ w = w' := by
  have h1 := Yba.run_LoadPointer hc
  have h2 := Yba.conv_cap_out_nil w
  go_enter Yba.func18, Yba.ntmps18
  go_wp2
  go_ret
  exact ⟨rfl, rfl⟩

theorem cap_load (b o c : Nat) (w : World) (hc : w.cell? ⟨b, o, none⟩ = some (.pointer (some ⟨c, 0, none⟩))) (hs : w.shape? c = some (64, 4)) :
    Calls Yba.prog 18 #[.pointer (some ⟨b, o, none⟩)] w fun e w' => e = .returned (.pointer (some ⟨c, 0, none⟩)) ∧ w = w' := by
  have h1 := Yba.run_LoadPointer hc
  have h2 := Yba.conv_cap_out hs
  go_enter Yba.func18, Yba.ntmps18
  go_wp2
  go_ret
  exact ⟨rfl, rfl⟩

theorem weak_load_nil (b o : Nat) (w : World) (hc : w.cell? ⟨b, o, none⟩ = some (.pointer none)) :
    Calls Yba.prog 32 #[.pointer (some ⟨b, o, none⟩)] w fun e w' => e = .returned (.pointer none) ∧ w = w' := by
  have h1 := Yba.run_LoadPointer hc
  have h2 := Yba.conv_weak_out_nil w
  go_enter Yba.func32, Yba.ntmps32
  go_wp2
  go_ret
  exact ⟨rfl, rfl⟩

theorem chunk_cas_nil (b o : Nat) (a : Addr) (v : Value) (w : World) (hc : w.cell? ⟨b, o, none⟩ = some (.pointer none)) (hz : w.frozen? ⟨b, o, none⟩ = false) (ha : w.cell? a = some v) :
    Calls Yba.prog 28 #[.pointer (some ⟨b, o, none⟩), .pointer none, .pointer (some a)] w fun e w' => e = .returned (.bool true) ∧ w' = w.setCell ⟨b, o, none⟩ (.pointer (some a)) := by
  have h1 := Yba.run_CasPointer (y := some a) hc hz
  have h2 := Yba.conv_chunk_in_nil w
  have h3 := Yba.conv_chunk_in ha
  go_enter Yba.func28, Yba.ntmps28
  go_wp2
  go_ret
  exact ⟨rfl, rfl⟩

theorem cap_cas_nil (b o : Nat) (a : Addr) (v : Value) (w : World) (hc : w.cell? ⟨b, o, none⟩ = some (.pointer none)) (hz : w.frozen? ⟨b, o, none⟩ = false) (ha : w.cell? a = some v) :
    Calls Yba.prog 24 #[.pointer (some ⟨b, o, none⟩), .pointer none, .pointer (some a)] w fun e w' => e = .returned (.bool true) ∧ w' = w.setCell ⟨b, o, none⟩ (.pointer (some a)) := by
  have h1 := Yba.run_CasPointer (y := some a) hc hz
  have h2 := Yba.conv_cap_in_nil w
  have h3 := Yba.conv_cap_in ha
  go_enter Yba.func24, Yba.ntmps24
  go_wp2
  go_ret
  exact ⟨rfl, rfl⟩

theorem chunk_store (b o : Nat) (u : Value) (a : Addr) (v : Value) (w : World) (hc : w.cell? ⟨b, o, none⟩ = some u) (hz : w.frozen? ⟨b, o, none⟩ = false) (ha : w.cell? a = some v) :
    Calls Yba.prog 29 #[.pointer (some ⟨b, o, none⟩), .pointer (some a)] w fun e w' => e = .returned (.tuple #[]) ∧ w' = w.setCell ⟨b, o, none⟩ (.pointer (some a)) := by
  have h1 := Yba.run_StorePointer (y := some a) hc hz
  have h3 := Yba.conv_chunk_in ha
  go_enter Yba.func29, Yba.ntmps29
  go_wp2
  go_end0
  exact ⟨rfl, rfl⟩

end Go.Proofs.Ybulkbxjy
