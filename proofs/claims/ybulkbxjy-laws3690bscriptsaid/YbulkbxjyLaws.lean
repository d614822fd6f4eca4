/-
  Laws for a walk of one goroutine: sync/atomic on pointer cells. Over any program.
-/
import Derived.Laws.LoneSync
import Derived.WalkKit
namespace Go.Proofs.Ybulkbxjy
open Go.RowKit
section
variable {P : Program} {f : FuncId} {fn : Func}

theorem call_load_ptr (hf : P.funcs[f]? = some fn) (hname : (fn.name == "runtime.NumGoroutine") = false) (hb : fn.body.isNone = true) (hn : Extern.findNext fn = none)
    (he : Extern.find fn = some (Extern.Atomic.loadT .ptr)) {a : Addr} {x : Option Addr} {w : World} (hc : w.cell? a = some (.pointer x)) :
    (callFunc f #[.pointer (some a)]).run P w = .ok (.value (.pointer x)) w := by
  rw [run_callFunc_extern hf hname hb hn he]
  change (Sem.run P (asAddr (.pointer (some a)) >>= _) w).andThen _ = _
  simp [Extern.Atomic.read, asAddr, hc, Result.andThen]

theorem call_store_ptr (hf : P.funcs[f]? = some fn) (hname : (fn.name == "runtime.NumGoroutine") = false) (hb : fn.body.isNone = true) (hn : Extern.findNext fn = none)
    (he : Extern.find fn = some Extern.Atomic.storeT) {a : Addr} {y : Option Addr} {u : Value} {w : World} (hc : w.cell? a = some u) (hz : w.frozen? a = false) :
    (callFunc f #[.pointer (some a), .pointer y]).run P w = .ok (.value (.tuple #[])) (w.setCell a (.pointer y)) := by
  rw [run_callFunc_extern hf hname hb hn he]
  change (Sem.run P (asAddr (.pointer (some a)) >>= _) w).andThen _ = _
  simp [Array.getLit, asAddr, hc, hz, run_store P w a (.pointer y) .atomic rfl, Result.andThen, Extern.Atomic.none_]

theorem call_cas_ptr_nil (hf : P.funcs[f]? = some fn) (hname : (fn.name == "runtime.NumGoroutine") = false) (hb : fn.body.isNone = true) (hn : Extern.findNext fn = none)
    (he : Extern.find fn = some (Extern.Atomic.casT .ptr)) {a : Addr} {y : Option Addr} {w : World} (hc : w.cell? a = some (.pointer none)) (hz : w.frozen? a = false) :
    (callFunc f #[.pointer (some a), .pointer none, .pointer y]).run P w = .ok (.value (.bool true)) (w.setCell a (.pointer y)) := by
  rw [run_callFunc_extern hf hname hb hn he]
  change (Sem.run P (asAddr (.pointer (some a)) >>= _) w).andThen _ = _
  simp [Array.getLit, Extern.Atomic.touchesFrozen, Extern.Atomic.read, asAddr, viewAt, samePointer, World.shape?_isSome_of_cell? hc, hc, hz, run_store P w a (.pointer y) .atomic rfl, Result.andThen]
end

end Go.Proofs.Ybulkbxjy
