/-
  The walks of seat b3382a: sync/atomic's own methods and (*Mutex).TryLock, one goroutine.
-/
import Derived.Test.YbulkbracRows
import Derived.WalkKit
import Derived.Tactics
import Derived.Tactics2
import Derived.Laws.Pointers
import Derived.Laws.LoneSync
namespace Go.Proofs.Ybulkbrac.lawS3382BState

theorem store_any (a : Addr) (u : Value) (y : Int) (w : World) (h0 : w.cell? a = some u) (f0 : w.frozen? a = false) :
    Calls Yba.prog 4 #[.pointer (some a), .int .i64 y] w fun e w' => e = .returned (.tuple #[]) ∧ w' = w.setCell a (.int .i64 y) := by
  have hs := run_call_store (P := Yba.prog) Yba.func9 (by kernel_rfl) (by kernel_rfl) (by kernel_rfl) (by kernel_rfl) (k := .i64) (y := y) h0 f0
  go_enter Yba.func4, Yba.ntmps4
  go_wp2
  go_end0
  exact ⟨rfl, rfl⟩

theorem load_any (a : Addr) (y : Int) (w : World) (h0 : w.cell? a = some (.int .i64 y)) :
    Calls Yba.prog 6 #[.pointer (some a)] w fun e w' => e = .returned (.int .i64 y) ∧ w' = w := by
  have hs := run_call_load (P := Yba.prog) Yba.func11 (by kernel_rfl) (by kernel_rfl) (by kernel_rfl) .i64 (by kernel_rfl) h0
  go_enter Yba.func6, Yba.ntmps6
  go_wp2
  go_ret
  exact ⟨rfl, rfl⟩

theorem cas_hit (a : Addr) (x y : Int) (w : World) (h0 : w.cell? a = some (.int .i64 x)) (f0 : w.frozen? a = false) :
    Calls Yba.prog 10 #[.pointer (some a), .int .i64 x, .int .i64 y] w fun e w' => e = .returned (.bool true) ∧ w' = w.setCell a (.int .i64 y) := by
  have hs := run_call_cas_hit (P := Yba.prog) Yba.func14 (by kernel_rfl) (by kernel_rfl) (by kernel_rfl) .i64 (by kernel_rfl) (y := y) h0 f0
  go_enter Yba.func10, Yba.ntmps10
  go_wp2
  go_ret
  exact ⟨rfl, rfl⟩

theorem bload_false (a : Addr) (w : World) (h0 : w.cell? a = some (.int .u32 0)) :
    Calls Yba.prog 7 #[.pointer (some a)] w fun e w' => e = .returned (.bool false) ∧ w' = w := by
  have hs := run_call_load (P := Yba.prog) Yba.func12 (by kernel_rfl) (by kernel_rfl) (by kernel_rfl) .u32 (by kernel_rfl) h0
  go_enter Yba.func7, Yba.ntmps7
  go_wp2
  go_ret
  exact ⟨rfl, rfl⟩

/-- sync/atomic.LoadPointer where the cell holds nil. -/
theorem run_call_loadNil {P : Program} {f : FuncId} {fn : Func} (hf : P.funcs[f]? = some fn) (hname : (fn.name == "runtime.NumGoroutine") = false) (hb : fn.body.isNone = true) (hn : Extern.findNext fn = none)
    (he : Extern.find fn = some (Extern.Atomic.loadT .ptr)) {a : Addr} {w : World} (hc : w.cell? a = some (.pointer none)) :
    (callFunc f #[.pointer (some a)]).run P w = .ok (.value (.pointer none)) w := by
  rw [run_callFunc_extern hf hname hb hn he]
  change (Sem.run P (do Extern.Atomic.read .ptr (← asAddr (.pointer (some a)))) w).andThen _ = _
  simp [Extern.Atomic.read, asAddr, hc, Result.andThen]

theorem run_convert_nil {P : Program} {src dst t : TypeId} (hs : P.underlying src = some .unsafePointer) (hd : P.underlying dst = some (.pointer t)) (w : World) :
    (convert src dst (.pointer none)).run P w = .ok (.pointer none) w := by
  simp [convert, Conv.unsafePointer, run_underlying hs, run_underlying hd]

theorem pload_nil (a : Addr) (w : World) (h0 : w.cell? a = some (.pointer none)) :
    Calls Yba.prog 8 #[.pointer (some a)] w fun e w' => e = .returned (.pointer none) ∧ w' = w := by
  have hs := run_call_loadNil (P := Yba.prog) Yba.func13 (by kernel_rfl) (by kernel_rfl) (by kernel_rfl) (by kernel_rfl) h0
  have hc := run_convert_nil (P := Yba.prog) Yba.underlying32 Yba.underlying30 w
  go_enter Yba.func8, Yba.ntmps8
  go_wp2
  go_ret
  exact ⟨rfl, rfl⟩

end Go.Proofs.Ybulkbrac.lawS3382BState
