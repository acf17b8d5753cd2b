/-
  THE ATOMICS OF THE SEAT b3469a BY CONTRACT: (*atomic.Int64).Load, Store, CompareAndSwap; (*atomic.Int32).Load: one goroutine.
-/
import Derived.Test.YbulkbsuyProg
import Derived.WalkKit
import Derived.Laws.LoneSync
import Derived.Laws.Pointers
import Derived.KernelRfl
namespace Go.Proofs.Ybulkbsuy
open Go.RowKit

theorem run_load64 {a : Addr} {x : Int} {w : World} (hc : w.cell? a = some (.int .i64 x)) :
    (callFunc 15 #[.pointer (some a)]).run Yba.prog w = .ok (.value (.int .i64 x)) w :=
  run_call_load Yba.func15 (by kernel_rfl) (by kernel_rfl) (by kernel_rfl) .i64 (by kernel_rfl) hc

theorem run_store64 {a : Addr} {y : Int} {u : Value} {w : World} (hc : w.cell? a = some u) (hz : w.frozen? a = false) :
    (callFunc 16 #[.pointer (some a), .int .i64 y]).run Yba.prog w = .ok (.value (.tuple #[])) (w.setCell a (.int .i64 y)) :=
  run_call_store Yba.func16 (by kernel_rfl) (by kernel_rfl) (by kernel_rfl) (by kernel_rfl) hc hz

/-- (*atomic.Int64).Load -/
theorem load64 (b off : Nat) (x : Int) (w : World) (hc : w.cell? ⟨b, off, none⟩ = some (.int .i64 x)) :
    Calls Yba.prog 8 #[.pointer (some ⟨b, off, none⟩)] w fun e w' => e = .returned (.int .i64 x) ∧ w' = w := by
  have hl := run_load64 hc
  go_enter Yba.func8, Yba.ntmps8
  go_wp2
  go_ret
  exact ⟨rfl, rfl⟩

/-- (*atomic.Int64).Store -/
theorem store64 (b off : Nat) (y : Int) (u : Value) (w : World) (hc : w.cell? ⟨b, off, none⟩ = some u) (hz : w.frozen? ⟨b, off, none⟩ = false) :
    Calls Yba.prog 9 #[.pointer (some ⟨b, off, none⟩), .int .i64 y] w fun e w' => e = .returned (.tuple #[]) ∧ w' = w.setCell ⟨b, off, none⟩ (.int .i64 y) := by
  have hl := run_store64 (y := y) hc hz
  go_enter Yba.func9, Yba.ntmps9
  go_wp2
  go_end0
  exact ⟨rfl, rfl⟩
end Go.Proofs.Ybulkbsuy
