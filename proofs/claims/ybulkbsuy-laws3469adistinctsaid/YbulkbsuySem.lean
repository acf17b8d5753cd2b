/-
  NewSemaphore BY CONTRACT (a size that is not negative).
-/
import Derived.Test.YbulkbsuyAtom
namespace Go.Proofs.Ybulkbsuy
open Go.RowKit

/-! What NewSemaphore lays: avail, size, the queue's lock (two cells), head, tail, the count. -/
set_option maxHeartbeats 400000 in
theorem newSem (n : Int) (hn : 0 ≤ n) (w : World) :
    Calls Yba.prog 7 #[.int .i64 n] w fun e w' => e = .returned (.pointer (some ⟨w.heap.size, 0, none⟩)) ∧ w' = w.alloc (.cells #[.int .i64 n, .int .i64 n, .int .i32 0, .int .u32 0, .pointer none, .pointer none, .int .i32 0] 42) := by
  go_enter Yba.func7, Yba.ntmps7
  go_wp2_with fail
  refine (store64 w.heap.size 0 n (.int .i64 0) _ ?_ ?_).mono ?_
  · simp
  · simp
  rintro e w' ⟨rfl, rfl⟩
  go_wp2
  go_ret
  refine ⟨rfl, ?_⟩
  simp
end Go.Proofs.Ybulkbsuy
