/-
  deltarc.abs BY CONTRACT.
-/
import Derived.Test.YbulkbswoProg
import Derived.WalkKit
import Derived.KernelRfl
import Derived.Laws.Bits64
namespace Go.Proofs.Ybulkbswo
open Go.RowKit

theorem ret_int {k : IntKind} {a b : Int} (h : a = b) : Ending.returned (.int k a) = .returned (.int k b) := by rw [h]

theorem neg_u64 (x : Int) (h : x < 0) (h2 : -9223372036854775808 ≤ x) : IntKind.u64.wrap (-IntKind.u64.wrap x) = -x := by
  rw [IntKind.wrap_u64, IntKind.wrap_u64]
  omega

theorem abs_pos (x : Int) (h : 0 ≤ x) (_h2 : x ≤ 9223372036854775807) (w : World) :
    Calls Yba.prog 9 #[.int .i64 x] w fun e w' => e = .returned (.int .u64 x) ∧ w' = w := by
  go_enter Yba.func9, Yba.ntmps9
  go_wp2
  go_ret
  exact ⟨rfl, rfl⟩

theorem abs_neg (x : Int) (h : x < 0) (h2 : -9223372036854775808 ≤ x) (w : World) :
    Calls Yba.prog 9 #[.int .i64 x] w fun e w' => e = .returned (.int .u64 (-x)) ∧ w' = w := by
  go_enter Yba.func9, Yba.ntmps9
  go_wp2
  go_ret
  exact ⟨ret_int (neg_u64 x h h2), rfl⟩
end Go.Proofs.Ybulkbswo
