/-
  waitq.Queue's Lock, Unlock, Len BY CONTRACT (one goroutine; the lock free, or held and nobody waiting), and (*atomic.Int64).CompareAndSwap where it hits.
-/
import Derived.Test.YbulkbsuyAtom
import Derived.Test.YbulkbsuyLocks
import Derived.Conc.MuLone
namespace Go.Proofs.Ybulkbsuy
open Go.RowKit Go.MuLone

theorem run_load32 {a : Addr} {x : Int} {w : World} (hc : w.cell? a = some (.int .i32 x)) :
    (callFunc 30 #[.pointer (some a)]).run Yba.prog w = .ok (.value (.int .i32 x)) w :=
  run_call_load Yba.func30 (by kernel_rfl) (by kernel_rfl) (by kernel_rfl) .i32 (by kernel_rfl) hc

theorem run_cas64 {a : Addr} {x y : Int} {w : World} (hc : w.cell? a = some (.int .i64 x)) (hz : w.frozen? a = false) :
    (callFunc 27 #[.pointer (some a), .int .i64 x, .int .i64 y]).run Yba.prog w = .ok (.value (.bool true)) (w.setCell a (.int .i64 y)) :=
  run_call_cas_hit Yba.func27 (by kernel_rfl) (by kernel_rfl) (by kernel_rfl) .i64 (by kernel_rfl) hc hz

/-- (*atomic.Int64).CompareAndSwap, where the cell holds 'old'. -/
theorem cas64 (b off : Nat) (x y : Int) (w : World) (hc : w.cell? ⟨b, off, none⟩ = some (.int .i64 x)) (hz : w.frozen? ⟨b, off, none⟩ = false) :
    Calls Yba.prog 22 #[.pointer (some ⟨b, off, none⟩), .int .i64 x, .int .i64 y] w fun e w' => e = .returned (.bool true) ∧ w' = w.setCell ⟨b, off, none⟩ (.int .i64 y) := by
  have hl := run_cas64 (y := y) hc hz
  go_enter Yba.func22, Yba.ntmps22
  go_wp2
  go_ret
  exact ⟨rfl, rfl⟩

/-- (*atomic.Int32).Load -/
theorem load32 (b off : Nat) (x : Int) (w : World) (hc : w.cell? ⟨b, off, none⟩ = some (.int .i32 x)) :
    Calls Yba.prog 25 #[.pointer (some ⟨b, off, none⟩)] w fun e w' => e = .returned (.int .i32 x) ∧ w' = w := by
  have hl := run_load32 hc
  go_enter Yba.func25, Yba.ntmps25
  go_wp2
  go_ret
  exact ⟨rfl, rfl⟩

/-- (*Queue).Len of a queue with nobody in it. -/
theorem qlen0 (b off : Nat) (w : World) (hc : w.cell? ⟨b, off + 4, none⟩ = some (.int .i32 0)) :
    Calls Yba.prog 20 #[.pointer (some ⟨b, off, none⟩)] w fun e w' => e = .returned (.int .i64 0) ∧ w' = w := by
  go_enter Yba.func20, Yba.ntmps20
  go_wp2_with fail
  refine (load32 b (off + 4) 0 _ hc).mono ?_
  rintro e w' ⟨rfl, rfl⟩
  go_wp2
  go_ret
  exact ⟨rfl, rfl⟩

/-- (*Queue).Lock, the lock free. -/
theorem qlock (b off : Nat) (w : World) (hc : w.cell? ⟨b, off, none⟩ = some (.int .i32 0)) (hz : w.frozen? ⟨b, off, none⟩ = false) :
    Calls Yba.prog 21 #[.pointer (some ⟨b, off, none⟩)] w fun e w' => e = .returned (.tuple #[]) ∧ w' = w.setCell ⟨b, off, none⟩ (.int .i32 1) := by
  go_enter Yba.func21, Yba.ntmps21
  go_wp2_with fail
  refine (lock_free Yba.muLib ⟨b, off, none⟩ _ hc hz).mono ?_
  rintro e w' ⟨rfl, rfl⟩
  go_wp2
  go_end0
  exact ⟨rfl, rfl⟩

/-- (*Queue).Unlock, the lock held and nobody waiting for it. -/
theorem qunlock (b off : Nat) (w : World) (hc : w.cell? ⟨b, off, none⟩ = some (.int .i32 1)) (hz : w.frozen? ⟨b, off, none⟩ = false) :
    Calls Yba.prog 24 #[.pointer (some ⟨b, off, none⟩)] w fun e w' => e = .returned (.tuple #[]) ∧ w' = w.setCell ⟨b, off, none⟩ (.int .i32 0) := by
  go_enter Yba.func24, Yba.ntmps24
  go_wp2_with fail
  refine (unlock_held Yba.muLib ⟨b, off, none⟩ _ hc hz).mono ?_
  rintro e w' ⟨rfl, rfl⟩
  go_wp2
  go_end0
  exact ⟨rfl, rfl⟩
end Go.Proofs.Ybulkbsuy
