/-
  RWMutex's handOn(false), Waiters BY CONTRACT: one goroutine, both queues empty.
-/
import Derived.Test.YbulkbsuyRw
namespace Go.Proofs.Ybulkbsuy
open Go.RowKit

theorem waiters0 (b : Nat) (t l1 l2 : Int) (w : World) (h : RwAt w b t l1 l2) :
    Calls Yba.prog 12 #[.pointer (some ⟨b, 0, none⟩)] w fun e w' => e = .returned (.int .i64 0) ∧ ∃ n, w' = w.drewN n := by
  have c5 := h.c5
  have c10 := h.c10
  go_enter Yba.func12, Yba.ntmps12
  go_wp2
  go_quiet (first | (go_at_call 20; refine Calls.quiet_of_same (qlen0 _ _ _ ?_); first | (simpa using c5) | (simpa using c10)))
  go_wp2
  go_ret
  exact ⟨rfl, _, rfl⟩

set_option maxRecDepth 100000 in
set_option maxHeartbeats 800000 in
theorem handOn0 (b : Nat) (t l1 l2 : Int) (w : World) (h : RwAt w b t l1 l2) :
    Calls Yba.prog 18 #[.pointer (some ⟨b, 0, none⟩), .bool false] w fun e w' => e = .returned (.tuple #[]) ∧ ∃ n, w' = (w.drewN n).setCell ⟨b, 0, none⟩ (.int .i64 (bits .andNot .i64 t 6)) := by
  have c0 := h.c0
  have c5 := h.c5
  have c10 := h.c10
  have f0 := h.f0
  go_enter Yba.func18, Yba.ntmps18
  go_wp2
  go_quiet (first | (go_at_call 20; refine Calls.quiet_of_same (qlen0 _ _ _ ?_); first | (simpa using c5) | (simpa using c10)))
  go_wp2
  refine wp_loop_rounds 1 ?_
  rw [rounds_succ]
  go_wp2_with fail
  refine (load64 b 0 t _ (by simpa using c0)).mono ?_
  rintro e w' ⟨rfl, rfl⟩
  have hcase : (bits .and .i64 (bits .andNot .i64 t 6) 1 != 0) = true ∨ (bits .and .i64 (bits .andNot .i64 t 6) 1 != 0) = false := by
    cases (bits .and .i64 (bits .andNot .i64 t 6) 1 != 0) <;> simp
  rcases hcase with hb | hb
  all_goals
    go_wp2_with fail
    refine (cas64 b 0 t _ _ (by simpa using c0) (by simpa using f0)).mono ?_
    rintro e w' ⟨rfl, rfl⟩
    go_wp2
    refine wp_loop_rounds 1 ?_
    rw [rounds_succ]
    go_wp2
    first | go_end0 | refine bodyPost_ret (results_none rfl _ _ _) rfl ?_
    exact ⟨rfl, _, rfl⟩

set_option maxRecDepth 100000 in
/-- passToWriter where its test says yes. -/
theorem pass_yes (b : Nat) (s t : Int) (w : World) (h : RwAt w b t 0 0) (h1 : (s / 8 == 0) = true) (h2 : (bits .and .i64 s 3 == 2) = true) :
    Calls Yba.prog 10 #[.pointer (some ⟨b, 0, none⟩), .int .i64 s] w fun e w' => e = .returned (.tuple #[]) ∧ RwAt w' b (bits .andNot .i64 t 6) 0 0 ∧ Keeps b w w' := by
  go_enter Yba.func10, Yba.ntmps10
  go_wp2_with fail
  refine (lockQueues b t _ h).mono ?_
  rintro e w1 ⟨rfl, q1, k1⟩
  go_wp2_with fail
  refine (handOn0 b t 1 1 _ q1).mono ?_
  rintro e w2 ⟨rfl, n, rfl⟩
  go_wp2_with fail
  refine (unlockQueues b (bits .andNot .i64 t 6) _ ((q1.drewN n).set0 _)).mono ?_
  rintro e w3 ⟨rfl, q3, k3⟩
  go_wp2
  go_end0
  exact ⟨rfl, q3, k1.trans ((((Keeps.refl _ _).drewN n).set _ _).trans k3)⟩

set_option maxRecDepth 100000 in
/-- passToWriter where its test says no. -/
theorem pass_no (b : Nat) (s : Int) (w : World) (h1 : ((s / 8 == 0) = true ∧ (bits .and .i64 s 3 == 2) = false) ∨ (s / 8 == 0) = false) :
    Calls Yba.prog 10 #[.pointer (some ⟨b, 0, none⟩), .int .i64 s] w fun e w' => e = .returned (.tuple #[]) ∧ w' = w := by
  rcases h1 with ⟨h1, h2⟩ | h1
  all_goals
    go_enter Yba.func10, Yba.ntmps10
    go_wp2
    go_end0
    exact ⟨rfl, rfl⟩

/-- Locked: the state's lowest bit. -/
theorem locked0 (b : Nat) (t l1 l2 : Int) (w : World) (h : RwAt w b t l1 l2) :
    Calls Yba.prog 13 #[.pointer (some ⟨b, 0, none⟩)] w fun e w' => e = .returned (.bool (bits .and .i64 t 1 != 0)) ∧ w' = w := by
  go_enter Yba.func13, Yba.ntmps13
  go_wp2_with fail
  refine (load64 b 0 t _ h.c0).mono ?_
  rintro e w' ⟨rfl, rfl⟩
  go_wp2
  go_ret
  exact ⟨rfl, rfl⟩

/-- Readers: the state from its fourth bit on. -/
theorem readers0 (b : Nat) (t l1 l2 : Int) (_ht : -9223372036854775808 ≤ t ∧ t ≤ 9223372036854775807) (w : World) (h : RwAt w b t l1 l2) :
    Calls Yba.prog 14 #[.pointer (some ⟨b, 0, none⟩)] w fun e w' => e = .returned (.int .i64 (t / 8)) ∧ w' = w := by
  go_enter Yba.func14, Yba.ntmps14
  go_wp2_with fail
  refine (load64 b 0 t _ h.c0).mono ?_
  rintro e w' ⟨rfl, rfl⟩
  go_wp2
  go_ret
  exact ⟨rfl, rfl⟩

/-- The law's model. -/
theorem model_yes (s t : Int) (w : World) (hs : s = 2 ∨ s = 6) :
    Calls Yba.prog 11 #[.int .i64 s, .int .i64 t] w fun e w' => e = .returned (.int .i64 (bits .andNot .i64 t 6)) ∧ w' = w := by
  rcases hs with rfl | rfl
  all_goals
    go_enter Yba.func11, Yba.ntmps11
    go_wp2
    go_ret
    exact ⟨rfl, rfl⟩
theorem model_no (s t : Int) (w : World) (h2 : (s == 2) = false) (h6 : (s == 6) = false) :
    Calls Yba.prog 11 #[.int .i64 s, .int .i64 t] w fun e w' => e = .returned (.int .i64 t) ∧ w' = w := by
  go_enter Yba.func11, Yba.ntmps11
  go_wp2
  go_ret
  exact ⟨rfl, rfl⟩
end Go.Proofs.Ybulkbsuy
