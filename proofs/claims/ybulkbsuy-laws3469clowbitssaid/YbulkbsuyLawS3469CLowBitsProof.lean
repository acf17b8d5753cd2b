/-
  A proof of 'Rows.LawS3469CLowBitsSaid': the frame is the seat's given shell (proof-skeleton), the walk is ours.
-/
import Derived.Test.YbulkbsuyRows
import Derived.Test.YbulkbsuyHand
import Derived.Test.YbulkbsuyBits
import Derived.Below
import Derived.WalkKit
import Derived.ProofKit
import Derived.OpenShut
import Derived.ShutString
namespace Go.Proofs.Ybulkbsuy.lawS3469CLowBits
open Go.ChangeShapes Go.WideShapes Go.ChangeAt Go.RowKit
open Go.ChangeMaps (open_string shut_string)
set_option linter.unusedVariables false      -- a walk need not use every 'w<i>' (that an integer argument fits its kind)

theorem own : ownKnob Yba.prog.godebug = none := by kernel_rfl

/-- What '&RWMutex{}' lays. -/
theorem rw_new (w : World) : RwAt (w.alloc (.cells #[.int .i64 0, .int .i32 0, .int .u32 0, .pointer none, .pointer none, .int .i32 0, .int .i32 0, .int .u32 0, .pointer none, .pointer none, .int .i32 0] 47)) w.heap.size 0 0 0 :=
  ⟨by simp, by simp, by simp, by simp, by simp, by simp, by simp, by simp⟩

theorem grown_drewN {w w' : World} (h : Grown w w') (n : Nat) : Grown w (w'.drewN n) := by
  induction n with
  | zero => exact h
  | succ n ih => exact Grown.drew ih

/-! ### STEP 1: THE WALK: the Go text returns true. 'Grown w w'': the world has at most new blocks (Derived/RowKit3.lean). Part the cases AHEAD of 'go_enter' where a test parts the walk; take each callee by a contract of your own. -/
set_option maxRecDepth 100000 in
set_option maxHeartbeats 800000 in
theorem walk (a0 : Int) (a1 : Int) (w0 : (Lit.int .u8 a0).wf = true) (w1 : (Lit.int .i64 a1).wf = true) (w : World) :
    Calls Yba.prog 6 #[.int .u8 a0, .int .i64 a1] w fun e w' => e = .returned (.bool true) ∧ Grown w w' := by
  have q0 := rw_new w
  have hk := bounds_u8 w0
  have ht := bounds_i64 w1
  by_cases hs : a0 % 8 = 2
  · go_enter Yba.func6, Yba.ntmps6
    go_wp2_with fail
    refine (store64 w.heap.size 0 a1 (.int .i64 0) _ q0.c0 q0.f0).mono ?_
    rintro e w1 ⟨rfl, hw⟩
    have q1 : RwAt w1 w.heap.size a1 0 0 := by rw [hw]; exact q0.set0 a1
    have g1 : Grown w w1 := by rw [hw]; exact ((Grown.refl _).alloc _ _).setCell (Nat.le_refl _) _
    clear hw
    go_wp2_with fail
    refine (pass_yes _ 2 a1 _ q1 (by decide) (by decide)).mono ?_
    rintro e w2 ⟨rfl, q2, k2⟩
    have g2 := k2 w (Nat.le_refl _) g1
    have e1 := clear6_and1 a1
    have e2 := clear6_div8 a1 ht.1 ht.2
    have e3 := clear6_and6 a1
    have e4 := clear6_or6 a1
    go_wp2_with fail
    refine (load64 _ 0 _ _ q2.c0).mono ?_
    rintro e w' ⟨rfl, rfl⟩
    go_wp2_with fail
    refine (locked0 _ _ 0 0 _ q2).mono ?_
    rintro e w' ⟨rfl, rfl⟩
    go_wp2_with fail
    refine (readers0 _ _ 0 0 (clear6_range a1) _ q2).mono ?_
    rintro e w' ⟨rfl, rfl⟩
    go_wp2_with fail
    refine (waiters0 _ _ 0 0 _ q2).mono ?_
    rintro e w3 ⟨rfl, n, rfl⟩
    go_wp2
    go_ret
    exact ⟨rfl, grown_drewN g2 n⟩
  by_cases ht6 : a0 % 8 = 6
  · go_enter Yba.func6, Yba.ntmps6
    go_wp2_with fail
    refine (store64 w.heap.size 0 a1 (.int .i64 0) _ q0.c0 q0.f0).mono ?_
    rintro e w1 ⟨rfl, hw⟩
    have q1 : RwAt w1 w.heap.size a1 0 0 := by rw [hw]; exact q0.set0 a1
    have g1 : Grown w w1 := by rw [hw]; exact ((Grown.refl _).alloc _ _).setCell (Nat.le_refl _) _
    clear hw
    go_wp2_with fail
    refine (pass_yes _ 6 a1 _ q1 (by decide) (by decide)).mono ?_
    rintro e w2 ⟨rfl, q2, k2⟩
    have g2 := k2 w (Nat.le_refl _) g1
    have e1 := clear6_and1 a1
    have e2 := clear6_div8 a1 ht.1 ht.2
    have e3 := clear6_and6 a1
    have e4 := clear6_or6 a1
    go_wp2_with fail
    refine (load64 _ 0 _ _ q2.c0).mono ?_
    rintro e w' ⟨rfl, rfl⟩
    go_wp2_with fail
    refine (locked0 _ _ 0 0 _ q2).mono ?_
    rintro e w' ⟨rfl, rfl⟩
    go_wp2_with fail
    refine (readers0 _ _ 0 0 (clear6_range a1) _ q2).mono ?_
    rintro e w' ⟨rfl, rfl⟩
    go_wp2_with fail
    refine (waiters0 _ _ 0 0 _ q2).mono ?_
    rintro e w3 ⟨rfl, n, rfl⟩
    go_wp2
    go_ret
    exact ⟨rfl, grown_drewN g2 n⟩
  · have p := hands_no (a0 % 8) hs ht6
    have HP : Hid (((a0 % 8 / 8 == 0) = true ∧ (bits .and .i64 (a0 % 8) 3 == 2) = false) ∨ (a0 % 8 / 8 == 0) = false) := p
    have b2 : (a0 % 8 == 2) = false := by simpa using hs
    have b6 : (a0 % 8 == 6) = false := by simpa using ht6
    clear p hs ht6
    go_enter Yba.func6, Yba.ntmps6
    go_wp2_with fail
    refine (store64 w.heap.size 0 a1 (.int .i64 0) _ q0.c0 q0.f0).mono ?_
    rintro e w1 ⟨rfl, hw⟩
    have q1 : RwAt w1 w.heap.size a1 0 0 := by rw [hw]; exact q0.set0 a1
    have g1 : Grown w w1 := by rw [hw]; exact ((Grown.refl _).alloc _ _).setCell (Nat.le_refl _) _
    clear hw
    go_wp2_with fail
    refine (pass_no _ (a0 % 8) _ HP.out).mono ?_
    rintro e w2 ⟨rfl, rfl⟩
    go_wp2_with fail
    refine (load64 _ 0 _ _ q1.c0).mono ?_
    rintro e w' ⟨rfl, rfl⟩
    go_wp2_with fail
    refine (locked0 _ _ 0 0 _ q1).mono ?_
    rintro e w' ⟨rfl, rfl⟩
    go_wp2_with fail
    refine (readers0 _ _ 0 0 ht _ q1).mono ?_
    rintro e w' ⟨rfl, rfl⟩
    go_wp2_with fail
    refine (waiters0 _ _ 0 0 _ q1).mono ?_
    rintro e w3 ⟨rfl, n, rfl⟩
    go_wp2
    go_ret
    exact ⟨rfl, grown_drewN g1 n⟩

/-! ### THE ROW's STEP: WRITTEN OUT: LEAVE IT -/
set_option maxRecDepth 100000 in
theorem lifted (os : Os) (started : os.Started) (H : Type) (enc : TypeId × Value → H) :
    ReturnsInHanded {} Yba.checked os 6 .any (Rows.lawS3469CLowBitsSpec.pre6 enc Yba.prog Yba.f6 Rows.lawS3469CLowBitsRow.domain false) (Rows.lawS3469CLowBitsSpec.post enc Yba.prog Yba.f6 false true false false) := by
  refine returnsInHanded_of_change (C := Yba.checked) own started (by kernel_rfl) Yba.func6
    (ChangeSpec.witness6 (enc := enc) (C := Yba.checked) false ⟨#[], #[.int .u8 0, .int .i64 0], []⟩ 8 (by kernel_rfl) (by kernel_rfl) (by kernel_rfl) (by kernel_rfl)) ?_
  intro W base args ds gs before hval0 hW hcnd _
  have hval : ∀ (j : Nat) t v, Yba.f6.params[j]? = some t → args[j]? = some v → Value.okWide Yba.prog W .any base t v := hval0
  have hW' := hW
  obtain ⟨p, q, hA0, hV, rfl, hfz, hnd⟩ := hW
  have hA : DataW.TrodAll enc Yba.prog W 0 (fun _ => true) true Yba.f6.params.toList args.toList ds p := hA0
  rw [Yba.params6] at hA hval
  obtain ⟨v0, vs0, d0, ds0, p0, q0, hargs, rfl, rfl, h0, r0⟩ := trodAll_cons hA
  obtain ⟨v1, vs1, d1, ds1, p1, q1, rfl, rfl, rfl, h1, r1⟩ := trodAll_cons r0
  obtain ⟨rfl, rfl, rfl⟩ := trodAll_nil r1
  obtain rfl : args = #[v0, v1] := by cases args; simp_all
  obtain ⟨rfl, rfl⟩ := trodVars_none hV
  obtain ⟨a0, rfl, rfl, rfl, w0⟩ := open_int Yba.underlying5 (hval 0 5 v0 rfl rfl) h0
  obtain ⟨a1, rfl, rfl, rfl, w1⟩ := open_int Yba.underlying2 (hval 1 2 v1 rfl rfl) h1
  clear hA0 hval0
  simp only [List.append_nil] at hW'
  refine (walk a0 a1 w0 w1 W).mono fun e W' ⟨he, hg⟩ => ?_
  subst he
  exact ⟨_, rfl, post_of_same (pa := []) (pv := []) hW' (fun _ _ _ => (trodAll_cons_mk (shut_bool Yba.underlying4 _) trodAll_mk0)) (fun sp _ => (trodAll_cons_mk (shut_int Yba.underlying5 w0) (trodAll_cons_mk (shut_int Yba.underlying2 w1) trodAll_mk0))) (fun _ _ => rfl) rfl
    (hg.frame _) hg.2.1 (ok_one (by kernel_rfl) rfl (okWide_bool_mk Yba.underlying4 _))⟩

theorem over : Rows.lawS3469CLowBitsRow.holds Yba.pinned (OpenSpec.ofChange Rows.lawS3469CLowBitsSpec) :=
  OpenClaim.holds_of_wide 6 Yba.f6 rfl rfl rfl rfl rfl rfl rfl ⟨rfl, rfl, rfl, rfl, rfl⟩ rfl rfl rfl rfl rfl (by kernel_rfl) Yba.func6 (by kernel_rfl)
    (of_decide_eq_true (by kernel_rfl)) (by unfold Func.isWrapper; first | (rw [if_pos (by decide +kernel)]; kernel_rfl) | (rw [if_neg (by decide +kernel)]; exact ⟨rfl, rfl⟩))
    (fun os started H enc _ => lifted os started H enc)

/-- ████ THE STATEMENT ████ -/
theorem proved : Rows.LawS3469CLowBitsSaid :=
  over
end Go.Proofs.Ybulkbsuy.lawS3469CLowBits

namespace Go.Proofs.Ybulkbsuy
/-- The given statement, under a plain name. -/
theorem lawS3469CLowBits_proved : Rows.LawS3469CLowBitsSaid := lawS3469CLowBits.proved
end Go.Proofs.Ybulkbsuy
