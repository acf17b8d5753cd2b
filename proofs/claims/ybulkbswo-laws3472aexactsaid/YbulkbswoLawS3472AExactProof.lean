/-
  A proof of 'Rows.LawS3472AExactSaid': the frame is the seat's given shell (proof-skeleton), the walk is ours.
-/
import Derived.Test.YbulkbswoRows
import Derived.Test.YbulkbswoAbs
import Derived.WalkKit
import Derived.ProofKit
import Derived.OpenShut
import Derived.ShutString
namespace Go.Proofs.Ybulkbswo.lawS3472AExact
open Go.ChangeShapes Go.WideShapes Go.ChangeAt Go.RowKit
open Go.ChangeMaps (open_string shut_string)
set_option linter.unusedVariables false      -- a walk need not use every 'w<i>' (that an integer argument fits its kind)

theorem own : ownKnob Yba.prog.godebug = none := by kernel_rfl

/-! ### STEP 1: THE WALK: the Go text returns true. 'Grown w w'': the world has at most new blocks (Derived/RowKit3.lean). Part the cases AHEAD of 'go_enter' where a test parts the walk; take each callee by a contract of your own. -/
theorem walk (a0 : Int) (w0 : (Lit.int .i64 a0).wf = true) (w : World) :
    Calls Yba.prog 3 #[.int .i64 a0] w fun e w' => e = .returned (.bool true) ∧ Grown w w' := by
  have hb := bounds_i64 w0
  by_cases hp : 0 ≤ a0
  · go_enter Yba.func3, Yba.ntmps3
    go_wp2_with fail
    refine (abs_pos a0 hp hb.2 _).mono ?_
    rintro e w' ⟨rfl, rfl⟩
    go_wp2
    go_ret
    exact ⟨rfl, Grown.refl _⟩
  by_cases hm : a0 = -9223372036854775808
  · subst hm
    go_enter Yba.func3, Yba.ntmps3
    go_wp2_with fail
    refine (abs_neg _ (by omega) (by omega) _).mono ?_
    rintro e w' ⟨rfl, rfl⟩
    go_wp2
    go_ret
    exact ⟨rfl, Grown.refl _⟩
  · have hn : a0 < 0 := by omega
    have hl : -9223372036854775808 < a0 := by omega
    have hm2 : (a0 == -9223372036854775808) = false := by simpa using hm
    clear hm hp
    go_enter Yba.func3, Yba.ntmps3
    go_wp2_with fail
    refine (abs_neg a0 hn hb.1 _).mono ?_
    rintro e w' ⟨rfl, rfl⟩
    go_wp2
    go_ret
    exact ⟨rfl, Grown.refl _⟩

/-! ### THE ROW's STEP: WRITTEN OUT: LEAVE IT -/
set_option maxRecDepth 100000 in
theorem lifted (os : Os) (started : os.Started) (H : Type) (enc : TypeId × Value → H) :
    ReturnsInHanded {} Yba.checked os 3 .any (Rows.lawS3472AExactSpec.pre6 enc Yba.prog Yba.f3 Rows.lawS3472AExactRow.domain false) (Rows.lawS3472AExactSpec.post enc Yba.prog Yba.f3 false true false false) := by
  refine returnsInHanded_of_change (C := Yba.checked) own started (by kernel_rfl) Yba.func3
    (ChangeSpec.witness6 (enc := enc) (C := Yba.checked) false ⟨#[], #[.int .i64 0], []⟩ 8 (by kernel_rfl) (by kernel_rfl) (by kernel_rfl) (by kernel_rfl)) ?_
  intro W base args ds gs before hval0 hW hcnd _
  have hval : ∀ (j : Nat) t v, Yba.f3.params[j]? = some t → args[j]? = some v → Value.okWide Yba.prog W .any base t v := hval0
  have hW' := hW
  obtain ⟨p, q, hA0, hV, rfl, hfz, hnd⟩ := hW
  have hA : DataW.TrodAll enc Yba.prog W 0 (fun _ => true) true Yba.f3.params.toList args.toList ds p := hA0
  rw [Yba.params3] at hA hval
  obtain ⟨v0, vs0, d0, ds0, p0, q0, hargs, rfl, rfl, h0, r0⟩ := trodAll_cons hA
  obtain ⟨rfl, rfl, rfl⟩ := trodAll_nil r0
  obtain rfl : args = #[v0] := by cases args; simp_all
  obtain ⟨rfl, rfl⟩ := trodVars_none hV
  obtain ⟨a0, rfl, rfl, rfl, w0⟩ := open_int Yba.underlying2 (hval 0 2 v0 rfl rfl) h0
  clear hA0 hval0
  simp only [List.append_nil] at hW'
  refine (walk a0 w0 W).mono fun e W' ⟨he, hg⟩ => ?_
  subst he
  exact ⟨_, rfl, post_of_same (pa := []) (pv := []) hW' (fun _ _ _ => (trodAll_cons_mk (shut_bool Yba.underlying4 _) trodAll_mk0)) (fun sp _ => (trodAll_cons_mk (shut_int Yba.underlying2 w0) trodAll_mk0)) (fun _ _ => rfl) rfl
    (hg.frame _) hg.2.1 (ok_one (by kernel_rfl) rfl (okWide_bool_mk Yba.underlying4 _))⟩

theorem over : Rows.lawS3472AExactRow.holds Yba.pinned (OpenSpec.ofChange Rows.lawS3472AExactSpec) :=
  OpenClaim.holds_of_wide 3 Yba.f3 rfl rfl rfl rfl rfl rfl rfl ⟨rfl, rfl, rfl, rfl, rfl⟩ rfl rfl rfl rfl rfl (by kernel_rfl) Yba.func3 (by kernel_rfl)
    (of_decide_eq_true (by kernel_rfl)) (by unfold Func.isWrapper; first | (rw [if_pos (by decide +kernel)]; kernel_rfl) | (rw [if_neg (by decide +kernel)]; exact ⟨rfl, rfl⟩))
    (fun os started H enc _ => lifted os started H enc)

/-- ████ THE STATEMENT ████ -/
theorem proved : Rows.LawS3472AExactSaid :=
  over
end Go.Proofs.Ybulkbswo.lawS3472AExact

namespace Go.Proofs.Ybulkbswo
/-- The given statement, under a plain name. -/
theorem lawS3472AExact_proved : Rows.LawS3472AExactSaid := lawS3472AExact.proved
end Go.Proofs.Ybulkbswo
