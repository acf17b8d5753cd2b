/-
  A proof of 'Rows.LawS3469ADistinctSaid': the frame is the seat's given shell (proof-skeleton), the walk is ours.
-/
import Derived.Test.YbulkbsuyRows
import Derived.Test.YbulkbsuySem
import Derived.Test.YbulkbsuyBits
import Derived.LaidEqlPtr
import Derived.WalkKit
import Derived.ProofKit
import Derived.OpenShut
import Derived.ShutString
namespace Go.Proofs.Ybulkbsuy.lawS3469ADistinct
open Go.ChangeShapes Go.WideShapes Go.ChangeAt Go.RowKit
open Go.ChangeMaps (open_string shut_string)
set_option linter.unusedVariables false      -- a walk need not use every 'w<i>' (that an integer argument fits its kind)

theorem own : ownKnob Yba.prog.godebug = none := by kernel_rfl

theorem eql_two (c1 c2 : Array Value) (w : World) :
    (binOp .eql 22 (.pointer (some ⟨w.heap.size, 0, none⟩)) (.pointer (some ⟨w.heap.size + 1, 0, none⟩))).run Yba.prog ((w.alloc (.cells c1 42)).alloc (.cells c2 42)) =
      .ok (.bool false) ((w.alloc (.cells c1 42)).alloc (.cells c2 42)) := by
  have hc : Yba.prog.cellsOf 42 = 7 := by kernel_rfl
  unfold Program.cellsOf at hc
  cases hj : Yba.prog.info? 42 with
  | none => rw [hj] at hc; simp at hc
  | some j =>
    rw [hj] at hc
    have hs : j.size = 7 := by simpa using hc
    have h2 := (MapKept.heap_alloc (w.alloc (.cells c1 42)) (.cells c2 42)).1
    have e : (w.alloc (.cells c1 42)).heap.size = w.heap.size + 1 := by simp
    rw [e] at h2
    have h1 := (MapKept.heap_alloc (w.alloc (.cells c1 42)) (.cells c2 42)).2 w.heap.size (by omega)
    rw [(MapKept.heap_alloc w (.cells c1 42)).1] at h1
    exact run_eql_ptr_other (ca := c1) (cb := c2) (ta := 42) (tb := 42) _ Yba.underlying22 hj (by omega) (by simp) h1 h2

/-! ### STEP 1: THE WALK: the Go text returns true. 'Grown w w'': the world has at most new blocks (Derived/RowKit3.lean). Part the cases AHEAD of 'go_enter' where a test parts the walk; take each callee by a contract of your own. -/
set_option maxRecDepth 100000 in
theorem walk (a0 : Int) (w0 : (Lit.int .i64 a0).wf = true) (w : World) :
    Calls Yba.prog 4 #[.int .i64 a0] w fun e w' => e = .returned (.bool true) ∧ Grown w w' := by
  rcases Int.lt_or_le a0 0 with hneg | hpos
  · have hb := bounds_i64 w0
    have hm : 0 ≤ bits .xor .i64 (-1) a0 := by rw [not_i64 a0 hb.1 hb.2]; omega
    clear hb
    have heq := eql_two #[.int .i64 (bits .xor .i64 (-1) a0), .int .i64 (bits .xor .i64 (-1) a0), .int .i32 0, .int .u32 0, .pointer none, .pointer none, .int .i32 0] #[.int .i64 (bits .xor .i64 (-1) a0), .int .i64 (bits .xor .i64 (-1) a0), .int .i32 0, .int .u32 0, .pointer none, .pointer none, .int .i32 0] w
    go_enter Yba.func4, Yba.ntmps4
    go_wp2_with fail
    refine (newSem _ hm _).mono ?_
    rintro e w' ⟨rfl, rfl⟩
    go_wp2_with fail
    refine (newSem _ hm _).mono ?_
    rintro e w' ⟨rfl, rfl⟩
    go_wp2_with fail
    refine (load64 w.heap.size 0 (bits .xor .i64 (-1) a0) _ ?_).mono ?_
    · simp
    rintro e w' ⟨rfl, rfl⟩
    go_wp2_with fail
    refine (load64 (w.heap.size + 1) 0 (bits .xor .i64 (-1) a0) _ ?_).mono ?_
    · simp
    rintro e w' ⟨rfl, rfl⟩
    go_wp2
    go_ret
    exact ⟨rfl, by repeat (first | exact Grown.refl _ | apply Grown.drew | apply Grown.alloc)⟩
  · have hm : 0 ≤ a0 := hpos
    have heq := eql_two #[.int .i64 a0, .int .i64 a0, .int .i32 0, .int .u32 0, .pointer none, .pointer none, .int .i32 0] #[.int .i64 a0, .int .i64 a0, .int .i32 0, .int .u32 0, .pointer none, .pointer none, .int .i32 0] w
    go_enter Yba.func4, Yba.ntmps4
    go_wp2_with fail
    refine (newSem _ hm _).mono ?_
    rintro e w' ⟨rfl, rfl⟩
    go_wp2_with fail
    refine (newSem _ hm _).mono ?_
    rintro e w' ⟨rfl, rfl⟩
    go_wp2_with fail
    refine (load64 w.heap.size 0 a0 _ ?_).mono ?_
    · simp
    rintro e w' ⟨rfl, rfl⟩
    go_wp2_with fail
    refine (load64 (w.heap.size + 1) 0 a0 _ ?_).mono ?_
    · simp
    rintro e w' ⟨rfl, rfl⟩
    go_wp2
    go_ret
    exact ⟨rfl, by repeat (first | exact Grown.refl _ | apply Grown.drew | apply Grown.alloc)⟩

/-! ### THE ROW's STEP: WRITTEN OUT: LEAVE IT -/
set_option maxRecDepth 100000 in
theorem lifted (os : Os) (started : os.Started) (H : Type) (enc : TypeId × Value → H) :
    ReturnsInHanded {} Yba.checked os 4 .any (Rows.lawS3469ADistinctSpec.pre6 enc Yba.prog Yba.f4 Rows.lawS3469ADistinctRow.domain false) (Rows.lawS3469ADistinctSpec.post enc Yba.prog Yba.f4 false true false false) := by
  refine returnsInHanded_of_change (C := Yba.checked) own started (by kernel_rfl) Yba.func4
    (ChangeSpec.witness6 (enc := enc) (C := Yba.checked) false ⟨#[], #[.int .i64 0], []⟩ 8 (by kernel_rfl) (by kernel_rfl) (by kernel_rfl) (by kernel_rfl)) ?_
  intro W base args ds gs before hval0 hW hcnd _
  have hval : ∀ (j : Nat) t v, Yba.f4.params[j]? = some t → args[j]? = some v → Value.okWide Yba.prog W .any base t v := hval0
  have hW' := hW
  obtain ⟨p, q, hA0, hV, rfl, hfz, hnd⟩ := hW
  have hA : DataW.TrodAll enc Yba.prog W 0 (fun _ => true) true Yba.f4.params.toList args.toList ds p := hA0
  rw [Yba.params4] at hA hval
  obtain ⟨v0, vs0, d0, ds0, p0, q0, hargs, rfl, rfl, h0, r0⟩ := trodAll_cons hA
  obtain ⟨rfl, rfl, rfl⟩ := trodAll_nil r0
  obtain rfl : args = #[v0] := by cases args; simp_all
  obtain ⟨rfl, rfl⟩ := trodVars_none hV
  obtain ⟨a0, rfl, rfl, rfl, w0⟩ := open_int Yba.underlying2 (hval 0 2 v0 rfl rfl) h0
  clear hA0 hval0
  simp only [List.append_nil] at hW'
  refine (walk a0 w0 W).mono fun e W' ⟨he, hg⟩ => ?_
  subst he
  exact ⟨_, rfl, post_of_same (pa := []) (pv := []) hW' (fun _ _ _ => (trodAll_cons_mk (shut_bool Yba.underlying4 _) trodAll_mk0)) (fun sp _ => (trodAll_cons_mk (shut_int Yba.underlying2 w0) trodAll_mk0)) (fun _ _ => rfl) rfl
    (hg.frame _) hg.2.1 (ok_one (by kernel_rfl) rfl (okWide_bool_mk Yba.underlying4 _))⟩

theorem over : Rows.lawS3469ADistinctRow.holds Yba.pinned (OpenSpec.ofChange Rows.lawS3469ADistinctSpec) :=
  OpenClaim.holds_of_wide 4 Yba.f4 rfl rfl rfl rfl rfl rfl rfl ⟨rfl, rfl, rfl, rfl, rfl⟩ rfl rfl rfl rfl rfl (by kernel_rfl) Yba.func4 (by kernel_rfl)
    (of_decide_eq_true (by kernel_rfl)) (by unfold Func.isWrapper; first | (rw [if_pos (by decide +kernel)]; kernel_rfl) | (rw [if_neg (by decide +kernel)]; exact ⟨rfl, rfl⟩))
    (fun os started H enc _ => lifted os started H enc)

/-- ████ THE STATEMENT ████ -/
theorem proved : Rows.LawS3469ADistinctSaid :=
  over
end Go.Proofs.Ybulkbsuy.lawS3469ADistinct

namespace Go.Proofs.Ybulkbsuy
/-- The given statement, under a plain name. -/
theorem lawS3469ADistinct_proved : Rows.LawS3469ADistinctSaid := lawS3469ADistinct.proved
end Go.Proofs.Ybulkbsuy
