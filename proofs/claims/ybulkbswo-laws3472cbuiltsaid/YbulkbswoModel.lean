/-
  THE WALK OF LawS3472CModel over a row of 1 to 1024 cells.
-/
import Derived.Test.YbulkbswoRun
import Derived.OwnWalk
import Derived.Laws.CopyOwn
import Derived.WalkSmall
namespace Go.Proofs.Ybulkbswo
open Go.RowKit

theorem Yba.info22 : (Yba.prog.info? 22).map (fun i => (i.zero, i.size, i.bytes)) = some (some (.int .u64 0), 1, 8) := by kernel_rfl
theorem Yba.size22 : (Yba.prog.info? 22).map (·.size) = some 1 := by kernel_rfl

/-- The row's cells as values. -/
def vals (z : Nat → Int) (len : Nat) : List Value := (List.range len).map fun i => .int .u64 (z i)
theorem vals_length (z : Nat → Int) (len : Nat) : (vals z len).length = len := by simp [vals]
theorem vals_get (z : Nat → Int) (len j : Nat) (v : Value) (h : (vals z len)[j]? = some v) : j < len ∧ v = .int .u64 (z j) := by
  have hj := (List.getElem?_eq_some_iff.1 h).1
  rw [vals_length] at hj
  refine ⟨hj, ?_⟩
  simp [vals, hj] at h
  exact h.symm
theorem vals_one (z : Nat → Int) (len : Nat) : ∀ v ∈ vals z len, v.oneCell' = true := by
  intro v hv
  obtain ⟨_, _, rfl⟩ := List.mem_map.1 hv
  rfl

/-- The cells of a row that holds 'vals z len' first. -/
theorem cells_of {w : World} {g : Nat} {cur : Array Value} {t : TypeId} {m : Nat × Nat} {z : Nat → Int} {len : Nat} (h : w.heap[g]? = some (.cells cur t m)) (hp : cur.toList.take len = vals z len) :
    ∀ i, i < len → w.cell? ⟨g, 0 + i, none⟩ = some (.int .u64 (z i)) := by
  intro i hi
  have e : cur.toList[i]? = some (.int .u64 (z i)) := by
    have e1 : (cur.toList.take len)[i]? = cur.toList[i]? := by rw [List.getElem?_take]; simp [hi]
    rw [← e1, hp]
    simp [vals, hi]
  have e' : cur[i]? = some (.int .u64 (z i)) := by simpa using e
  simp [World.cell?, h, e']

/-- What make and copy leave: a row of the call's own that holds the same numbers; of what was there nothing has turned. -/
theorem copy_made (b off len cap : Nat) (z : Nat → Int) (w w1 : World) (xs : List Value) (hb : b < w.heap.size) (hc : ∀ i, i < len → w.cell? ⟨b, off + i, none⟩ = some (.int .u64 (z i)))
    (hown : w1.ownsRow w.heap.size 22 1 (.slice (some ⟨w.heap.size, 0, none⟩) len len) len xs) (hgrow : w.grownBy w1 none) :
    ∃ w2, (∀ ty, (Builtin.copy_ #[55, 55] ty #[.slice (some ⟨w.heap.size, 0, none⟩) len len, .slice (some ⟨b, off, none⟩) len cap]).run Yba.prog w1 = .ok (goInt len) w2) ∧
      (∀ i, i < len → w2.cell? ⟨w.heap.size, 0 + i, none⟩ = some (.int .u64 (z i))) ∧ Below w.heap.size w w2 := by
  obtain ⟨_, h | ⟨g, cp, cur, hv, _, hg, _, _, hsz, _⟩⟩ := hown
  · exact absurd h.1 (by simp)
  simp only [Value.slice.injEq, Option.some.injEq, Addr.mk.injEq, true_and, and_true] at hv
  obtain ⟨rfl, rfl⟩ := hv
  have hB : Below w.heap.size w w1 := (Below.refl _ _).grown hgrow (Nat.le_refl _) (fun k hk => by cases hk)
  have hs : cur.size = len := by omega
  have hrun := fun ty => run_copy_row (P := Yba.prog) w1 55 55 ty 22 w.heap.size 0 len len ⟨b, off, none⟩ len cap cur 22 (vals z len) Yba.underlying55 Yba.size22 hg (by simp [vals_length])
    (fun j v hj => by obtain ⟨h1, rfl⟩ := vals_get z len j v hj; rw [Addr.add_lit]; exact (hB.cell (p := ⟨b, off + j, none⟩) hb).trans (hc j h1)) (by simp [vals_length, hs]) (vals_one z len)
  rw [vals_length] at hrun
  refine ⟨_, hrun, ?_, below_setRow hB (Nat.le_refl _) _⟩
  refine cells_of (setRow_heap w1 w.heap.size cur _ 22 _ hg) ?_
  simp [vals_length]

theorem lead_exists (z : Nat → Int) (len : Nat) : ∃ k, Lead z len k := by
  induction len with
  | zero => exact ⟨0, Nat.le_refl _, fun j hj => absurd hj (by omega), .inl rfl⟩
  | succ n ih =>
    obtain ⟨k, h1, h2, h3⟩ := ih
    by_cases hk : k = n
    · subst hk
      by_cases he : z k = z 0
      · exact ⟨k + 1, Nat.le_refl _, lead_step h2 he, .inl rfl⟩
      · exact ⟨k, by omega, h2, .inr he⟩
    · rcases h3 with h3 | h3
      · exact absurd h3 hk
      · exact ⟨k, by omega, h2, .inr h3⟩

/-- runLength and the model return one and the same number, wherever the row lies. -/
theorem rl_md (z : Nat → Int) (len : Nat) (runs : Int) (h1 : 1 ≤ len) (h2 : len ≤ 1024) :
    ∃ G : Int, ∀ (b off cap : Nat) (w : World), (∀ i, i < len → w.cell? ⟨b, off + i, none⟩ = some (.int .u64 (z i))) →
      (Calls Yba.prog 14 #[.slice (some ⟨b, off, none⟩) len cap, .int .i64 runs] w fun e w' => e = .returned (.int .i64 G) ∧ ∃ n, w' = w.drewN n) ∧
      (Calls Yba.prog 15 #[.slice (some ⟨b, off, none⟩) len cap, .int .i64 runs] w fun e w' => e = .returned (.int .i64 G) ∧ ∃ n, w' = w.drewN n) := by
  by_cases hno : runs = 0 ∨ 4294967295 < z 0
  · refine ⟨0, fun b off cap w hc => ⟨?_, ?_⟩⟩
    · exact (rl_no b off len cap z runs w (hc 0 (by omega)) (by omega) hno).mono fun e w' ⟨he, hw⟩ => ⟨he, 0, hw⟩
    · exact (md_no b off len cap z runs w (hc 0 (by omega)) (by omega) hno).mono fun e w' ⟨he, hw⟩ => ⟨he, 0, hw⟩
  · have hr : (runs == 0) = false := by rw [beq_eq_false_iff_ne]; exact fun h => hno (.inl h)
    have hz : z 0 ≤ 4294967295 := by have : ¬ 4294967295 < z 0 := fun h => hno (.inr h); omega
    obtain ⟨k, hk⟩ := lead_exists z len
    refine ⟨k, fun b off cap w hc => ⟨?_, ?_⟩⟩
    · refine (rl_yes b off len cap z runs w hc (by omega) (by omega) hr hz).mono fun e w' ⟨k', he, hl, hn⟩ => ?_
      rw [he, hl.unique hk]
      exact ⟨rfl, hn⟩
    · refine (md_yes b off len cap z runs w hc (by omega) (by omega) hr hz).mono fun e w' ⟨k', he, hl, hn⟩ => ?_
      rw [he, hl.unique hk]
      exact ⟨rfl, hn⟩

set_option maxRecDepth 100000 in
set_option maxHeartbeats 1600000 in
theorem model_any (b off len cap : Nat) (z : Nat → Int) (runs : Int) (w : World) (hb : b < w.heap.size) (hc : ∀ i, i < len → w.cell? ⟨b, off + i, none⟩ = some (.int .u64 (z i))) (h1 : 1 ≤ len) (h2 : len ≤ 1024) :
    Calls Yba.prog 7 #[.slice (some ⟨b, off, none⟩) len cap, .int .i64 runs] w fun e w' => e = .returned (.bool true) ∧ Below w.heap.size w w' := by
  obtain ⟨G, hG⟩ := rl_md z len runs h1 h2
  have HG : Hid (∀ (b off cap : Nat) (w : World), (∀ i, i < len → w.cell? ⟨b, off + i, none⟩ = some (.int .u64 (z i))) →
      (Calls Yba.prog 14 #[.slice (some ⟨b, off, none⟩) len cap, .int .i64 runs] w fun e w' => e = .returned (.int .i64 G) ∧ ∃ n, w' = w.drewN n) ∧
      (Calls Yba.prog 15 #[.slice (some ⟨b, off, none⟩) len cap, .int .i64 runs] w fun e w' => e = .returned (.int .i64 G) ∧ ∃ n, w' = w.drewN n)) := hG
  have HC : Hid (∀ i, i < len → w.cell? ⟨b, off + i, none⟩ = some (.int .u64 (z i))) := hc
  clear hc hG
  have hl0 : ((len : Int) == 0) = false := by rw [beq_eq_false_iff_ne]; omega
  have hl1 : decide ((1024 : Int) < (len : Int)) = false := decide_eq_false (by omega)
  obtain ⟨i0, hi, hz0, hz1, hz2⟩ := info_parts Yba.info22
  go_enter Yba.func7, Yba.ntmps7
  go_wp2_with (at_make; refine wpList_make_full _ rfl _ _ 55 rfl w.heap.size 22 i0 (.int .u64 0) 1 Yba.underlying55 hi hz0 hz1 _ _ _ _ len rfl rfl rfl rfl (by rw [hz2]; omega) (by unfold maxLen; omega) (Nat.le_refl _) ?_; intro w1 hown hgrow; obtain ⟨w2, hcp, hc2, hb2⟩ := copy_made b off len cap z w w1 _ hb HC.out hown hgrow; have HC2 : Hid (∀ i, i < len → w2.cell? ⟨w.heap.size, 0 + i, none⟩ = some (.int .u64 (z i))) := hc2; clear hc2 hown hgrow)
  refine (HG.out w.heap.size 0 len _ HC2.out).1.mono ?_
  rintro e w3 ⟨rfl, n3, hw3⟩
  have HC3 : Hid (∀ i, i < len → w3.cell? ⟨w.heap.size, i, none⟩ = some (.int .u64 (z i))) := fun i h => by rw [hw3]; simpa using HC2.out i h
  have hb3 : Below w.heap.size w w3 := by rw [hw3]; exact below_drewN hb2 n3
  have HCW : Hid (∀ i, i < len → w3.cell? ⟨b, off + i, none⟩ = some (.int .u64 (z i))) := fun i h => (hb3.cell (p := ⟨b, off + i, none⟩) hb).trans (HC.out i h)
  clear hw3 HC2 hcp hb2
  go_wp2
  go_loopw [7] (fun i wr => ∃ k n : Nat, k ≤ len ∧ i = .int .i64 k ∧ wr = w3.drewN n) (fun i _ => len - (intOf i).toNat)
  case atStart => exact ⟨0, 0, by omega, rfl, rfl⟩
  case round =>
    obtain ⟨k, n, hk, rfl, rfl⟩ := hrel
    by_cases hlt : k < len
    · have c1 := HC3.out k hlt
      have c2 := HCW.out k hlt
      go_wp2
      go_quiet (fail)
      go_wp2
      go_roundw
      case rel => exact ⟨k + 1, n + nq, by omega, by go_num, rfl⟩
      case measure => simp [intOf]; omega
    · go_wp2_with fail
      refine (HG.out b off cap _ (fun i h => by simpa using HCW.out i h)).2.mono ?_
      rintro e w4 ⟨rfl, n4, rfl⟩
      go_wp2
      go_ret
      exact ⟨rfl, below_drewN hb3 _⟩
end Go.Proofs.Ybulkbswo
