/-
  wordpack.runLength and the law's model zzs3472cmodel BY CONTRACT, over a row of uint64 cells 'z 0, z 1, ..'.
-/
import Derived.Test.YbulkbswoProg
import Derived.WalkKit
import Derived.KernelRfl
import Derived.Deep.QuietTactic
import Derived.BigQuiet
import Derived.Below
namespace Go.Proofs.Ybulkbswo
open Go.RowKit

/-- k is the length of the leading block of values equal to the first, among the first len of the row z. -/
def Lead (z : Nat → Int) (len k : Nat) : Prop := k ≤ len ∧ (∀ j, j < k → z j = z 0) ∧ (k = len ∨ ¬ z k = z 0)

theorem Lead.unique {z : Nat → Int} {len k k' : Nat} (h : Lead z len k) (h' : Lead z len k') : k = k' := by
  obtain ⟨a, b, c⟩ := h
  obtain ⟨a', b', c'⟩ := h'
  rcases Nat.lt_trichotomy k k' with g | g | g
  · rcases c with c | c
    · omega
    · exact absurd (b' k g) c
  · exact g
  · rcases c' with c' | c'
    · omega
    · exact absurd (b k' g) c'

theorem lead_step {z : Nat → Int} {k : Nat} (h : ∀ j, j < k → z j = z 0) (e : z k = z 0) : ∀ j, j < k + 1 → z j = z 0 := by
  intro j hj
  by_cases g : j = k
  · rw [g]; exact e
  · exact h j (by omega)

theorem rl_no (b off len cap : Nat) (z : Nat → Int) (runs : Int) (w : World) (h0 : w.cell? ⟨b, off, none⟩ = some (.int .u64 (z 0))) (hl : 0 < len) (hno : runs = 0 ∨ 4294967295 < z 0) :
    Calls Yba.prog 14 #[.slice (some ⟨b, off, none⟩) len cap, .int .i64 runs] w fun e w' => e = .returned (.int .i64 0) ∧ w' = w := by
  by_cases hr : runs = 0
  · subst hr
    clear hno
    go_enter Yba.func14, Yba.ntmps14
    go_wp2
    go_ret
    exact ⟨rfl, rfl⟩
  · have hz : 4294967295 < z 0 := by rcases hno with h | h; exact absurd h hr; exact h
    have hr' : (runs == 0) = false := by simpa using hr
    have hl' : (0 : Int) < len := by omega
    clear hno hr
    go_enter Yba.func14, Yba.ntmps14
    go_wp2
    go_ret
    exact ⟨rfl, rfl⟩

set_option maxRecDepth 100000 in
set_option maxHeartbeats 800000 in
theorem rl_yes (b off len cap : Nat) (z : Nat → Int) (runs : Int) (w : World) (hc : ∀ i, i < len → w.cell? ⟨b, off + i, none⟩ = some (.int .u64 (z i))) (hl : 0 < len) (hm : len ≤ 4096)
    (hr : (runs == 0) = false) (hz : z 0 ≤ 4294967295) :
    Calls Yba.prog 14 #[.slice (some ⟨b, off, none⟩) len cap, .int .i64 runs] w fun e w' => ∃ k : Nat, e = .returned (.int .i64 k) ∧ Lead z len k ∧ ∃ n, w' = w.drewN n := by
  have h0 : w.cell? ⟨b, off, none⟩ = some (.int .u64 (z 0)) := hc 0 hl
  have hl' : (0 : Int) < len := by omega
  have HC : Hid (∀ i, i < len → w.cell? ⟨b, off + i, none⟩ = some (.int .u64 (z i))) := hc
  clear hc
  go_enter Yba.func14, Yba.ntmps14
  go_wp2
  go_loopw [5] (fun r wr => ∃ k n : Nat, 1 ≤ k ∧ k ≤ len ∧ r = .int .i64 k ∧ (∀ j, j < k → z j = z 0) ∧ wr = w.drewN n) (fun r _ => len - (intOf r).toNat)
  case atStart => exact ⟨1, 0, by omega, by omega, rfl, fun j hj => by rw [show j = 0 by omega], rfl⟩
  case round =>
    obtain ⟨k, n, hk1, hk, rfl, hj, rfl⟩ := hrel
    have HJ : Hid (∀ j, j < k → z j = z 0) := hj
    clear hj
    by_cases hlt : k < len
    · have hck := HC.out k hlt
      have g1 : decide ((k : Int) < (len : Int)) = true := decide_eq_true (by omega)
      have g2 : decide ((k : Int) < 268435455) = true := decide_eq_true (by omega)
      by_cases he : (z k == z 0) = true
      · go_wp2
        go_quiet (fail)
        go_wp2
        go_roundw
        case rel => exact ⟨k + 1, n + nq, by omega, by omega, by go_num, lead_step HJ.out (by simpa using he), rfl⟩
        case measure => simp [intOf]; omega
      · have he' : (z k == z 0) = false := by simpa using he
        clear he
        go_wp2
        go_quiet (fail)
        go_wp2
        go_ret
        exact ⟨k, rfl, ⟨hk, HJ.out, .inr (by simpa using he')⟩, n + nq, World.drewN_drewN _ _ _⟩
    · have g1 : decide ((k : Int) < (len : Int)) = false := decide_eq_false (by omega)
      go_wp2
      go_quiet (fail)
      go_wp2
      go_ret
      exact ⟨k, rfl, ⟨hk, HJ.out, .inl (by omega)⟩, n + nq, World.drewN_drewN _ _ _⟩

/-! ### The model -/
theorem md_no (b off len cap : Nat) (z : Nat → Int) (runs : Int) (w : World) (h0 : w.cell? ⟨b, off, none⟩ = some (.int .u64 (z 0))) (hl : 0 < len) (hno : runs = 0 ∨ 4294967295 < z 0) :
    Calls Yba.prog 15 #[.slice (some ⟨b, off, none⟩) len cap, .int .i64 runs] w fun e w' => e = .returned (.int .i64 0) ∧ w' = w := by
  by_cases hr : runs = 0
  · subst hr
    clear hno
    go_enter Yba.func15, Yba.ntmps15
    go_wp2
    go_ret
    exact ⟨rfl, rfl⟩
  · have hz : 4294967295 < z 0 := by rcases hno with h | h; exact absurd h hr; exact h
    have hr' : (runs == 0) = false := by simpa using hr
    have hl' : (0 : Int) < len := by omega
    clear hno hr
    go_enter Yba.func15, Yba.ntmps15
    go_wp2
    go_ret
    exact ⟨rfl, rfl⟩

set_option maxRecDepth 100000 in
set_option maxHeartbeats 800000 in
theorem md_yes (b off len cap : Nat) (z : Nat → Int) (runs : Int) (w : World) (hc : ∀ i, i < len → w.cell? ⟨b, off + i, none⟩ = some (.int .u64 (z i))) (hl : 0 < len) (hm : len ≤ 4096)
    (hr : (runs == 0) = false) (hz : z 0 ≤ 4294967295) :
    Calls Yba.prog 15 #[.slice (some ⟨b, off, none⟩) len cap, .int .i64 runs] w fun e w' => ∃ k : Nat, e = .returned (.int .i64 k) ∧ Lead z len k ∧ ∃ n, w' = w.drewN n := by
  have h0 : w.cell? ⟨b, off, none⟩ = some (.int .u64 (z 0)) := hc 0 hl
  have hl' : (0 : Int) < len := by omega
  have HC : Hid (∀ i, i < len → w.cell? ⟨b, off + i, none⟩ = some (.int .u64 (z i))) := hc
  clear hc
  go_enter Yba.func15, Yba.ntmps15
  go_wp2
  go_loopw [5, 6] (fun r i wr => ∃ k n : Nat, k ≤ len ∧ r = .int .i64 k ∧ i = .int .i64 k ∧ (∀ j, j < k → z j = z 0) ∧ wr = w.drewN n) (fun _ i _ => len - (intOf i).toNat)
  case atStart => exact ⟨0, 0, by omega, rfl, rfl, fun j hj => absurd hj (by omega), rfl⟩
  case round =>
    obtain ⟨k, n, hk, rfl, rfl, hj, rfl⟩ := hrel
    have HJ : Hid (∀ j, j < k → z j = z 0) := hj
    clear hj
    by_cases hlt : k < len
    · have hck := HC.out k hlt
      by_cases he : (z k != z 0) = true
      · go_wp2
        go_quiet (fail)
        go_wp2
        go_ret
        exact ⟨k, rfl, ⟨hk, HJ.out, .inr (by simpa using he)⟩, n + nq, World.drewN_drewN _ _ _⟩
      · have he' : (z k != z 0) = false := by simpa using he
        clear he
        go_wp2
        go_quiet (fail)
        go_wp2
        go_roundw
        case rel => exact ⟨k + 1, n + nq, by omega, by go_num, by go_num, lead_step HJ.out (by simpa using he'), rfl⟩
        case measure => simp [intOf]; omega
    · go_wp2
      go_ret
      exact ⟨k, rfl, ⟨hk, HJ.out, .inl (by omega)⟩, n, rfl⟩
end Go.Proofs.Ybulkbswo
