/-
  THE WALK OF LawS3472CBuilt over a tail of at most 1024 cells.
-/
import Derived.Test.YbulkbswoMix
namespace Go.Proofs.Ybulkbswo
open Go.RowKit

set_option maxRecDepth 100000 in
set_option maxHeartbeats 4000000 in
theorem built_0 (a0 a1 a2 a4 : Int) (a3 : Option Addr) (len cap C : Nat) (z : Nat → Int) (w : World)
    (h1 : 0 ≤ a1) (h1' : a1 ≤ 255) (h2 : 0 ≤ a2) (h2' : a2 ≤ 65535) (hC : a2 % 300 + 1 = (C : Int)) (hC1 : 1 ≤ C) (hC2 : C ≤ 300) (hlen : len ≤ 1024) (hs : a1 % 4 = 0)
    (ht : Tail w a3 len cap z) :
    Calls Yba.prog 8 #[.int .u64 a0, .int .u8 a1, .int .u16 a2, .slice a3 len cap, .int .i64 a4] w fun e w' => e = .returned (.bool true) ∧ Below w.heap.size w w' := by
  have hl1 : decide ((1024 : Int) < (len : Int)) = false := decide_eq_false (by omega)
  have HT : Hid (Tail w a3 len cap z) := ht
  obtain ⟨i0, hi, hz0, hz1, hz2⟩ := info_parts Yba.info22
  clear ht
  go_enter Yba.func8, Yba.ntmps8
  go_wp2_with (at_make; refine wpList_make_own _ rfl _ _ 55 rfl w.heap.size 22 i0 (.int .u64 0) 1 Yba.underlying55 hi hz0 hz1 _ _ _ (C + len) rfl rfl (by omega) (by rw [hz2]; omega) (by unfold maxLen; omega) (Nat.le_refl _) ?_; intro w1 hown hgrow)
  have hb1 : Below w.heap.size w w1 := (Below.refl _ _).grown hgrow (Nat.le_refl _) (fun k hk => by cases hk)
  clear hgrow
  go_loopw [13, 14] (fun v i wr => ∃ k : Nat, k ≤ C ∧ i = .int .i64 k ∧ v = .slice (some ⟨w.heap.size, 0, none⟩) k (C + len) ∧ wr.ownsRow w.heap.size 22 1 (.slice (some ⟨w.heap.size, 0, none⟩) k (C + len)) k (reps 4294967295 k) ∧ Below w.heap.size w wr) (fun _ i _ => C - (intOf i).toNat)
  case atStart => exact ⟨0, Nat.zero_le _, rfl, rfl, hown, hb1⟩
  case round =>
    obtain ⟨k, hk, rfl, rfl, hownk, hbk⟩ := hrel
    clear hown hb1
    by_cases hlt : k < C
    · go_wp2_with (at_builtin; refine wpList_append_fits _ rfl _ _ 55 rfl w.heap.size 22 i0 1 Yba.underlying55 hi hz1 w.heap.size k (C + len) (reps 4294967295 k) rfl (hownk.alloc _) ⟨wr.heap.size, 0, none⟩ 1 1 [.int .u64 4294967295] rfl rfl (one_new wr _ 22) (ints_oneCell .u64 [4294967295]) (by omega) ?_; intro w4 hown4 hgrow4)
      rw [reps_succ] at hown4
      have hb4 : Below w.heap.size w w4 := (hbk.alloc hbk.size _).grown hgrow4 (by have := hbk.size; simp; omega) (fun j hj => by cases hj; exact Nat.le_refl _)
      clear hgrow4 hownk hbk
      go_wp2
      go_roundw
      case rel => exact ⟨k + 1, by omega, by go_num, rfl, hown4, hb4⟩
      case measure => simp [intOf]; omega
    · have hkC : k = C := by omega
      subst hkC
      clear hlt hk
      go_wp2_with (at_builtin; refine wpList_append_fits_any _ rfl _ _ 55 rfl w.heap.size 22 i0 1 Yba.underlying55 hi hz1 w.heap.size k (k + len) (reps 4294967295 k) rfl hownk a3 len cap (vals z len) rfl (by simp [vals_length]) HT.out.isNone (HT.out.cells hbk) (vals_one z len) (Nat.le_refl _) ?_; intro w5 hown5 hgrow5)
      rw [mix_vals] at hown5
      have hb5 : Below w.heap.size w w5 := hbk.grown hgrow5 hbk.size (fun j hj => by cases hj; exact Nat.le_refl _)
      have HC5 : Hid (∀ i, i < k + len → w5.cell? ⟨w.heap.size, 0 + i, none⟩ = some (.int .u64 (mix 4294967295 k z i))) := cells_own hown5
      clear hgrow5 hownk hbk hown5
      by_cases hr : (a4 == 0) = true
      · refine (rl_no w.heap.size 0 (k + len) (k + len) (mix 4294967295 k z) a4 _ (HC5.out 0 (by omega)) (by omega) (.inl (by simpa using hr))).mono ?_
        rintro e w6 ⟨rfl, rfl⟩
        go_wp2
        go_ret
        exact ⟨rfl, hb5⟩
      have hr0 : (a4 == 0) = false := by simpa using hr
      clear hr
      · refine (rl_yes w.heap.size 0 (k + len) (k + len) (mix 4294967295 k z) a4 _ HC5.out (by omega) (by omega) hr0 (by rw [mix_zero _ _ _ hC1]; omega)).mono ?_
        rintro e w6 ⟨G, rfl, hG, n6, hw6⟩
        have HG : Hid (Lead (mix 4294967295 k z) (k + len) G) := hG
        have hGb : G ≤ k + len := hG.1
        have hb6 : Below w.heap.size w w6 := by rw [hw6]; exact below_drewN hb5 n6
        clear hw6 hG HC5 hb5
        rcases HT.out with ⟨hl0, _⟩ | ⟨b, off, rfl, hblt, hl0, hcz⟩
        · have hle : len ≤ 0 := by omega
          clear hl0
          go_wp2
          go_loopw [16, 17] (fun v i wr => ∃ q : Nat, q ≤ len ∧ i = .int .i64 q ∧ v = .int .i64 ((k : Int) + (q : Int)) ∧ (∀ j, j < q → z j = 4294967295) ∧ wr = w6) (fun _ i _ => len - (intOf i).toNat)
          case atStart => exact ⟨0, Nat.zero_le _, rfl, by go_num, fun j hj => absurd hj (by omega), rfl⟩
          case round =>
            obtain ⟨q, hq, rfl, rfl, hj, rfl⟩ := hrel
            have HJ : Hid (∀ j, j < q → z j = 4294967295) := hj
            clear hj
            have hfin : ((G : Int) == (k : Int) + (q : Int)) = true := by rw [beq_iff_eq]; have := HG.out.unique (lead_mix hC1 hq HJ.out (.inl (by omega))); omega
            go_wp2
            go_ret
            exact ⟨rfl, hb6⟩
        · have HZ : Hid (∀ i, i < len → w.cell? ⟨b, off + i, none⟩ = some (.int .u64 (z i))) := hcz
          clear hcz
          go_wp2
          go_loopw [16, 17] (fun v i wr => ∃ q : Nat, q ≤ len ∧ i = .int .i64 q ∧ v = .int .i64 ((k : Int) + (q : Int)) ∧ (∀ j, j < q → z j = 4294967295) ∧ wr = w6) (fun _ i _ => len - (intOf i).toNat)
          case atStart => exact ⟨0, Nat.zero_le _, rfl, by go_num, fun j hj => absurd hj (by omega), rfl⟩
          case round =>
            obtain ⟨q, hq, rfl, rfl, hj, rfl⟩ := hrel
            have HJ : Hid (∀ j, j < q → z j = 4294967295) := hj
            clear hj
            by_cases hlt : q < len
            · have c2 := (hb6.cell (p := ⟨b, off + q, none⟩) hblt).trans (HZ.out q hlt)
              by_cases he : (z q != 4294967295) = true
              · have hfin : ((G : Int) == (k : Int) + (q : Int)) = true := by rw [beq_iff_eq]; have := HG.out.unique (lead_mix hC1 hq HJ.out (.inr (by simpa using he))); omega
                go_wp2
                go_ret
                exact ⟨rfl, hb6⟩
              · have he' : (z q != 4294967295) = false := by simpa using he
                clear he
                go_wp2
                go_roundw
                case rel => exact ⟨q + 1, by omega, by go_num, by go_num, heads_step HJ.out (by simpa using he'), by trivial⟩
                case measure => simp [intOf]; omega
            · have hfin : ((G : Int) == (k : Int) + (q : Int)) = true := by rw [beq_iff_eq]; have := HG.out.unique (lead_mix hC1 hq HJ.out (.inl (by omega))); omega
              go_wp2
              go_ret
              exact ⟨rfl, hb6⟩

set_option maxRecDepth 100000 in
set_option maxHeartbeats 4000000 in
theorem built_1 (a0 a1 a2 a4 : Int) (a3 : Option Addr) (len cap C : Nat) (z : Nat → Int) (w : World)
    (h1 : 0 ≤ a1) (h1' : a1 ≤ 255) (h2 : 0 ≤ a2) (h2' : a2 ≤ 65535) (hC : a2 % 300 + 1 = (C : Int)) (hC1 : 1 ≤ C) (hC2 : C ≤ 300) (hlen : len ≤ 1024) (hs : a1 % 4 = 1)
    (ht : Tail w a3 len cap z) :
    Calls Yba.prog 8 #[.int .u64 a0, .int .u8 a1, .int .u16 a2, .slice a3 len cap, .int .i64 a4] w fun e w' => e = .returned (.bool true) ∧ Below w.heap.size w w' := by
  have hl1 : decide ((1024 : Int) < (len : Int)) = false := decide_eq_false (by omega)
  have HT : Hid (Tail w a3 len cap z) := ht
  obtain ⟨i0, hi, hz0, hz1, hz2⟩ := info_parts Yba.info22
  clear ht
  go_enter Yba.func8, Yba.ntmps8
  go_wp2_with (at_make; refine wpList_make_own _ rfl _ _ 55 rfl w.heap.size 22 i0 (.int .u64 0) 1 Yba.underlying55 hi hz0 hz1 _ _ _ (C + len) rfl rfl (by omega) (by rw [hz2]; omega) (by unfold maxLen; omega) (Nat.le_refl _) ?_; intro w1 hown hgrow)
  have hb1 : Below w.heap.size w w1 := (Below.refl _ _).grown hgrow (Nat.le_refl _) (fun k hk => by cases hk)
  clear hgrow
  go_loopw [13, 14] (fun v i wr => ∃ k : Nat, k ≤ C ∧ i = .int .i64 k ∧ v = .slice (some ⟨w.heap.size, 0, none⟩) k (C + len) ∧ wr.ownsRow w.heap.size 22 1 (.slice (some ⟨w.heap.size, 0, none⟩) k (C + len)) k (reps 4294967296 k) ∧ Below w.heap.size w wr) (fun _ i _ => C - (intOf i).toNat)
  case atStart => exact ⟨0, Nat.zero_le _, rfl, rfl, hown, hb1⟩
  case round =>
    obtain ⟨k, hk, rfl, rfl, hownk, hbk⟩ := hrel
    clear hown hb1
    by_cases hlt : k < C
    · go_wp2_with (at_builtin; refine wpList_append_fits _ rfl _ _ 55 rfl w.heap.size 22 i0 1 Yba.underlying55 hi hz1 w.heap.size k (C + len) (reps 4294967296 k) rfl (hownk.alloc _) ⟨wr.heap.size, 0, none⟩ 1 1 [.int .u64 4294967296] rfl rfl (one_new wr _ 22) (ints_oneCell .u64 [4294967296]) (by omega) ?_; intro w4 hown4 hgrow4)
      rw [reps_succ] at hown4
      have hb4 : Below w.heap.size w w4 := (hbk.alloc hbk.size _).grown hgrow4 (by have := hbk.size; simp; omega) (fun j hj => by cases hj; exact Nat.le_refl _)
      clear hgrow4 hownk hbk
      go_wp2
      go_roundw
      case rel => exact ⟨k + 1, by omega, by go_num, rfl, hown4, hb4⟩
      case measure => simp [intOf]; omega
    · have hkC : k = C := by omega
      subst hkC
      clear hlt hk
      go_wp2_with (at_builtin; refine wpList_append_fits_any _ rfl _ _ 55 rfl w.heap.size 22 i0 1 Yba.underlying55 hi hz1 w.heap.size k (k + len) (reps 4294967296 k) rfl hownk a3 len cap (vals z len) rfl (by simp [vals_length]) HT.out.isNone (HT.out.cells hbk) (vals_one z len) (Nat.le_refl _) ?_; intro w5 hown5 hgrow5)
      rw [mix_vals] at hown5
      have hb5 : Below w.heap.size w w5 := hbk.grown hgrow5 hbk.size (fun j hj => by cases hj; exact Nat.le_refl _)
      have HC5 : Hid (∀ i, i < k + len → w5.cell? ⟨w.heap.size, 0 + i, none⟩ = some (.int .u64 (mix 4294967296 k z i))) := cells_own hown5
      clear hgrow5 hownk hbk hown5
      by_cases hr : (a4 == 0) = true
      · refine (rl_no w.heap.size 0 (k + len) (k + len) (mix 4294967296 k z) a4 _ (HC5.out 0 (by omega)) (by omega) (.inl (by simpa using hr))).mono ?_
        rintro e w6 ⟨rfl, rfl⟩
        go_wp2
        go_ret
        exact ⟨rfl, hb5⟩
      have hr0 : (a4 == 0) = false := by simpa using hr
      clear hr
      · refine (rl_no w.heap.size 0 (k + len) (k + len) (mix 4294967296 k z) a4 _ (HC5.out 0 (by omega)) (by omega) (.inr (by rw [mix_zero _ _ _ hC1]; omega))).mono ?_
        rintro e w6 ⟨rfl, rfl⟩
        go_wp2
        go_ret
        exact ⟨rfl, hb5⟩

set_option maxRecDepth 100000 in
set_option maxHeartbeats 4000000 in
theorem built_2 (a0 a1 a2 a4 : Int) (a3 : Option Addr) (len cap C : Nat) (z : Nat → Int) (w : World)
    (h1 : 0 ≤ a1) (h1' : a1 ≤ 255) (h2 : 0 ≤ a2) (h2' : a2 ≤ 65535) (hC : a2 % 300 + 1 = (C : Int)) (hC1 : 1 ≤ C) (hC2 : C ≤ 300) (hlen : len ≤ 1024) (hs : (a1 % 4 == 0) = false) (hs1 : (a1 % 4 == 1) = false)
    (ht : Tail w a3 len cap z) :
    Calls Yba.prog 8 #[.int .u64 a0, .int .u8 a1, .int .u16 a2, .slice a3 len cap, .int .i64 a4] w fun e w' => e = .returned (.bool true) ∧ Below w.heap.size w w' := by
  have hl1 : decide ((1024 : Int) < (len : Int)) = false := decide_eq_false (by omega)
  have HT : Hid (Tail w a3 len cap z) := ht
  obtain ⟨i0, hi, hz0, hz1, hz2⟩ := info_parts Yba.info22
  clear ht
  go_enter Yba.func8, Yba.ntmps8
  go_wp2_with (at_make; refine wpList_make_own _ rfl _ _ 55 rfl w.heap.size 22 i0 (.int .u64 0) 1 Yba.underlying55 hi hz0 hz1 _ _ _ (C + len) rfl rfl (by omega) (by rw [hz2]; omega) (by unfold maxLen; omega) (Nat.le_refl _) ?_; intro w1 hown hgrow)
  have hb1 : Below w.heap.size w w1 := (Below.refl _ _).grown hgrow (Nat.le_refl _) (fun k hk => by cases hk)
  clear hgrow
  go_loopw [13, 14] (fun v i wr => ∃ k : Nat, k ≤ C ∧ i = .int .i64 k ∧ v = .slice (some ⟨w.heap.size, 0, none⟩) k (C + len) ∧ wr.ownsRow w.heap.size 22 1 (.slice (some ⟨w.heap.size, 0, none⟩) k (C + len)) k (reps a0 k) ∧ Below w.heap.size w wr) (fun _ i _ => C - (intOf i).toNat)
  case atStart => exact ⟨0, Nat.zero_le _, rfl, rfl, hown, hb1⟩
  case round =>
    obtain ⟨k, hk, rfl, rfl, hownk, hbk⟩ := hrel
    clear hown hb1
    by_cases hlt : k < C
    · go_wp2_with (at_builtin; refine wpList_append_fits _ rfl _ _ 55 rfl w.heap.size 22 i0 1 Yba.underlying55 hi hz1 w.heap.size k (C + len) (reps a0 k) rfl (hownk.alloc _) ⟨wr.heap.size, 0, none⟩ 1 1 [.int .u64 a0] rfl rfl (one_new wr _ 22) (ints_oneCell .u64 [a0]) (by omega) ?_; intro w4 hown4 hgrow4)
      rw [reps_succ] at hown4
      have hb4 : Below w.heap.size w w4 := (hbk.alloc hbk.size _).grown hgrow4 (by have := hbk.size; simp; omega) (fun j hj => by cases hj; exact Nat.le_refl _)
      clear hgrow4 hownk hbk
      go_wp2
      go_roundw
      case rel => exact ⟨k + 1, by omega, by go_num, rfl, hown4, hb4⟩
      case measure => simp [intOf]; omega
    · have hkC : k = C := by omega
      subst hkC
      clear hlt hk
      go_wp2_with (at_builtin; refine wpList_append_fits_any _ rfl _ _ 55 rfl w.heap.size 22 i0 1 Yba.underlying55 hi hz1 w.heap.size k (k + len) (reps a0 k) rfl hownk a3 len cap (vals z len) rfl (by simp [vals_length]) HT.out.isNone (HT.out.cells hbk) (vals_one z len) (Nat.le_refl _) ?_; intro w5 hown5 hgrow5)
      rw [mix_vals] at hown5
      have hb5 : Below w.heap.size w w5 := hbk.grown hgrow5 hbk.size (fun j hj => by cases hj; exact Nat.le_refl _)
      have HC5 : Hid (∀ i, i < k + len → w5.cell? ⟨w.heap.size, 0 + i, none⟩ = some (.int .u64 (mix a0 k z i))) := cells_own hown5
      clear hgrow5 hownk hbk hown5
      by_cases hr : (a4 == 0) = true
      · refine (rl_no w.heap.size 0 (k + len) (k + len) (mix a0 k z) a4 _ (HC5.out 0 (by omega)) (by omega) (.inl (by simpa using hr))).mono ?_
        rintro e w6 ⟨rfl, rfl⟩
        go_wp2
        go_ret
        exact ⟨rfl, hb5⟩
      have hr0 : (a4 == 0) = false := by simpa using hr
      clear hr
      by_cases hbig : 4294967295 < a0
      · refine (rl_no w.heap.size 0 (k + len) (k + len) (mix a0 k z) a4 _ (HC5.out 0 (by omega)) (by omega) (.inr (by rw [mix_zero _ _ _ hC1]; omega))).mono ?_
        rintro e w6 ⟨rfl, rfl⟩
        go_wp2
        go_ret
        exact ⟨rfl, hb5⟩
      have hbig' : a0 ≤ 4294967295 := by omega
      clear hbig
      · refine (rl_yes w.heap.size 0 (k + len) (k + len) (mix a0 k z) a4 _ HC5.out (by omega) (by omega) hr0 (by rw [mix_zero _ _ _ hC1]; omega)).mono ?_
        rintro e w6 ⟨G, rfl, hG, n6, hw6⟩
        have HG : Hid (Lead (mix a0 k z) (k + len) G) := hG
        have hGb : G ≤ k + len := hG.1
        have hb6 : Below w.heap.size w w6 := by rw [hw6]; exact below_drewN hb5 n6
        clear hw6 hG HC5 hb5
        rcases HT.out with ⟨hl0, _⟩ | ⟨b, off, rfl, hblt, hl0, hcz⟩
        · have hle : len ≤ 0 := by omega
          clear hl0
          go_wp2
          go_loopw [16, 17] (fun v i wr => ∃ q : Nat, q ≤ len ∧ i = .int .i64 q ∧ v = .int .i64 ((k : Int) + (q : Int)) ∧ (∀ j, j < q → z j = a0) ∧ wr = w6) (fun _ i _ => len - (intOf i).toNat)
          case atStart => exact ⟨0, Nat.zero_le _, rfl, by go_num, fun j hj => absurd hj (by omega), rfl⟩
          case round =>
            obtain ⟨q, hq, rfl, rfl, hj, rfl⟩ := hrel
            have HJ : Hid (∀ j, j < q → z j = a0) := hj
            clear hj
            have hfin : ((G : Int) == (k : Int) + (q : Int)) = true := by rw [beq_iff_eq]; have := HG.out.unique (lead_mix hC1 hq HJ.out (.inl (by omega))); omega
            go_wp2
            go_ret
            exact ⟨rfl, hb6⟩
        · have HZ : Hid (∀ i, i < len → w.cell? ⟨b, off + i, none⟩ = some (.int .u64 (z i))) := hcz
          clear hcz
          go_wp2
          go_loopw [16, 17] (fun v i wr => ∃ q : Nat, q ≤ len ∧ i = .int .i64 q ∧ v = .int .i64 ((k : Int) + (q : Int)) ∧ (∀ j, j < q → z j = a0) ∧ wr = w6) (fun _ i _ => len - (intOf i).toNat)
          case atStart => exact ⟨0, Nat.zero_le _, rfl, by go_num, fun j hj => absurd hj (by omega), rfl⟩
          case round =>
            obtain ⟨q, hq, rfl, rfl, hj, rfl⟩ := hrel
            have HJ : Hid (∀ j, j < q → z j = a0) := hj
            clear hj
            by_cases hlt : q < len
            · have c2 := (hb6.cell (p := ⟨b, off + q, none⟩) hblt).trans (HZ.out q hlt)
              by_cases he : (z q != a0) = true
              · have hfin : ((G : Int) == (k : Int) + (q : Int)) = true := by rw [beq_iff_eq]; have := HG.out.unique (lead_mix hC1 hq HJ.out (.inr (by simpa using he))); omega
                go_wp2
                go_ret
                exact ⟨rfl, hb6⟩
              · have he' : (z q != a0) = false := by simpa using he
                clear he
                go_wp2
                go_roundw
                case rel => exact ⟨q + 1, by omega, by go_num, by go_num, heads_step HJ.out (by simpa using he'), by trivial⟩
                case measure => simp [intOf]; omega
            · have hfin : ((G : Int) == (k : Int) + (q : Int)) = true := by rw [beq_iff_eq]; have := HG.out.unique (lead_mix hC1 hq HJ.out (.inl (by omega))); omega
              go_wp2
              go_ret
              exact ⟨rfl, hb6⟩

end Go.Proofs.Ybulkbswo
