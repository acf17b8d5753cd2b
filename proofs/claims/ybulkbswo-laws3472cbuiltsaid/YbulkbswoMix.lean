/-
  PLAIN FACTS FOR LawS3472CBuilt: C copies of H followed by the tail z; what a row that holds them reads as; its leading block.
-/
import Derived.Test.YbulkbswoModel
namespace Go.Proofs.Ybulkbswo
open Go.RowKit

def reps (H : Int) (k : Nat) : List Value := List.replicate k (.int .u64 H)
theorem reps_succ (H : Int) (k : Nat) : reps H k ++ [.int .u64 H] = reps H (k + 1) := by
  unfold reps
  exact (List.replicate_succ').symm

def mix (H : Int) (C : Nat) (z : Nat → Int) : Nat → Int := fun i => if i < C then H else z (i - C)
theorem mix_zero (H : Int) (C : Nat) (z : Nat → Int) (h : 1 ≤ C) : mix H C z 0 = H := by unfold mix; rw [if_pos (by omega)]
theorem mix_vals (H : Int) (C len : Nat) (z : Nat → Int) : reps H C ++ vals z len = vals (mix H C z) (C + len) := by
  apply List.ext_getElem?
  intro i
  rw [List.getElem?_append]
  by_cases h : i < C
  · simp [reps, vals, mix, h, show i < C + len by omega]
  · by_cases h2 : i < C + len
    · simp [reps, vals, mix, h, h2, show i - C < len by omega]
    · simp [reps, vals, h, h2, show ¬ i - C < len by omega]

theorem cells_own {w : World} {base g M cap : Nat} {y : Nat → Int} (h : w.ownsRow base 22 1 (.slice (some ⟨g, 0, none⟩) M cap) M (vals y M)) :
    ∀ i, i < M → w.cell? ⟨g, 0 + i, none⟩ = some (.int .u64 (y i)) := by
  obtain ⟨_, h | ⟨g', cp, cur, hv, _, hg, _, _, _, ht⟩⟩ := h
  · exact absurd h.1 (by simp)
  simp only [Value.slice.injEq, Option.some.injEq, Addr.mk.injEq, true_and, and_true] at hv
  obtain ⟨rfl, rfl⟩ := hv
  exact cells_of hg (by simpa using ht)

theorem lead_mix {H : Int} {C len k : Nat} {z : Nat → Int} (hC : 1 ≤ C) (hk : k ≤ len) (hj : ∀ j, j < k → z j = H) (he : k = len ∨ ¬ z k = H) : Lead (mix H C z) (C + len) (C + k) := by
  refine ⟨by omega, fun j h => ?_, ?_⟩
  · rw [mix_zero H C z hC]
    unfold mix
    by_cases g : j < C
    · rw [if_pos g]
    · rw [if_neg g]; exact hj _ (by omega)
  · rcases he with he | he
    · exact .inl (by omega)
    · refine .inr ?_
      rw [mix_zero H C z hC]
      unfold mix
      rw [if_neg (by omega), show C + k - C = k by omega]
      exact he

theorem heads_step {z : Nat → Int} {H : Int} {k : Nat} (h : ∀ j, j < k → z j = H) (e : z k = H) : ∀ j, j < k + 1 → z j = H := by
  intro j hj
  by_cases g : j = k
  · rw [g]; exact e
  · exact h j (by omega)

/-- What the walk is told of the tail: no element; or a row of cells below the call's own blocks. -/
def Tail (w : World) (a : Option Addr) (len cap : Nat) (z : Nat → Int) : Prop :=
  (len = 0 ∧ (a = none → cap = 0)) ∨ ∃ b off, a = some ⟨b, off, none⟩ ∧ b < w.heap.size ∧ 1 ≤ len ∧ ∀ i, i < len → w.cell? ⟨b, off + i, none⟩ = some (.int .u64 (z i))

theorem Tail.isNone {w : World} {a : Option Addr} {len cap : Nat} {z : Nat → Int} (h : Tail w a len cap z) : a = none → len = 0 ∧ cap = 0 := by
  intro ha
  rcases h with h | ⟨b, off, hs, _⟩
  · exact ⟨h.1, h.2 ha⟩
  · rw [hs] at ha; cases ha

theorem Tail.cells {w wr : World} {a : Option Addr} {len cap : Nat} {z : Nat → Int} (h : Tail w a len cap z) (hb : Below w.heap.size w wr) :
    ∀ ad, a = some ad → ∀ j u, (vals z len)[j]? = some u → wr.cell? (ad.add j) = some u := by
  intro ad ha j u hu
  obtain ⟨hj, rfl⟩ := vals_get z len j u hu
  rcases h with h | ⟨b, off, hs, hlt, _, hc⟩
  · omega
  · rw [hs] at ha
    obtain rfl := Option.some.inj ha
    rw [Addr.add_lit]
    exact (hb.cell (p := ⟨b, off + j, none⟩) hlt).trans (hc j hj)

theorem one_new (w : World) (u : Value) (t : TypeId) : ∀ j v, [u][j]? = some v → (w.alloc (.cells #[u] t)).cell? ((⟨w.heap.size, 0, none⟩ : Addr).add j) = some v := by
  intro j v hj
  match j, hj with
  | 0, hj => simp at hj; subst hj; simp [Addr.add]
end Go.Proofs.Ybulkbswo
