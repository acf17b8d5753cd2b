/-
  PLAIN FACTS ON int64's BITS (no Go text in sight).
-/
import Derived.Laws.Entries
namespace Go.Proofs.Ybulkbsuy

theorem wrap_toInt (v : BitVec 64) : IntKind.i64.wrap (v.toNat : Int) = v.toInt := by
  have h := v.isLt
  simp only [IntKind.wrap, IntKind.bits, IntKind.signed, BitVec.toInt_eq_toNat_cond]
  simp only [Bool.true_and, decide_eq_true_eq, ge_iff_le]
  split <;> split <;> omega

theorem toInt_of (a : Int) (h1 : -9223372036854775808 ≤ a) (h2 : a ≤ 9223372036854775807) : (BitVec.ofInt 64 a).toInt = a := by
  rw [BitVec.toInt_ofInt]
  exact Int.bmod_eq_of_le (by omega) (by omega)

theorem not_i64 (a : Int) (h1 : -9223372036854775808 ≤ a) (h2 : a ≤ 9223372036854775807) : bits .xor .i64 (-1) a = -1 - a := by
  show IntKind.i64.wrap ((BitVec.ofInt 64 (-1) ^^^ BitVec.ofInt 64 a).toNat : Int) = _
  have e : BitVec.ofInt 64 (-1) = BitVec.allOnes 64 := by decide
  rw [wrap_toInt, e, BitVec.allOnes_xor, BitVec.toInt_eq_toNat_cond, BitVec.toNat_not, BitVec.toNat_ofInt]
  split <;> omega

/-! ### The state word of an RWMutex -/
theorem and_i64 (x y : Int) : bits .and .i64 x y = (BitVec.ofInt 64 x &&& BitVec.ofInt 64 y).toInt := wrap_toInt _
theorem or_i64 (x y : Int) : bits .or .i64 x y = (BitVec.ofInt 64 x ||| BitVec.ofInt 64 y).toInt := wrap_toInt _
theorem andNot_i64 (x y : Int) : bits .andNot .i64 x y = (BitVec.ofInt 64 x &&& ~~~BitVec.ofInt 64 y).toInt := wrap_toInt _

theorem clear6_and1 (t : Int) : bits .and .i64 (bits .andNot .i64 t 6) 1 = bits .and .i64 t 1 := by
  rw [and_i64, and_i64, andNot_i64, BitVec.ofInt_toInt, BitVec.and_assoc]
  have e : ~~~BitVec.ofInt 64 6 &&& BitVec.ofInt 64 1 = BitVec.ofInt 64 1 := by decide
  rw [e]

theorem clear6_and6 (t : Int) : bits .and .i64 (bits .andNot .i64 t 6) 6 = 0 := by
  rw [and_i64, andNot_i64, BitVec.ofInt_toInt, BitVec.and_assoc]
  have e : ~~~BitVec.ofInt 64 6 &&& BitVec.ofInt 64 6 = 0#64 := by decide
  rw [e, BitVec.and_zero]
  decide

theorem clear6_or6 (t : Int) : bits .or .i64 (bits .andNot .i64 t 6) 6 = bits .or .i64 t 6 := by
  rw [or_i64, or_i64, andNot_i64, BitVec.ofInt_toInt]
  refine congrArg BitVec.toInt (BitVec.eq_of_getLsbD_eq fun i hi => ?_)
  simp only [BitVec.getLsbD_or, BitVec.getLsbD_and, BitVec.getLsbD_not, hi]
  cases (BitVec.ofInt 64 t).getLsbD i <;> cases (BitVec.ofInt 64 6).getLsbD i <;> rfl

theorem toInt_div8 (v : BitVec 64) : v.toInt / 8 = (v.sshiftRight 3).toInt := by
  rw [BitVec.toInt_sshiftRight, Int.shiftRight_eq_div_pow]
  rfl

theorem clear6_div8 (t : Int) (h1 : -9223372036854775808 ≤ t) (h2 : t ≤ 9223372036854775807) : bits .andNot .i64 t 6 / 8 = t / 8 := by
  have e : (~~~BitVec.ofInt 64 6).sshiftRight 3 = BitVec.allOnes 64 := by decide
  rw [andNot_i64, toInt_div8, BitVec.sshiftRight_and_distrib, e, BitVec.and_allOnes, ← toInt_div8, toInt_of t h1 h2]

theorem clear6_range (t : Int) : -9223372036854775808 ≤ bits .andNot .i64 t 6 ∧ bits .andNot .i64 t 6 ≤ 9223372036854775807 := by
  rw [andNot_i64]
  have h1 := BitVec.le_toInt (BitVec.ofInt 64 t &&& ~~~BitVec.ofInt 64 6)
  have h2 := BitVec.toInt_lt (x := BitVec.ofInt 64 t &&& ~~~BitVec.ofInt 64 6)
  omega

theorem hands_yes (s : Int) (hs : s = 2 ∨ s = 6) : (s / 8 == 0) = true ∧ (bits .and .i64 s 3 == 2) = true := by
  rcases hs with rfl | rfl <;> decide

theorem hands_no (s : Int) (h2 : ¬ s = 2) (h6 : ¬ s = 6) : ((s / 8 == 0) = true ∧ (bits .and .i64 s 3 == 2) = false) ∨ (s / 8 == 0) = false := by
  by_cases h : s / 8 = 0
  · have c : s = 0 ∨ s = 1 ∨ s = 3 ∨ s = 4 ∨ s = 5 ∨ s = 7 := by omega
    rcases c with rfl | rfl | rfl | rfl | rfl | rfl <;> decide
  · exact .inr (by simpa using h)
end Go.Proofs.Ybulkbsuy
