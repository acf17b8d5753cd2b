/-
  PLAIN FACTS ON int64's BITS (no Go text in sight).
-/
import Derived.Laws.Entries
namespace Go.Proofs.Ybulkbsuy

theorem wrap_toInt (v : BitVec 64) : IntKind.i64.wrap (v.toNat : Int) = v.toInt := by
  have h := v.isLt
  simp only [IntKind.wrap, IntKind.bits, IntKind.signed, BitVec.toInt_eq_toNat_cond]
  simp only [Bool.true_and, decide_eq_true_eq, ge_iff_le]
  split <;> split <;> omega

theorem toInt_of (a : Int) (h1 : -9223372036854775808 ≤ a) (h2 : a ≤ 9223372036854775807) : (BitVec.ofInt 64 a).toInt = a := by
  rw [BitVec.toInt_ofInt]
  exact Int.bmod_eq_of_le (by omega) (by omega)

theorem not_i64 (a : Int) (h1 : -9223372036854775808 ≤ a) (h2 : a ≤ 9223372036854775807) : bits .xor .i64 (-1) a = -1 - a := by
  show IntKind.i64.wrap ((BitVec.ofInt 64 (-1) ^^^ BitVec.ofInt 64 a).toNat : Int) = _
  have e : BitVec.ofInt 64 (-1) = BitVec.allOnes 64 := by decide
  rw [wrap_toInt, e, BitVec.allOnes_xor, BitVec.toInt_eq_toNat_cond, BitVec.toNat_not, BitVec.toNat_ofInt]
  split <;> omega
end Go.Proofs.Ybulkbsuy
