/-
  THE PLAIN LAW under the two fillFor statements: 'x & 511' on an int64 is x's residue by 512; and what the two laws reckon from it.
-/
import Derived.Laws.Entries
import Derived.RowKit
namespace Go.Proofs.Qxb6612521aMods.Fill
open Go.RowKit

theorem and511 (n : Int) : bits .and .i64 n 511 = n % 512 := by
  have e : (BitVec.ofInt 64 n &&& BitVec.ofInt 64 511).toNat = (BitVec.ofInt 64 n).toNat % 512 := by
    rw [BitVec.toNat_and]
    have : (BitVec.ofInt 64 511).toNat = 2 ^ 9 - 1 := by decide
    rw [this, Nat.and_two_pow_sub_one_eq_mod]
  have e2 : ((BitVec.ofInt 64 n).toNat : Int) = n % 18446744073709551616 := by
    rw [BitVec.toNat_ofInt]; simp; omega
  show IntKind.i64.wrap ((BitVec.ofInt 64 n &&& BitVec.ofInt 64 511).toNat : Int) = n % 512
  rw [e]
  have e3 : (((BitVec.ofInt 64 n).toNat % 512 : Nat) : Int) = n % 512 := by
    rw [Int.natCast_emod, e2]; omega
  rw [e3]
  simp [IntKind.wrap, IntKind.bits, IntKind.signed]
  omega

theorem fill_eq (a : Int) : bits .and .i64 (wrap64 (-a)) 511 = (-a) % 512 := by
  rw [and511]; unfold wrap64; omega

theorem tmod_ways (a : Int) : (a.tmod 512 < 0 ∧ -512 < a.tmod 512 ∧ (-a) % 512 = -(a.tmod 512)) ∨ (a.tmod 512 = 0 ∧ (-a) % 512 = 0) ∨ (0 < a.tmod 512 ∧ a.tmod 512 < 512 ∧ (-a) % 512 = 512 - a.tmod 512) := by
  rcases Int.le_total 0 a with h | h
  · rw [Int.tmod_eq_emod_of_nonneg h]; omega
  · obtain ⟨b, rfl⟩ : ∃ b, a = -b := ⟨-a, by omega⟩
    rw [Int.neg_tmod, Int.tmod_eq_emod_of_nonneg (by omega)]; omega

end Go.Proofs.Qxb6612521aMods.Fill
