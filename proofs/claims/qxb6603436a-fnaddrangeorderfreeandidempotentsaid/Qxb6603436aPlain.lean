/-
  THE PLAIN LAWS: 'or' on words is associative, commutative, idempotent, and holds what it was given.
-/
import Derived.Test.Qxb6603436aZZ
namespace Go.Proofs.Qxb6603436a
open Go.RowKit

theorem orW_eq (a b : Int) : orW a b = ((BitVec.ofInt 64 a ||| BitVec.ofInt 64 b).toNat : Int) := by
  have h := (BitVec.ofInt 64 a ||| BitVec.ofInt 64 b).isLt
  show IntKind.u64.wrap ((BitVec.ofInt 64 a ||| BitVec.ofInt 64 b).toNat : Int) = _
  rw [IntKind.wrap_u64]
  omega
theorem ofInt_orW (a b : Int) : BitVec.ofInt 64 (orW a b) = BitVec.ofInt 64 a ||| BitVec.ofInt 64 b := by
  rw [orW_eq, BitVec.ofInt_natCast]
  generalize BitVec.ofInt 64 a ||| BitVec.ofInt 64 b = x
  simp
theorem orW_swap (s m n : Int) : orW (orW s m) n = orW (orW s n) m := by
  rw [orW_eq (orW s m), orW_eq (orW s n), ofInt_orW, ofInt_orW, BitVec.or_assoc, BitVec.or_assoc, BitVec.or_comm (BitVec.ofInt 64 m)]
theorem orW_again (s m : Int) : orW (orW s m) m = orW s m := by
  rw [orW_eq (orW s m), ofInt_orW, BitVec.or_assoc, BitVec.or_self, ← orW_eq]
theorem and_orW (s m : Int) (h0 : 0 ≤ s) (h1 : s < 18446744073709551616) : bits .and .u64 (orW s m) s = s := by
  have e : BitVec.ofInt 64 (orW s m) &&& BitVec.ofInt 64 s = BitVec.ofInt 64 s := by
    rw [ofInt_orW]
    apply BitVec.eq_of_getLsbD_eq
    intro i hi
    simp
    exact fun h => .inl h
  show IntKind.u64.wrap ((BitVec.ofInt 64 (orW s m) &&& BitVec.ofInt 64 s).toNat : Int) = _
  rw [e, IntKind.wrap_u64, BitVec.toNat_ofInt]
  omega
theorem and_self (s : Int) (h0 : 0 ≤ s) (h1 : s < 18446744073709551616) : bits .and .u64 s s = s := by
  show IntKind.u64.wrap ((BitVec.ofInt 64 s &&& BitVec.ofInt 64 s).toNat : Int) = _
  rw [BitVec.and_self, IntKind.wrap_u64, BitVec.toNat_ofInt]
  omega

theorem add_swap (a b c d : Nat) (s : Nat → Int) (j : Nat) : add c d (add a b s) j = add a b (add c d s) j := by
  unfold add wordAt
  by_cases h1 : a / 64 ≤ j ∧ j < b / 64 + 1 <;> by_cases h2 : c / 64 ≤ j ∧ j < d / 64 + 1
  · rw [if_pos h2, if_pos h1, if_pos h1, if_pos h2, orW_swap]
  · rw [if_neg h2, if_pos h1, if_pos h1, if_neg h2]
  · rw [if_pos h2, if_neg h1, if_neg h1, if_pos h2]
  · rw [if_neg h2, if_neg h1, if_neg h1, if_neg h2]
theorem add_again (a b : Nat) (s : Nat → Int) (j : Nat) : add a b (add a b s) j = add a b s j := by
  unfold add wordAt
  by_cases h1 : a / 64 ≤ j ∧ j < b / 64 + 1
  · rw [if_pos h1, if_pos h1, orW_again]
  · rw [if_neg h1, if_neg h1]
theorem add_holds (a b : Nat) (s : Nat → Int) (j : Nat) (h0 : 0 ≤ s j) (h1 : s j < 18446744073709551616) : bits .and .u64 (add a b s j) (s j) = s j := by
  unfold add wordAt
  by_cases h : a / 64 ≤ j ∧ j < b / 64 + 1
  · rw [if_pos h]; exact and_orW _ _ h0 h1
  · rw [if_neg h]; exact and_self _ h0 h1
end Go.Proofs.Qxb6603436a
