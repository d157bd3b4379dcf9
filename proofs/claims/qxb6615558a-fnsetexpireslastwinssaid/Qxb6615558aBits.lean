/-
  PLAIN FACTS ON BITS that 'time.Time.Add' wants.
-/
import Derived.Laws.BitsAllLaws
import Derived.WalkKit
namespace Go.Proofs.Qxb6615558a
open Go.RowKit

theorem and_top (n : Int) (h0 : 0 ≤ n) (h1 : n < 1073741824) : bits .and .u64 n 9223372036854775808 = 0 := by
  rw [u64_and n _ h0 (by omega) (by omega) (by omega)]
  have e : n.toNat &&& (9223372036854775808 : Int).toNat = 0 := by
    show n.toNat &&& 2 ^ 63 = 0
    refine Nat.eq_of_testBit_eq fun i => ?_
    rw [Nat.testBit_and, Nat.testBit_two_pow]
    by_cases e : 63 = i
    · subst e
      rw [Nat.testBit_lt_two_pow (by omega)]
      simp
    · simp [e]
  rw [e]; rfl

theorem mono_no (n : Int) (h0 : 0 ≤ n) (h1 : n < 1073741824) : (bits .and .u64 n 9223372036854775808 != 0) = false := by
  rw [and_top n h0 h1]; rfl

theorem wall_of (n : Int) (h0 : 0 ≤ n) (h1 : n < 1073741824) : bits .or .u64 (bits .andNot .u64 0 1073741823) n = n := by
  have e : bits .andNot .u64 0 1073741823 = 0 := by
    rw [u64_andNot 0 _ (by omega) (by omega) (by omega) (by omega)]
    simp
  rw [e, u64_or 0 n (by omega) (by omega) h0 (by omega)]
  simp
  omega

theorem nsec_none : bits .and .u64 0 1073741823 = 0 := by
  rw [u64_and 0 _ (by omega) (by omega) (by omega) (by omega)]
  simp
end Go.Proofs.Qxb6615558a
