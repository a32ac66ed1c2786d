/-
  The bit operations of package time on small numbers. No walk here.
-/
import Derived.Test.YbulkeiymRows
import Derived.WalkKit
namespace Go.Proofs.Ybulkeiym
open Go.RowKit

theorem wrap_u64 {n : Nat} (h : n < 18446744073709551616) : IntKind.u64.wrap (n : Int) = n := by
  simp [IntKind.wrap, IntKind.signed, IntKind.bits]
  omega

theorem ofInt_nat (n : Nat) : BitVec.ofInt 64 (n : Int) = BitVec.ofNat 64 n := by
  exact BitVec.ofInt_natCast 64 n

theorem bits_and_nat (a b : Nat) (ha : a < 18446744073709551616) (hb : b < 18446744073709551616) : bits .and .u64 (a : Int) (b : Int) = ((a &&& b : Nat) : Int) := by
  have e : (BitVec.ofInt 64 (a : Int) &&& BitVec.ofInt 64 (b : Int)).toNat = a &&& b := by
    rw [ofInt_nat, ofInt_nat]
    simp [BitVec.toNat_and, Nat.mod_eq_of_lt ha, Nat.mod_eq_of_lt hb]
  have hle : a &&& b ≤ a := Nat.and_le_left
  show IntKind.u64.wrap (((BitVec.ofInt 64 (a : Int) &&& BitVec.ofInt 64 (b : Int)).toNat : Nat) : Int) = _
  rw [e]
  exact wrap_u64 (by omega)

theorem bits_or_nat (a b : Nat) (ha : a < 18446744073709551616) (hb : b < 18446744073709551616) : bits .or .u64 (a : Int) (b : Int) = ((a ||| b : Nat) : Int) := by
  have e : (BitVec.ofInt 64 (a : Int) ||| BitVec.ofInt 64 (b : Int)).toNat = a ||| b := by
    rw [ofInt_nat, ofInt_nat]
    simp [BitVec.toNat_or, Nat.mod_eq_of_lt ha, Nat.mod_eq_of_lt hb]
  have hlt : a ||| b < 2 ^ 64 := Nat.or_lt_two_pow (by omega) (by omega)
  show IntKind.u64.wrap (((BitVec.ofInt 64 (a : Int) ||| BitVec.ofInt 64 (b : Int)).toNat : Nat) : Int) = _
  rw [e]
  exact wrap_u64 (by omega)

theorem and_nano (ns : Int) (h0 : 0 ≤ ns) (h1 : ns < 1000000000) : bits .and .u64 ns 1073741823 = ns := by
  obtain ⟨n, rfl⟩ := Int.eq_ofNat_of_zero_le h0
  have := bits_and_nat n 1073741823 (by omega) (by omega)
  have e : n &&& 1073741823 = n := by
    rw [show 1073741823 = 2 ^ 30 - 1 from rfl, Nat.and_two_pow_sub_one_eq_mod]
    exact Nat.mod_eq_of_lt (by omega)
  rw [e] at this
  exact this

theorem and_mono (ns : Int) (h0 : 0 ≤ ns) (h1 : ns < 1000000000) : (bits .and .u64 ns 9223372036854775808 != 0) = false := by
  obtain ⟨n, rfl⟩ := Int.eq_ofNat_of_zero_le h0
  have := bits_and_nat n 9223372036854775808 (by omega) (by omega)
  have e : n &&& 9223372036854775808 = 0 := by
    apply Nat.eq_of_testBit_eq
    intro i
    rw [Nat.testBit_and, show 9223372036854775808 = 2 ^ 63 from rfl, Nat.testBit_two_pow, Nat.zero_testBit]
    by_cases hi : 63 = i
    · subst hi
      rw [Nat.testBit_lt_two_pow (by omega)]
      rfl
    · simp [hi]
  rw [e] at this
  have h2 : bits .and .u64 (n : Int) 9223372036854775808 = 0 := this
  rw [h2]
  rfl

theorem or_zero (ns : Int) (h0 : 0 ≤ ns) (h1 : ns < 1000000000) : bits .or .u64 0 ns = ns := by
  obtain ⟨n, rfl⟩ := Int.eq_ofNat_of_zero_le h0
  have := bits_or_nat 0 n (by omega) (by omega)
  rw [Nat.zero_or] at this
  exact this

theorem and_and (a b : Int) (h0 : 0 ≤ a) (h1 : a < 1000000000) (h2 : 0 ≤ b) (h3 : b < 1000000000) : (bits .and .u64 (bits .and .u64 a b) 9223372036854775808 != 0) = false := by
  obtain ⟨n, rfl⟩ := Int.eq_ofNat_of_zero_le h0
  obtain ⟨m, rfl⟩ := Int.eq_ofNat_of_zero_le h2
  rw [bits_and_nat n m (by omega) (by omega)]
  have hle : n &&& m ≤ n := Nat.and_le_left
  exact and_mono _ (by omega) (by omega)

end Go.Proofs.Ybulkeiym
