/-
  & and | on ints that are not negative.
-/
import Derived.Laws.Bits64
import Derived.WalkKit
namespace Go.Proofs.Qxb6602155a

theorem bits_and_i64_nat (a b : Nat) (ha : a < 9223372036854775808) (hb : b < 9223372036854775808) :
    bits .and .i64 (a : Int) (b : Int) = ((a &&& b : Nat) : Int) := by
  have hx : a &&& b < 2 ^ 63 := Nat.and_lt_two_pow _ (by omega)
  have h1 : (BitVec.ofInt 64 (a : Int)).toNat = a := by
    rw [BitVec.ofInt_natCast, BitVec.toNat_ofNat]; exact Nat.mod_eq_of_lt (by omega)
  have h2 : (BitVec.ofInt 64 (b : Int)).toNat = b := by
    rw [BitVec.ofInt_natCast, BitVec.toNat_ofNat]; exact Nat.mod_eq_of_lt (by omega)
  show IntKind.i64.wrap ((BitVec.ofInt 64 (a : Int) &&& BitVec.ofInt 64 (b : Int)).toNat : Int) = _
  rw [BitVec.toNat_and, h1, h2, IntKind.wrap_i64]
  omega

theorem bits_or_i64_nat (a b : Nat) (ha : a < 9223372036854775808) (hb : b < 9223372036854775808) :
    bits .or .i64 (a : Int) (b : Int) = ((a ||| b : Nat) : Int) := by
  have hx : a ||| b < 2 ^ 63 := Nat.or_lt_two_pow (by omega) (by omega)
  have h1 : (BitVec.ofInt 64 (a : Int)).toNat = a := by
    rw [BitVec.ofInt_natCast, BitVec.toNat_ofNat]; exact Nat.mod_eq_of_lt (by omega)
  have h2 : (BitVec.ofInt 64 (b : Int)).toNat = b := by
    rw [BitVec.ofInt_natCast, BitVec.toNat_ofNat]; exact Nat.mod_eq_of_lt (by omega)
  show IntKind.i64.wrap ((BitVec.ofInt 64 (a : Int) ||| BitVec.ofInt 64 (b : Int)).toNat : Int) = _
  rw [BitVec.toNat_or, h1, h2, IntKind.wrap_i64]
  omega

/-- 'a >> d & 1': the bit. -/
theorem bit_at (a d : Nat) (ha : a < 9223372036854775808) : bits .and .i64 ((a : Int) / 2 ^ d) 1 = if a.testBit d then 1 else 0 := by
  have e : ((a : Int) / 2 ^ d) = ((a / 2 ^ d : Nat) : Int) := by simp
  have hlt : a / 2 ^ d < 9223372036854775808 := Nat.lt_of_le_of_lt (Nat.div_le_self _ _) ha
  rw [e, show (1 : Int) = ((1 : Nat) : Int) from rfl, bits_and_i64_nat _ _ hlt (by omega), Nat.and_one_is_mod]
  rw [Nat.testBit_eq_decide_div_mod_eq]
  by_cases h : a / 2 ^ d % 2 = 1
  · simp [h]
  · have : a / 2 ^ d % 2 = 0 := by omega
    simp [this]

end Go.Proofs.Qxb6602155a
