/-
  The walk of zzLexLess (12).
-/
import Derived.Test.Qxb6602155aRows
import Derived.Test.Qxb6602155aPh
import Derived.Test.Qxb6602155aBi
import Derived.WalkKit
import Derived.WalkSpells
import Derived.WalkLawsBesides
import Derived.Deep.QuietTactic
import Derived.BigQuiet
namespace Go.Proofs.Qxb6602155a
open Go.RowKit

theorem small_mask {m a : Nat} (hm : m ≤ 11) (ha : a < 2 ^ m) : a < 2048 := Nat.lt_of_lt_of_le ha (show 2 ^ m ≤ 2 ^ 11 from Nat.pow_le_pow_right (by omega) hm)

/-- The bits above d, below e. -/
def abv (d : Nat) : Nat → Nat
  | 0 => 0
  | e + 1 => if d < e then abv d e ||| 2 ^ e else abv d e
theorem abv_bit (d e i : Nat) : (abv d e).testBit i = (decide (d < i) && decide (i < e)) := by
  induction e with
  | zero => simp [abv]
  | succ e ih =>
    unfold abv
    split
    · rw [Nat.testBit_or, ih, Nat.testBit_two_pow]
      by_cases h : e = i
      · subst h; simp; omega
      · by_cases h2 : i < e
        · simp [h, h2]; omega
        · simp [h, h2]; omega
    · rw [ih]
      by_cases h2 : i < e
      · simp [h2]; omega
      · simp [h2]; omega
theorem and_abv_zero (a d m : Nat) : (a &&& abv d m) = 0 ↔ ((maskOf m a).drop (d + 1)).any id = false := by
  constructor
  · intro h
    rw [List.any_eq_false]
    intro x hx
    obtain ⟨i, hi⟩ := List.mem_iff_getElem?.1 hx
    rw [List.getElem?_drop] at hi
    by_cases hlt : d + 1 + i < m
    · rw [maskOf_getElem? m a _ hlt] at hi
      have : (a &&& abv d m).testBit (d + 1 + i) = false := by rw [h]; simp
      rw [Nat.testBit_and, abv_bit] at this
      simp at hi
      subst hi
      simp at this ⊢
      cases hq : a.testBit (d + 1 + i)
      · rfl
      · have := this hq (by omega)
        omega
    · rw [List.getElem?_eq_none (by rw [maskOf_length]; omega)] at hi
      cases hi
  · intro h
    apply Nat.eq_of_testBit_eq
    intro i
    rw [Nat.testBit_and, abv_bit, Nat.zero_testBit]
    by_cases h1 : d < i
    · by_cases h2 : i < m
      · rw [List.any_eq_false] at h
        have hm : a.testBit i ∈ (maskOf m a).drop (d + 1) := by
          apply List.mem_iff_getElem?.2
          refine ⟨i - (d + 1), ?_⟩
          rw [List.getElem?_drop, show d + 1 + (i - (d + 1)) = i by omega, maskOf_getElem? m a i h2]
        have := h _ hm
        simp at this
        simp [this]
      · simp [h2]
    · simp [h1]

end Go.Proofs.Qxb6602155a
