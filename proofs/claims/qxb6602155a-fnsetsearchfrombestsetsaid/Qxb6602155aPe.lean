/-
  The order in which the search meets the sets; the optimum: plain.
-/
import Derived.Test.Qxb6602155aPd
namespace Go.Proofs.Qxb6602155a

/-- The order of the law's zzLexLess, on masks of one length. -/
def lex : List Bool → List Bool → Bool
  | x :: a, y :: b => if x = y then lex a b else if x then b.any id else !(a.any id)
  | _, _ => false

theorem lex_to_none : ∀ (a b : List Bool), b.any id = false → lex a b = false
  | [], _, _ => by simp [lex]
  | _ :: _, [], _ => by simp [lex]
  | x :: a, y :: b, h => by
    simp only [List.any_cons, id, Bool.or_eq_false_iff] at h
    obtain ⟨rfl, h2⟩ := h
    cases x
    · simp [lex, lex_to_none a b h2]
    · simp only [lex]; simpa using h2
theorem lex_from_none : ∀ (a b : List Bool), a.length = b.length → a.any id = false → b.any id = true → lex a b = true
  | [], [], _, _, h => by simp at h
  | x :: a, y :: b, hl, h, h2 => by
    simp only [List.any_cons, id, Bool.or_eq_false_iff] at h
    obtain ⟨rfl, h3⟩ := h
    cases y
    · simp only [List.any_cons, id, Bool.false_or] at h2
      simp [lex, lex_from_none a b (by simpa using hl) h3 h2]
    · simp only [lex, h3]; simp
theorem none_unique : ∀ (a b : List Bool), a.length = b.length → a.any id = false → b.any id = false → a = b
  | [], [], _, _, _ => rfl
  | x :: a, y :: b, hl, h1, h2 => by
    simp only [List.any_cons, id, Bool.or_eq_false_iff] at h1 h2
    rw [h1.1, h2.1, none_unique a b (by simpa using hl) h1.2 h2.2]
theorem lex_total : ∀ (a b : List Bool), a.length = b.length → a = b ∨ lex a b = true ∨ lex b a = true
  | [], [], _ => .inl rfl
  | x :: a, y :: b, hl => by
    by_cases h : x = y
    · subst h
      rcases lex_total a b (by simpa using hl) with h | h | h
      · exact .inl (by rw [h])
      · exact .inr (.inl (by simpa [lex] using h))
      · exact .inr (.inr (by simpa [lex] using h))
    · right
      cases x <;> cases y <;> simp at h
      · cases ha : a.any id <;> simp_all [lex]
      · cases hb : b.any id <;> simp_all [lex]
theorem lex_asymm : ∀ (a b : List Bool), lex a b = true → lex b a = false
  | [], _, h => by simp [lex] at h
  | _ :: _, [], h => by simp [lex] at h
  | x :: a, y :: b, h => by
    by_cases e : x = y
    · subst e
      simp only [lex, if_true] at h ⊢
      exact lex_asymm a b h
    · cases x <;> cases y <;> simp at e
      · simp_all [lex]
      · simp_all [lex]
theorem lex_trans : ∀ (a b c : List Bool), a.length = b.length → b.length = c.length → lex a b = true → lex b c = true → lex a c = true
  | [], _, _, _, _, h, _ => by simp [lex] at h
  | _ :: _, [], _, h, _, _, _ => by simp at h
  | _ :: _, _ :: _, [], _, h, _, _ => by simp at h
  | x :: a, y :: b, z :: c, h1, h2, hab, hbc => by
    have l1 : a.length = b.length := by simpa using h1
    have l2 : b.length = c.length := by simpa using h2
    cases x <;> cases y <;> cases z
    · simp only [lex, if_true] at *; exact lex_trans a b c l1 l2 hab hbc
    · simp only [lex, if_true] at *
      cases hb : b.any id
      · rw [lex_to_none a b hb] at hab; cases hab
      · simp [hb] at hbc
    · simp only [lex] at *
      simp at hab hbc
      simp only [if_true]
      exact lex_from_none a c (by omega) (by simpa using hab) (by simpa using hbc)
    · simp only [lex] at *
      simpa using hab
    · simp only [lex] at *
      simp only [if_true] at hbc
      cases hc : c.any id
      · rw [lex_to_none b c hc] at hbc; cases hbc
      · simp
    · simp only [lex] at *
      cases hb : b.any id
      · rw [hb] at hab; simp at hab
      · rw [hb] at hbc; simp at hbc
    · simp only [lex] at *
      simpa using hbc
    · simp only [lex, if_true] at *; exact lex_trans a b c l1 l2 hab hbc

end Go.Proofs.Qxb6602155a
