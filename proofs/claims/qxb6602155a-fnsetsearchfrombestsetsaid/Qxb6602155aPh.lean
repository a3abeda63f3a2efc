/-
  Masks as numbers: plain.
-/
import Derived.Test.Qxb6602155aPg
namespace Go.Proofs.Qxb6602155a

def maskOf (m k : Nat) : List Bool := (List.range m).map (fun i => k.testBit i)
theorem maskOf_length (m k : Nat) : (maskOf m k).length = m := by simp [maskOf]
theorem maskOf_getElem? (m k i : Nat) (h : i < m) : (maskOf m k)[i]? = some (k.testBit i) := by simp [maskOf, h]

/-- lex is settled at the first place where the two differ. -/
theorem lex_at : ∀ (d : Nat) (a b : List Bool) (x y : Bool), a[d]? = some x → b[d]? = some y → x ≠ y → (∀ j, j < d → a[j]? = b[j]?) →
    lex a b = if x = true then (b.drop (d + 1)).any id else !((a.drop (d + 1)).any id)
  | _, [], _, _, _, h, _, _, _ => by simp at h
  | _, _ :: _, [], _, _, _, h, _, _ => by simp at h
  | 0, p :: a, q :: b, x, y, h1, h2, hne, _ => by
    simp at h1 h2
    subst h1 h2
    simp only [lex, if_neg hne]
    simp
  | d + 1, p :: a, q :: b, x, y, h1, h2, hne, hall => by
    have h0 := hall 0 (by omega)
    simp at h0
    subst h0
    have := lex_at d a b x y (by simpa using h1) (by simpa using h2) hne (fun j hj => by simpa using hall (j + 1) (by omega))
    simp only [lex, if_true, this, List.drop_succ_cons]

theorem lex_refl : ∀ a : List Bool, lex a a = false
  | [] => rfl
  | x :: a => by simp [lex, lex_refl a]

/-- Every mask is a number's. -/
theorem mask_number : ∀ (m : Nat) (b : List Bool), b.length = m → ∃ k, k < 2 ^ m ∧ maskOf m k = b
  | 0, b, h => ⟨0, by simp, by simp [maskOf, List.eq_nil_of_length_eq_zero h]⟩
  | m + 1, x :: b, h => by
    obtain ⟨k, hk, hb⟩ := mask_number m b (by simpa using h)
    refine ⟨2 * k + (if x then 1 else 0), ?_, ?_⟩
    · rw [Nat.pow_succ]; split <;> omega
    · have e0 : (2 * k + (if x then 1 else 0)).testBit 0 = x := by
        rw [Nat.testBit_zero]; cases x <;> simp <;> omega
      have e1 : ∀ i, (2 * k + (if x then 1 else 0)).testBit (i + 1) = k.testBit i := fun i => by
        rw [Nat.testBit_succ]; congr 1; cases x <;> simp <;> omega
      unfold maskOf at *
      rw [List.range_succ_eq_map, List.map_cons, e0, List.map_map]
      congr 1
      rw [← hb]
      exact List.map_congr_left fun i _ => e1 i
theorem mask_inj {m j k : Nat} (hj : j < 2 ^ m) (hk : k < 2 ^ m) (h : maskOf m j = maskOf m k) : j = k := by
  apply Nat.eq_of_testBit_eq
  intro i
  by_cases hi : i < m
  · have := congrArg (fun l : List Bool => l[i]?) h
    simp only [maskOf_getElem? m _ i hi] at this
    simpa using this
  · rw [Nat.testBit_lt_two_pow (Nat.lt_of_lt_of_le hj (Nat.pow_le_pow_right (by omega) (by omega))), Nat.testBit_lt_two_pow (Nat.lt_of_lt_of_le hk (Nat.pow_le_pow_right (by omega) (by omega)))]

/-- The brute force's state after the numbers below M. -/
def Brute (lo hi : Int) (least : Bool) (val : List Bool → Int) (m M : Nat) (a : Option Nat) : Prop :=
  (a = none ∧ ∀ k, k < M → ¬ feas lo hi val (maskOf m k)) ∨
  ∃ c, a = some c ∧ c < M ∧ feas lo hi val (maskOf m c) ∧ (∀ k, k < M → feas lo hi val (maskOf m k) → ¬ beats least val (maskOf m k) (maskOf m c)) ∧
    (∀ k, k < M → feas lo hi val (maskOf m k) → val (maskOf m k) = val (maskOf m c) → c = k ∨ lex (maskOf m c) (maskOf m k) = true)

section
variable {lo hi : Int} {least : Bool} {val : List Bool → Int} {m : Nat}

theorem Brute.skip {M : Nat} {a : Option Nat} (h : Brute lo hi least val m M a) (hM : ¬ feas lo hi val (maskOf m M)) : Brute lo hi least val m (M + 1) a := by
  rcases h with ⟨rfl, h⟩ | ⟨c, rfl, h1, h2, h3, h4⟩
  · exact .inl ⟨rfl, fun k hk => by by_cases e : k = M; (subst e; exact hM); exact h k (by omega)⟩
  · exact .inr ⟨c, rfl, by omega, h2, fun k hk hf => by by_cases e : k = M; (subst e; exact absurd hf hM); exact h3 k (by omega) hf, fun k hk hf hv => by by_cases e : k = M; (subst e; exact absurd hf hM); exact h4 k (by omega) hf hv⟩
theorem Brute.first {M : Nat} (h : Brute lo hi least val m M none) (hM : feas lo hi val (maskOf m M)) : Brute lo hi least val m (M + 1) (some M) := by
  rcases h with ⟨_, h⟩ | ⟨c, h, _⟩
  · refine .inr ⟨M, rfl, by omega, hM, fun k hk hf => ?_, fun k hk hf _ => ?_⟩
    · by_cases e : k = M
      · subst e; unfold beats; omega
      · exact absurd hf (h k (by omega))
    · by_cases e : k = M
      · exact .inl e.symm
      · exact absurd hf (h k (by omega))
  · cases h
theorem Brute.better {M c : Nat} (h : Brute lo hi least val m M (some c)) (hM : feas lo hi val (maskOf m M))
    (hb : beats least val (maskOf m M) (maskOf m c) ∨ (val (maskOf m M) = val (maskOf m c) ∧ lex (maskOf m M) (maskOf m c) = true)) : Brute lo hi least val m (M + 1) (some M) := by
  rcases h with ⟨h, _⟩ | ⟨c', h, h1, h2, h3, h4⟩
  · cases h
  · cases h
    refine .inr ⟨M, rfl, by omega, hM, fun k hk hf hkb => ?_, fun k hk hf hv => ?_⟩
    · by_cases e : k = M
      · subst e; unfold beats at hkb; omega
      · refine h3 k (by omega) hf ?_
        unfold beats at *
        rcases hb with hb | hb
        · cases least <;> simp_all <;> omega
        · cases least <;> simp_all
    · by_cases e : k = M
      · exact .inl e.symm
      · right
        rcases hb with hb | ⟨hb1, hb2⟩
        · exact absurd (show beats least val (maskOf m k) (maskOf m c) by unfold beats at *; cases least <;> simp_all) (h3 k (by omega) hf)
        · rcases h4 k (by omega) hf (by omega) with e' | e'
          · subst e'; exact hb2
          · exact lex_trans _ _ _ (by simp [maskOf_length]) (by simp [maskOf_length]) hb2 e'
theorem Brute.worse {M c : Nat} (h : Brute lo hi least val m M (some c))
    (hb : ¬ beats least val (maskOf m M) (maskOf m c)) (hn : val (maskOf m M) = val (maskOf m c) → lex (maskOf m M) (maskOf m c) = false) (hMm : M < 2 ^ m) : Brute lo hi least val m (M + 1) (some c) := by
  rcases h with ⟨h, _⟩ | ⟨c', h, h1, h2, h3, h4⟩
  · cases h
  · cases h
    refine .inr ⟨c, rfl, by omega, h2, fun k hk hf => ?_, fun k hk hf hv => ?_⟩
    · by_cases e : k = M
      · subst e; exact hb
      · exact h3 k (by omega) hf
    · by_cases e : k = M
      · subst e
        rcases lex_total (maskOf m c) (maskOf m k) (by simp [maskOf_length]) with t | t | t
        · exact .inl (mask_inj (by omega) hMm t)
        · exact .inr t
        · rw [hn hv] at t; cases t
      · exact h4 k (by omega) hf hv

/-- At the end: the best of all masks. -/
theorem Brute.best {c : Nat} (h : Brute lo hi least val m (2 ^ m) (some c)) : Best lo hi least val (allM m) (maskOf m c) := by
  rcases h with ⟨h, _⟩ | ⟨c', h, h1, h2, h3, h4⟩
  · cases h
  · cases h
    refine ⟨allM_mem.2 (maskOf_length _ _), h2, fun b hb hf => ?_, fun b hb hf hv => ?_⟩
    · obtain ⟨k, hk, rfl⟩ := mask_number m b (allM_mem.1 hb)
      exact h3 k hk hf
    · obtain ⟨k, hk, rfl⟩ := mask_number m b (allM_mem.1 hb)
      rcases h4 k hk hf hv with e | e
      · exact .inl (by rw [e])
      · exact .inr e
theorem Brute.none {b : List Bool} (h : Brute lo hi least val m (2 ^ m) none) (hb : b.length = m) : ¬ feas lo hi val b := by
  rcases h with ⟨_, h⟩ | ⟨c, h, _⟩
  · obtain ⟨k, hk, rfl⟩ := mask_number m b hb
    exact h k hk
  · cases h
end
end Go.Proofs.Qxb6602155a
