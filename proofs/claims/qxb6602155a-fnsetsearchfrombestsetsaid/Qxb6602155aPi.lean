/-
  The brute force's sums so far: plain.
-/
import Derived.Test.Qxb6602155aPh
namespace Go.Proofs.Qxb6602155a

/-- The sum of the items below b that the mask M picks. -/
def part (l : List It) (sum : Int) (M b : Nat) : Int := sum + tot (pick (l.take b) (maskOf b M))
theorem part_zero (l : List It) (sum : Int) (M : Nat) : part l sum M 0 = sum := by simp [part, maskOf, pick, tot]
theorem part_all (l : List It) (sum : Int) (M : Nat) : part l sum M l.length = valOf l sum (maskOf l.length M) := by simp [part, valOf]

theorem maskOf_succ (b M : Nat) : maskOf (b + 1) M = maskOf b M ++ [M.testBit b] := by
  unfold maskOf
  rw [List.range_succ, List.map_append]
  rfl
theorem take_succ' {l : List It} {b : Nat} (_hb : b < l.length) (x : It) (hx : l[b]? = some x) : l.take (b + 1) = l.take b ++ [x] := by
  rw [List.take_add_one, hx]; rfl
theorem pick_succ {l : List It} {b M : Nat} (hb : b < l.length) (x : It) (hx : l[b]? = some x) :
    pick (l.take (b + 1)) (maskOf (b + 1) M) = pick (l.take b) (maskOf b M) ++ (if M.testBit b then [x] else []) := by
  rw [take_succ' hb x hx, maskOf_succ, pick_append _ _ _ _ (by rw [maskOf_length, List.length_take]; omega)]
  cases M.testBit b <;> simp [pick]
theorem part_yes {l : List It} {sum : Int} {b M : Nat} (hb : b < l.length) {x : It} (hx : l[b]? = some x) (h : M.testBit b = true) : part l sum M (b + 1) = part l sum M b + x.size := by
  unfold part
  rw [pick_succ hb x hx, h, tot_append]
  simp [tot]; omega
theorem part_no {l : List It} {sum : Int} {b M : Nat} (hb : b < l.length) (h : M.testBit b = false) : part l sum M (b + 1) = part l sum M b := by
  unfold part
  obtain ⟨x, hx⟩ : ∃ x, l[b]? = some x := ⟨l[b], by simp [hb]⟩
  rw [pick_succ hb x hx, h, tot_append]
  simp [tot]
theorem part_le {l : List It} {sum : Int} {M : Nat} (hsz : ∀ x ∈ l, 0 ≤ x.size) : ∀ {b c : Nat}, b ≤ c → c ≤ l.length → part l sum M b ≤ part l sum M c := by
  intro b c hbc
  induction c with
  | zero => intro _; obtain rfl : b = 0 := by omega
            exact Int.le_refl _
  | succ c ih =>
    intro hc
    by_cases e : b = c + 1
    · subst e; exact Int.le_refl _
    · have h1 := ih (by omega) (by omega)
      obtain ⟨x, hx⟩ : ∃ x, l[c]? = some x := ⟨l[c], by simp⟩
      cases hq : M.testBit c with
      | true =>
        rw [part_yes (by omega) hx hq]
        have := hsz x (List.mem_of_getElem? hx)
        omega
      | false => rw [part_no (by omega) hq]; exact h1
theorem part_ge {l : List It} {sum : Int} {M : Nat} (hsz : ∀ x ∈ l, 0 ≤ x.size) {b : Nat} (hb : b ≤ l.length) : sum ≤ part l sum M b := by
  have := part_le (sum := sum) (M := M) hsz (Nat.zero_le b) hb
  rwa [part_zero] at this

/-- How the inner loop stands. -/
def Inner (l : List It) (sum hi : Int) (M b : Nat) (ok : Bool) (T : Int) : Prop :=
  (ok = true ∧ T = part l sum M b ∧ T ≤ hi) ∨ (ok = false ∧ hi < valOf l sum (maskOf l.length M))
theorem Inner.start {l : List It} {sum hi : Int} {M : Nat} (hsz : ∀ x ∈ l, 0 ≤ x.size) : Inner l sum hi M 0 (decide (sum ≤ hi)) sum := by
  by_cases h : sum ≤ hi
  · exact .inl ⟨by simpa using h, (part_zero ..).symm, h⟩
  · refine .inr ⟨by simpa using h, ?_⟩
    have := part_ge (sum := sum) (M := M) hsz (Nat.le_refl _)
    rw [part_all] at this
    omega
theorem Inner.yes {l : List It} {sum hi : Int} {M b : Nat} {T : Int} (h : Inner l sum hi M b true T) (hb : b < l.length) {x : It} (hx : l[b]? = some x) (hbit : M.testBit b = true) (hle : x.size ≤ hi - T) : Inner l sum hi M (b + 1) true (T + x.size) := by
  rcases h with ⟨_, rfl, _⟩ | ⟨h, _⟩
  · exact .inl ⟨rfl, (part_yes hb hx hbit).symm, by omega⟩
  · cases h
theorem Inner.over {l : List It} {sum hi : Int} {M b : Nat} {T : Int} (h : Inner l sum hi M b true T) (hb : b < l.length) {x : It} (hx : l[b]? = some x) (hbit : M.testBit b = true) (hle : ¬ x.size ≤ hi - T) (hsz : ∀ x ∈ l, 0 ≤ x.size) (T' : Int) (b' : Nat) : Inner l sum hi M b' false T' := by
  rcases h with ⟨_, rfl, _⟩ | ⟨h, _⟩
  · refine .inr ⟨rfl, ?_⟩
    have := part_le (sum := sum) (M := M) hsz (show b + 1 ≤ l.length by omega) (Nat.le_refl _)
    rw [part_yes hb hx hbit, part_all] at this
    omega
  · cases h
theorem Inner.no {l : List It} {sum hi : Int} {M b : Nat} {T : Int} (h : Inner l sum hi M b true T) (hb : b < l.length) (hbit : M.testBit b = false) : Inner l sum hi M (b + 1) true T := by
  rcases h with ⟨_, rfl, h⟩ | ⟨h, _⟩
  · exact .inl ⟨rfl, (part_no hb hbit).symm, h⟩
  · cases h
theorem Inner.done {l : List It} {sum hi : Int} {M : Nat} {T : Int} (h : Inner l sum hi M l.length true T) : T = valOf l sum (maskOf l.length M) ∧ T ≤ hi := by
  rcases h with ⟨_, rfl, h⟩ | ⟨h, _⟩
  · exact ⟨part_all .., h⟩
  · cases h
theorem Inner.bad {l : List It} {sum hi : Int} {M b : Nat} {T : Int} (h : Inner l sum hi M b false T) : hi < valOf l sum (maskOf l.length M) := by
  rcases h with ⟨h, _⟩ | ⟨_, h⟩
  · cases h
  · exact h
theorem Inner.bound {l : List It} {sum hi : Int} {M b : Nat} {T : Int} (h : Inner l sum hi M b true T) (hsz : ∀ x ∈ l, 0 ≤ x.size) (hb : b ≤ l.length) : sum ≤ T ∧ T ≤ hi := by
  rcases h with ⟨_, rfl, h⟩ | ⟨h, _⟩
  · exact ⟨part_ge hsz hb, h⟩
  · cases h

/-- The picked items below b are the first of all picked. -/
theorem pick_prefix {l : List It} {M b : Nat} (hb : b ≤ l.length) : ∃ r, pick l (maskOf l.length M) = pick (l.take b) (maskOf b M) ++ r := by
  have e : maskOf l.length M = maskOf b M ++ (maskOf l.length M).drop b := by
    have : (maskOf l.length M).take b = maskOf b M := by
      apply List.ext_getElem?
      intro j
      by_cases hj : j < b
      · rw [List.getElem?_take, if_pos hj, maskOf_getElem? _ _ _ (by omega), maskOf_getElem? _ _ _ hj]
      · rw [List.getElem?_take, if_neg hj, List.getElem?_eq_none (by rw [maskOf_length]; omega)]
    rw [← this, List.take_append_drop]
  refine ⟨pick (l.drop b) ((maskOf l.length M).drop b), ?_⟩
  conv => lhs; rw [e]; arg 1; rw [← List.take_append_drop b l]
  exact pick_append _ _ _ _ (by rw [maskOf_length, List.length_take]; omega)
/-- How many are picked below b. -/
def cntOf (l : List It) (M b : Nat) : Nat := (pick (l.take b) (maskOf b M)).length
theorem cnt_zero (l : List It) (M : Nat) : cntOf l M 0 = 0 := by simp [cntOf, maskOf, pick]
theorem cnt_yes {l : List It} {M b : Nat} (hb : b < l.length) (h : M.testBit b = true) : cntOf l M (b + 1) = cntOf l M b + 1 := by
  unfold cntOf
  obtain ⟨x, hx⟩ : ∃ x, l[b]? = some x := ⟨l[b], by simp [hb]⟩
  rw [pick_succ hb x hx, h]; simp
theorem cnt_no {l : List It} {M b : Nat} (hb : b < l.length) (h : M.testBit b = false) : cntOf l M (b + 1) = cntOf l M b := by
  unfold cntOf
  obtain ⟨x, hx⟩ : ∃ x, l[b]? = some x := ⟨l[b], by simp [hb]⟩
  rw [pick_succ hb x hx, h]; simp
theorem cnt_all (l : List It) (M : Nat) : cntOf l M l.length = (pick l (maskOf l.length M)).length := by simp [cntOf]
theorem cnt_le {l : List It} {M b : Nat} : cntOf l M b ≤ b := by
  induction b with
  | zero => rw [cnt_zero]; exact Nat.le_refl _
  | succ b ih =>
    by_cases hb : b < l.length
    · cases h : M.testBit b
      · rw [cnt_no hb h]; omega
      · rw [cnt_yes hb h]; omega
    · unfold cntOf at *
      have e : ∀ (l : List It) (c : List Bool), (pick l c).length ≤ l.length := fun l => by
        induction l with
        | nil => intro c; simp [pick]
        | cons x r ih => intro c; cases c with
          | nil => simp [pick]
          | cons y c => cases y <;> (simp [pick]; have := ih c; omega)
      have := e (l.take (b + 1)) (maskOf (b + 1) M)
      simp at this
      omega
/-- The picked item at a set bit. -/
theorem pick_at {l : List It} {M b : Nat} (hb : b < l.length) {x : It} (hx : l[b]? = some x) (h : M.testBit b = true) : (pick l (maskOf l.length M))[cntOf l M b]? = some x := by
  obtain ⟨r, hr⟩ := pick_prefix (l := l) (M := M) (b := b + 1) (by omega)
  rw [hr, pick_succ hb x hx, h]
  unfold cntOf
  simp

end Go.Proofs.Qxb6602155a
