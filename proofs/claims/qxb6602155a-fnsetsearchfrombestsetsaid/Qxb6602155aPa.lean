/-
  The search, plain: no Go in sight.
-/
namespace Go.Proofs.Qxb6602155a

/-- An item: its four fields and its size. -/
structure It where
  name : ByteArray
  ver : Int
  num : Int
  ctr : Int
  size : Int

def maxI : Int := 9223372036854775807

/-- The sum of the sizes. -/
def tot : List It → Int
  | [] => 0
  | x :: r => x.size + tot r

/-- The capped sum, as zzRest reckons it. -/
def restOf : List It → Int
  | [] => 0
  | x :: r => if maxI - x.size < restOf r then maxI else restOf r + x.size

/-- The search's state. -/
structure St where
  steps : Nat
  set : List It
  best : List It
  sum : Int
  found : Bool

/-- Weigh the set that the search stands at. -/
def better (least : Bool) (sum : Int) (s : St) : Bool := !s.found || (least && decide (sum < s.sum)) || (!least && decide (s.sum < sum))
def weigh (lo hi : Int) (least : Bool) (sum : Int) (s : St) : St :=
  if lo ≤ sum ∧ sum ≤ hi ∧ better least sum s = true then { s with best := s.set, sum := sum, found := true } else s

/-- May the item be taken? -/
def takes (hi : Int) (least : Bool) (size sum : Int) (s : St) : Bool := decide (size ≤ hi - sum) && !(least && s.found && decide (s.sum - sum ≤ size))
/-- Is the search cut here? -/
def cuts (lo hi : Int) (least : Bool) (l : List It) (sum : Int) (s : St) : Bool :=
  (least && decide (lo ≤ sum)) || decide (restOf l < lo - sum) || (!least && s.found && (s.sum == hi || decide (restOf l ≤ s.sum - sum)))

def enter (lo hi : Int) (least : Bool) (sum : Int) (s : St) : St := weigh lo hi least sum { s with steps := s.steps + 1 }
def push (s : St) (x : It) : St := { s with set := s.set ++ [x] }
def pop (s : St) : St := { s with set := s.set.dropLast }

def search (lo hi : Int) (least : Bool) : List It → Int → St → St
  | [], sum, s => if s.steps = 4096 then s else enter lo hi least sum s
  | x :: r, sum, s =>
    if s.steps = 4096 then s
    else if cuts lo hi least (x :: r) sum (enter lo hi least sum s) then enter lo hi least sum s
    else search lo hi least r sum
      (if takes hi least x.size sum (enter lo hi least sum s) then pop (search lo hi least r (sum + x.size) (push (enter lo hi least sum s) x)) else enter lo hi least sum s)

theorem enter_set (lo hi : Int) (least : Bool) (sum : Int) (s : St) : (enter lo hi least sum s).set = s.set := by unfold enter weigh; split <;> rfl
theorem enter_steps (lo hi : Int) (least : Bool) (sum : Int) (s : St) : (enter lo hi least sum s).steps = s.steps + 1 := by unfold enter weigh; split <;> rfl

theorem search_nil {lo hi : Int} {least : Bool} {sum : Int} {s : St} (h : s.steps ≠ 4096) : search lo hi least [] sum s = enter lo hi least sum s := by unfold search; rw [if_neg h]
theorem search_out {lo hi : Int} {least : Bool} {l : List It} {sum : Int} {s : St} (h : s.steps = 4096) : search lo hi least l sum s = s := by cases l <;> (unfold search; rw [if_pos h])
theorem search_cut {lo hi : Int} {least : Bool} {x : It} {r : List It} {sum : Int} {s : St} (h : s.steps ≠ 4096) (hc : cuts lo hi least (x :: r) sum (enter lo hi least sum s) = true) :
    search lo hi least (x :: r) sum s = enter lo hi least sum s := by unfold search; rw [if_neg h, if_pos hc]
theorem search_take {lo hi : Int} {least : Bool} {x : It} {r : List It} {sum : Int} {s : St} (h : s.steps ≠ 4096) (hc : cuts lo hi least (x :: r) sum (enter lo hi least sum s) = false) (ht : takes hi least x.size sum (enter lo hi least sum s) = true) :
    search lo hi least (x :: r) sum s = search lo hi least r sum (pop (search lo hi least r (sum + x.size) (push (enter lo hi least sum s) x))) := by
  conv => lhs; unfold search
  rw [if_neg h, hc, if_neg (by simp), if_pos ht]
theorem search_skip {lo hi : Int} {least : Bool} {x : It} {r : List It} {sum : Int} {s : St} (h : s.steps ≠ 4096) (hc : cuts lo hi least (x :: r) sum (enter lo hi least sum s) = false) (ht : takes hi least x.size sum (enter lo hi least sum s) = false) :
    search lo hi least (x :: r) sum s = search lo hi least r sum (enter lo hi least sum s) := by
  conv => lhs; unfold search
  rw [if_neg h, hc, if_neg (by simp), ht, if_neg (by simp)]

/-- Induction along the search: what 'enter', 'push', 'pop' keep, the search keeps. -/
theorem search_ind (lo hi : Int) (least : Bool) (R : List It → Int → St → St → Prop)
    (hout : ∀ l sum s, s.steps = 4096 → R l sum s s)
    (hnil : ∀ sum s, s.steps ≠ 4096 → R [] sum s (enter lo hi least sum s))
    (hcut : ∀ x r sum s, s.steps ≠ 4096 → cuts lo hi least (x :: r) sum (enter lo hi least sum s) = true → R (x :: r) sum s (enter lo hi least sum s))
    (htake : ∀ x r sum s s' s'', s.steps ≠ 4096 → cuts lo hi least (x :: r) sum (enter lo hi least sum s) = false → takes hi least x.size sum (enter lo hi least sum s) = true →
      R r (sum + x.size) (push (enter lo hi least sum s) x) s' → R r sum (pop s') s'' → R (x :: r) sum s s'')
    (hskip : ∀ x r sum s s'', s.steps ≠ 4096 → cuts lo hi least (x :: r) sum (enter lo hi least sum s) = false → takes hi least x.size sum (enter lo hi least sum s) = false →
      R r sum (enter lo hi least sum s) s'' → R (x :: r) sum s s'') :
    ∀ l sum s, R l sum s (search lo hi least l sum s) := by
  intro l
  induction l with
  | nil =>
    intro sum s
    by_cases h : s.steps = 4096
    · rw [search_out h]; exact hout _ _ _ h
    · rw [search_nil h]; exact hnil _ _ h
  | cons x r ih =>
    intro sum s
    by_cases h : s.steps = 4096
    · rw [search_out h]; exact hout _ _ _ h
    · cases hc : cuts lo hi least (x :: r) sum (enter lo hi least sum s) with
      | true => rw [search_cut h hc]; exact hcut _ _ _ _ h hc
      | false =>
        cases ht : takes hi least x.size sum (enter lo hi least sum s) with
        | true => rw [search_take h hc ht]; exact htake _ _ _ _ _ _ h hc ht (ih _ _) (ih _ _)
        | false => rw [search_skip h hc ht]; exact hskip _ _ _ _ _ h hc ht (ih _ _)

theorem search_set (lo hi : Int) (least : Bool) : ∀ (l : List It) (sum : Int) (s : St), (search lo hi least l sum s).set = s.set := by
  apply search_ind lo hi least (fun _ _ s s' => s'.set = s.set)
  · intros; rfl
  · intros; exact enter_set ..
  · intros; exact enter_set ..
  · intro x r sum s s' s'' _ _ _ h1 h2
    rw [h2]
    show s'.set.dropLast = s.set
    rw [h1]
    show (((enter lo hi least sum s).set ++ [x]).dropLast) = s.set
    rw [List.dropLast_concat, enter_set]
  · intro x r sum s s'' _ _ _ h
    rw [h, enter_set]

theorem search_steps (lo hi : Int) (least : Bool) : ∀ (l : List It) (sum : Int) (s : St), s.steps ≤ 4096 → (search lo hi least l sum s).steps ≤ 4096 ∧ s.steps ≤ (search lo hi least l sum s).steps := by
  apply search_ind lo hi least (fun _ _ s s' => s.steps ≤ 4096 → s'.steps ≤ 4096 ∧ s.steps ≤ s'.steps)
  · intro l sum s _ h; exact ⟨h, Nat.le_refl _⟩
  · intro sum s h1 h; rw [enter_steps]; omega
  · intro x r sum s h1 _ h; rw [enter_steps]; omega
  · intro x r sum s s' s'' h1 _ _ a b h
    have a' := a (by show (enter lo hi least sum s).steps ≤ 4096; rw [enter_steps]; omega)
    have a2 : (enter lo hi least sum s).steps ≤ s'.steps := a'.2
    rw [enter_steps] at a2
    have b' := b a'.1
    have b2 : s'.steps ≤ s''.steps := b'.2
    exact ⟨b'.1, by omega⟩
  · intro x r sum s s'' h1 _ _ a h
    have a' := a (by rw [enter_steps]; omega)
    rw [enter_steps] at a'
    exact ⟨a'.1, by omega⟩

/-- The found sum stays an int64 that is not negative. -/
def InR (x : Int) : Prop := 0 ≤ x ∧ x ≤ maxI
theorem enter_sum {lo hi : Int} {least : Bool} {sum : Int} {s : St} (h : InR sum) (hs : InR s.sum) : InR (enter lo hi least sum s).sum := by unfold enter weigh; split <;> assumption
theorem takes_le {hi : Int} {least : Bool} {size sum : Int} {s : St} (h : takes hi least size sum s = true) : sum + size ≤ hi := by
  simp only [takes, Bool.and_eq_true, decide_eq_true_eq] at h
  omega
theorem search_sum (lo hi : Int) (least : Bool) (hhi : hi ≤ maxI) : ∀ (l : List It) (sum : Int) (s : St), (∀ x ∈ l, 0 ≤ x.size) → InR sum → InR s.sum → InR (search lo hi least l sum s).sum := by
  apply search_ind lo hi least (fun l sum s s' => (∀ x ∈ l, 0 ≤ x.size) → InR sum → InR s.sum → InR s'.sum)
  · intro l sum s _ _ _ h; exact h
  · intro sum s _ _ h h2; exact enter_sum h h2
  · intro x r sum s _ _ _ h h2; exact enter_sum h h2
  · intro x r sum s s' s'' _ _ ht a b hl h h2
    have hx := hl x (by simp)
    have := takes_le ht
    have h' : InR (sum + x.size) := by unfold InR at *; omega
    exact b (fun y hy => hl y (by simp [hy])) h (a (fun y hy => hl y (by simp [hy])) h' (enter_sum h h2))
  · intro x r sum s s'' _ _ _ a hl h h2
    exact a (fun y hy => hl y (by simp [hy])) h (enter_sum h h2)

end Go.Proofs.Qxb6602155a
