/-
  The search is sound: plain.
-/
import Derived.Test.Qxb6602155aPa
namespace Go.Proofs.Qxb6602155a

theorem tot_append (a b : List It) : tot (a ++ b) = tot a + tot b := by
  induction a with
  | nil => simp [tot]
  | cons x r ih => simp only [List.cons_append, tot, ih]; omega

/-- What the search has found is sound. -/
structure Snd (lo hi : Int) (P0 l0 : List It) (sum0 : Int) (s : St) : Prop where
  yes : s.found = true → lo ≤ s.sum ∧ s.sum ≤ hi ∧ ∃ T : List It, List.Sublist T l0 ∧ s.best = P0 ++ T ∧ s.sum = sum0 + tot T
  no : s.found = false → s.best = [] ∧ s.sum = 0

theorem enter_snd {lo hi : Int} {least : Bool} {P0 l0 : List It} {sum0 sum : Int} {s : St} {U l : List It} (hs : s.set = P0 ++ U) (hsum : sum = sum0 + tot U) (hsub : List.Sublist (U ++ l) l0) (h : Snd lo hi P0 l0 sum0 s) :
    Snd lo hi P0 l0 sum0 (enter lo hi least sum s) := by
  unfold enter weigh
  split
  · rename_i hc
    refine ⟨fun _ => ⟨hc.1, hc.2.1, U, (List.sublist_append_left U l).trans hsub, hs, hsum⟩, fun hf => by cases hf⟩
  · exact ⟨h.yes, h.no⟩

theorem search_snd (lo hi : Int) (least : Bool) (P0 l0 : List It) (sum0 : Int) : ∀ (l : List It) (sum : Int) (s : St) (U : List It),
    s.set = P0 ++ U → sum = sum0 + tot U → List.Sublist (U ++ l) l0 → Snd lo hi P0 l0 sum0 s → Snd lo hi P0 l0 sum0 (search lo hi least l sum s) := by
  have key := search_ind lo hi least (fun l sum s s' => ∀ U : List It, s.set = P0 ++ U → sum = sum0 + tot U → List.Sublist (U ++ l) l0 → Snd lo hi P0 l0 sum0 s → Snd lo hi P0 l0 sum0 s' ∧ s'.set = s.set)
    (fun l sum s _ U _ _ _ h => ⟨h, rfl⟩)
    (fun sum s _ U a b c h => ⟨enter_snd a b c h, enter_set ..⟩)
    (fun x r sum s _ _ U a b c h => ⟨enter_snd a b c h, enter_set ..⟩)
    (fun x r sum s s' s'' _ _ _ h1 h2 U a b c h => by
      have e := enter_snd (least := least) a b c h
      have c1 : List.Sublist (U ++ [x] ++ r) l0 := by rw [List.append_assoc]; exact c
      have p1 : (push (enter lo hi least sum s) x).set = P0 ++ (U ++ [x]) := by
        show (enter lo hi least sum s).set ++ [x] = _
        rw [enter_set, a, List.append_assoc]
      obtain ⟨q1, q2⟩ := h1 (U ++ [x]) p1 (by rw [tot_append, b]; simp [tot]; omega) c1 ⟨e.yes, e.no⟩
      have p2 : (pop s').set = P0 ++ U := by
        show s'.set.dropLast = _
        rw [q2, p1, ← List.append_assoc, List.dropLast_concat]
      have c2 : List.Sublist (U ++ r) l0 := (List.Sublist.append (List.Sublist.refl U) (List.sublist_cons_self x r)).trans c
      obtain ⟨r1, r2⟩ := h2 U p2 b c2 ⟨q1.yes, q1.no⟩
      exact ⟨r1, by rw [r2, p2, a]⟩)
    (fun x r sum s s'' _ _ _ h2 U a b c h => by
      have e := enter_snd (least := least) a b c h
      have c2 : List.Sublist (U ++ r) l0 := (List.Sublist.append (List.Sublist.refl U) (List.sublist_cons_self x r)).trans c
      obtain ⟨r1, r2⟩ := h2 U (by rw [enter_set]; exact a) b c2 e
      exact ⟨r1, by rw [r2, enter_set]⟩)
  intro l sum s U a b c h
  exact (key l sum s U a b c h).1

/-- What is found stays found. -/
theorem enter_found {lo hi : Int} {least : Bool} {sum : Int} {s : St} (h : s.found = true) : (enter lo hi least sum s).found = true := by unfold enter weigh; split <;> first | rfl | exact h
theorem search_found (lo hi : Int) (least : Bool) : ∀ (l : List It) (sum : Int) (s : St), s.found = true → (search lo hi least l sum s).found = true := by
  apply search_ind lo hi least (fun _ _ s s' => s.found = true → s'.found = true)
  · intro l sum s _ h; exact h
  · intro sum s _ h; exact enter_found h
  · intro x r sum s _ _ h; exact enter_found h
  · intro x r sum s s' s'' _ _ _ a b h; exact b (a (enter_found h))
  · intro x r sum s s'' _ _ _ a h; exact a (enter_found h)

/-- Where the set itself lies between lo and hi it is found at once; and with 'least' the search ends there. -/
theorem search_at_once {lo hi : Int} {least : Bool} {l : List It} {sum : Int} {s : St} (hf : s.found = false) (hst : s.steps ≠ 4096) (h1 : lo ≤ sum) (h2 : sum ≤ hi) :
    (search lo hi least l sum s).found = true ∧ (least = true → search lo hi least l sum s = { s with steps := s.steps + 1, best := s.set, sum := sum, found := true }) := by
  have he : enter lo hi least sum s = { s with steps := s.steps + 1, best := s.set, sum := sum, found := true } := by
    unfold enter weigh
    rw [if_pos ⟨h1, h2, by simp [better, hf]⟩]
  have hef : (enter lo hi least sum s).found = true := by rw [he]
  cases l with
  | nil => rw [search_nil hst]; exact ⟨hef, fun _ => he⟩
  | cons x r =>
    cases hc : cuts lo hi least (x :: r) sum (enter lo hi least sum s) with
    | true => rw [search_cut hst hc]; exact ⟨hef, fun _ => he⟩
    | false =>
      refine ⟨?_, fun hl => by simp [cuts, hl, h1] at hc⟩
      cases ht : takes hi least x.size sum (enter lo hi least sum s) with
      | true => rw [search_take hst hc ht]; exact search_found _ _ _ _ _ _ (search_found lo hi least r _ (push (enter lo hi least sum s) x) hef)
      | false => rw [search_skip hst hc ht]; exact search_found _ _ _ _ _ _ hef

end Go.Proofs.Qxb6602155a
