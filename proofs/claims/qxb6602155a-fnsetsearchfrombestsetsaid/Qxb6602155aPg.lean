/-
  What the search finds, from a fresh state: plain.
-/
import Derived.Test.Qxb6602155aPf
namespace Go.Proofs.Qxb6602155a

/-- All masks of a length, in the search's order. -/
def allM (m : Nat) : List (List Bool) := List.replicate m false :: enumD m
theorem allM_mem {m : Nat} {b : List Bool} : b ∈ allM m ↔ b.length = m := by
  constructor
  · intro h
    rcases List.mem_cons.1 h with rfl | h
    · simp
    · exact (enumD_mem m b h).1
  · intro h
    rcases enumD_all m b h with e | e
    · exact List.mem_cons.2 (.inl e)
    · exact List.mem_cons.2 (.inr e)

def fresh (set : List It) : St := ⟨0, set, [], 0, false⟩

/-- From a fresh state, over at most eleven items: just the best mask; none where none fits. -/
theorem search_best (lo hi : Int) (least : Bool) (l P0 : List It) (sum : Int) (hl1 : lo ≤ maxI) (hh1 : hi ≤ maxI) (hs0 : 0 ≤ sum) (hsz : ∀ x ∈ l, 0 ≤ x.size) (hm : l.length ≤ 11) :
    ((search lo hi least l sum (fresh P0)).found = false ∧ (∀ b, b.length = l.length → ¬ feas lo hi (valOf l sum) b) ∨
     ∃ c, (search lo hi least l sum (fresh P0)).found = true ∧ (search lo hi least l sum (fresh P0)).sum = valOf l sum c ∧ (search lo hi least l sum (fresh P0)).best = P0 ++ pick l c ∧ Best lo hi least (valOf l sum) (allM l.length) c) ∧
    (search lo hi least l sum (fresh P0)).steps + 1 ≤ 2 ^ (l.length + 1) := by
  have hpow : 2 ^ (l.length + 1) ≤ 2 ^ 12 := Nat.pow_le_pow_right (by omega) (by omega)
  have h := search_exact lo hi least l P0 sum hl1 hh1 hs0 hsz l [] [] sum (fresh P0) none rfl rfl (by simp [fresh, pick]) (by simp [pick, tot]) (.inl ⟨rfl, rfl⟩) (by show 0 + 2 ^ (l.length + 1) ≤ 4097; omega)
  obtain ⟨h1, h2⟩ := h
  rw [fold_enum] at h1
  refine ⟨?_, by have h3 : (fresh P0).steps = 0 := rfl; omega⟩
  have e : (List.replicate l.length false :: enumD l.length).map (([] : List Bool) ++ ·) = allM l.length := by simp [allM]
  rw [e] at h1
  rcases fold_best (lo := lo) (hi := hi) (least := least) (val := valOf l sum) _ (allM l.length) rfl (enum_sorted l.length) with ⟨f1, f2⟩ | ⟨c, f1, f2⟩
  · rw [f1] at h1
    rcases h1 with ⟨_, hf⟩ | ⟨b, hb, _⟩
    · exact .inl ⟨hf, fun b hb => f2 b (allM_mem.2 hb)⟩
    · cases hb
  · rw [f1] at h1
    rcases h1 with ⟨hb, _⟩ | ⟨b, hb, h3, h4, h5⟩
    · cases hb
    · cases hb
      exact .inr ⟨c, h3, h4, h5, f2⟩

end Go.Proofs.Qxb6602155a
