/-
  What the search answers, put together: plain.
-/
import Derived.Test.Qxb6602155aLk
import Derived.Test.Qxb6602155aLl
namespace Go.Proofs.Qxb6602155a

theorem search_one {lo hi : Int} {least : Bool} : ∀ (l : List It) (sum : Int) (s : St), s.steps < 4096 → s.steps + 1 ≤ (search lo hi least l sum s).steps := by
  intro l sum s h
  cases l with
  | nil => rw [search_nil (by omega), enter_steps]; exact Nat.le_refl _
  | cons x r =>
    cases hc : cuts lo hi least (x :: r) sum (enter lo hi least sum s) with
    | true => rw [search_cut (by omega) hc, enter_steps]; exact Nat.le_refl _
    | false =>
      cases ht : takes hi least x.size sum (enter lo hi least sum s) with
      | true =>
        rw [search_take (by omega) hc ht]
        have h1 := search_steps lo hi least r (sum + x.size) (push (enter lo hi least sum s) x) (by show (enter lo hi least sum s).steps ≤ 4096; rw [enter_steps]; omega)
        have h2 := search_steps lo hi least r sum (pop (search lo hi least r (sum + x.size) (push (enter lo hi least sum s) x))) h1.1
        have e1 : (push (enter lo hi least sum s) x).steps = s.steps + 1 := enter_steps ..
        have e2 : (pop (search lo hi least r (sum + x.size) (push (enter lo hi least sum s) x))).steps = (search lo hi least r (sum + x.size) (push (enter lo hi least sum s) x)).steps := rfl
        omega
      | false =>
        rw [search_skip (by omega) hc ht]
        have h2 := search_steps lo hi least r sum (enter lo hi least sum s) (by rw [enter_steps]; omega)
        rw [enter_steps] at h2
        omega

theorem stE_snd (lo hi : Int) (least : Bool) (xs ss : List It) (i : Nat) (sum : Int) : Snd lo hi ss (xs.drop i) sum (stE lo hi least xs ss i sum) :=
  search_snd lo hi least ss (xs.drop i) sum (xs.drop i) sum (st0 ss) [] (by simp [st0]) (by simp [tot]) (by simp) ⟨fun h => by simp [st0] at h, fun _ => ⟨rfl, rfl⟩⟩

theorem stE_steps (lo hi : Int) (least : Bool) (xs ss : List It) (i : Nat) (sum : Int) : 1 ≤ (stE lo hi least xs ss i sum).steps ∧ (stE lo hi least xs ss i sum).steps ≤ 4096 :=
  ⟨search_one (xs.drop i) sum (st0 ss) (by simp [st0]), (search_steps lo hi least (xs.drop i) sum (st0 ss) (by simp [st0])).1⟩

theorem stE_once {lo hi : Int} {least : Bool} {xs ss : List It} {i : Nat} {sum : Int} (h1 : lo ≤ sum) (h2 : sum ≤ hi) :
    (stE lo hi least xs ss i sum).found = true ∧ (least = true → (stE lo hi least xs ss i sum).sum = sum ∧ (stE lo hi least xs ss i sum).best.length = ss.length ∧ (stE lo hi least xs ss i sum).steps = 1) := by
  obtain ⟨a, b⟩ := search_at_once (least := least) (l := xs.drop i) (s := st0 ss) rfl (by simp [st0]) h1 h2
  refine ⟨a, fun hl => ?_⟩
  unfold stE
  rw [b hl]
  exact ⟨rfl, rfl, rfl⟩

theorem stE_agree {lo hi : Int} {least : Bool} {xs ss : List It} {i m : Nat} {sum : Int} {h b tt : Value} (hl1 : lo ≤ maxI) (hh1 : hi ≤ maxI) (hs0 : 0 ≤ sum) (hsz : ∀ x ∈ xs, InR x.size) (him : (xs.drop i).length = m) (hm : m ≤ 11)
    (hO : Outer lo hi least (xs.drop i) sum (2 ^ m) h b tt) : Agree xs ss i m (stE lo hi least xs ss i sum) h b tt ∧ (stE lo hi least xs ss i sum).steps + 1 ≤ 2 ^ (m + 1) := by
  have hB := search_best lo hi least (xs.drop i) ss sum hl1 hh1 hs0 (fun x hx => (hsz x (List.mem_of_mem_drop hx)).1) (by omega)
  have ef : fresh ss = st0 ss := rfl
  rw [ef] at hB
  obtain ⟨hB, hst⟩ := hB
  subst him
  refine ⟨?_, hst⟩
  obtain ⟨a, hBr, hH⟩ := hO
  rcases hH with ⟨rfl, rfl, rfl, rfl⟩ | ⟨c, rfl, rfl, rfl, rfl⟩
  · rcases hB with ⟨hf, _⟩ | ⟨c, hf, _, _, hbest⟩
    · exact .inl ⟨rfl, hf⟩
    · exact absurd hbest.feas (Brute.none hBr (allM_mem.1 hbest.mem))
  · have hb2 := Brute.best hBr
    rcases hB with ⟨_, hno⟩ | ⟨d, hf, hsum, hbest, hd⟩
    · exact absurd hb2.feas (hno _ (maskOf_length _ _))
    · have e := best_unique hd hb2
      subst e
      exact .inr ⟨c, rfl, rfl, by rw [← hsum]; rfl, hf, Brute.lt hBr, hbest⟩

theorem guarded_fits {xs ss : List It} {lo hi i sum : Int} (h : Guarded xs ss lo hi i sum) (h1 : InI lo) (h2 : InI hi) (h3 : InI sum) : Fits lo hi sum := by
  obtain ⟨_, _, _, _, _, s0, lh, hh⟩ := h
  obtain ⟨a1, a2⟩ := h1
  obtain ⟨b1, b2⟩ := h2
  obtain ⟨d1, d2⟩ := h3
  refine ⟨s0, d2, a1, a2, b2, ?_, ?_, ?_⟩
  · by_cases hl : lo < 0
    · have := lh hl; omega
    · omega
  · by_cases hl : hi < 0
    · have := hh hl; omega
    · omega
  · by_cases hl : lo < 0
    · have := lh hl; omega
    · omega

end Go.Proofs.Qxb6602155a
