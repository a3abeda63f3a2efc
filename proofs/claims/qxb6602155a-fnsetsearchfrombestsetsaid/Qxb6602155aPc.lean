/-
  The search is exact where it is not cut off: plain. Sets of items as lists of bools.
-/
import Derived.Test.Qxb6602155aPb
namespace Go.Proofs.Qxb6602155a

/-- The items that a mask picks. -/
def pick : List It → List Bool → List It
  | x :: r, true :: b => x :: pick r b
  | _ :: r, false :: b => pick r b
  | _, _ => []

theorem pick_append : ∀ (a : List It) (p : List Bool) (l : List It) (b : List Bool), p.length = a.length → pick (a ++ l) (p ++ b) = pick a p ++ pick l b
  | [], [], l, b, _ => by simp [pick]
  | x :: r, true :: p, l, b, h => by simp [pick, pick_append r p l b (by simpa using h)]
  | x :: r, false :: p, l, b, h => by simp [pick, pick_append r p l b (by simpa using h)]
theorem pick_none : ∀ (l : List It) (m : Nat), pick l (List.replicate m false) = []
  | [], _ => by simp [pick]
  | x :: r, 0 => by simp [pick]
  | x :: r, m + 1 => by simp [List.replicate_succ, pick, pick_none r m]
theorem tot_nonneg {l : List It} (h : ∀ x ∈ l, 0 ≤ x.size) : 0 ≤ tot l := by
  induction l with
  | nil => simp [tot]
  | cons x r ih =>
    have := ih (fun y hy => h y (by simp [hy]))
    have := h x (by simp)
    simp only [tot]; omega
theorem tot_pick_le : ∀ {l : List It} (b : List Bool), (∀ x ∈ l, 0 ≤ x.size) → 0 ≤ tot (pick l b) ∧ tot (pick l b) ≤ tot l
  | [], b, _ => by simp [pick, tot]
  | x :: r, [], h => by
    have := tot_nonneg h
    simp only [pick, tot] at *
    omega
  | x :: r, true :: b, h => by
    have := tot_pick_le (l := r) b (fun y hy => h y (by simp [hy]))
    have := h x (by simp)
    simp only [pick, tot]; omega
  | x :: r, false :: b, h => by
    have := tot_pick_le (l := r) b (fun y hy => h y (by simp [hy]))
    have := h x (by simp)
    simp only [pick, tot]; omega

/-- The capped sum is the sum, or the cap. -/
theorem restOf_is {l : List It} (h : ∀ x ∈ l, 0 ≤ x.size) : restOf l = (if tot l ≤ maxI then tot l else maxI) := by
  induction l with
  | nil => simp [restOf, tot, maxI]
  | cons x r ih =>
    have hr := ih (fun y hy => h y (by simp [hy]))
    have hx := h x (by simp)
    have ht := tot_nonneg (l := r) (fun y hy => h y (by simp [hy]))
    simp only [restOf, hr, tot]
    unfold maxI at *
    repeat' split
    all_goals omega

/-- The masks in the order in which the search weighs them. -/
def enumB : Nat → List (List Bool)
  | 0 => [[]]
  | m + 1 => List.replicate (m + 1) false :: ((enumB m).map (true :: ·) ++ (enumB m).map (false :: ·))

/-- Is t better than what is held? -/
def improves (lo hi : Int) (least : Bool) (val : List Bool → Int) (a : Option (List Bool)) (b : List Bool) : Bool :=
  decide (lo ≤ val b) && decide (val b ≤ hi) && (match a with | none => true | some c => (least && decide (val b < val c)) || (!least && decide (val c < val b)))
def upd (lo hi : Int) (least : Bool) (val : List Bool → Int) (a : Option (List Bool)) (b : List Bool) : Option (List Bool) := if improves lo hi least val a b then some b else a

theorem fold_keeps {lo hi : Int} {least : Bool} {val : List Bool → Int} {a : Option (List Bool)} : ∀ L : List (List Bool), (∀ b ∈ L, improves lo hi least val a b = false) → L.foldl (upd lo hi least val) a = a
  | [], _ => rfl
  | b :: r, h => by
    rw [List.foldl_cons, upd, h b (by simp), if_neg (by simp)]
    exact fold_keeps r (fun c hc => h c (by simp [hc]))

/-- What the search holds, as a mask. -/
def Held (l0 P0 : List It) (val : List Bool → Int) (a : Option (List Bool)) (s : St) : Prop :=
  (a = none ∧ s.found = false) ∨ ∃ b, a = some b ∧ s.found = true ∧ s.sum = val b ∧ s.best = P0 ++ pick l0 b

theorem better_held {lo hi : Int} {least : Bool} {l0 P0 : List It} {val : List Bool → Int} {a : Option (List Bool)} {s : St} {b : List Bool} {sum : Int} (h : Held l0 P0 val a s) (hs : sum = val b) :
    improves lo hi least val a b = (decide (lo ≤ sum) && decide (sum ≤ hi) && better least sum s) := by
  subst hs
  rcases h with ⟨rfl, hf⟩ | ⟨c, rfl, hf, hc, _⟩
  · simp [improves, better, hf]
  · simp [improves, better, hf, hc]

theorem enter_held {lo hi : Int} {least : Bool} {l0 P0 : List It} {val : List Bool → Int} {a : Option (List Bool)} {s : St} {b : List Bool} {sum : Int} (h : Held l0 P0 val a s) (hs : sum = val b) (hset : s.set = P0 ++ pick l0 b) :
    Held l0 P0 val (upd lo hi least val a b) (enter lo hi least sum s) := by
  have hb := better_held (lo := lo) (hi := hi) (least := least) (b := b) h hs
  unfold upd enter weigh
  cases hi' : improves lo hi least val a b with
  | true =>
    rw [hi'] at hb
    have hb' := hb.symm
    simp only [Bool.and_eq_true, decide_eq_true_eq] at hb'
    have : better least sum { s with steps := s.steps + 1 } = true := hb'.2
    rw [if_pos rfl, if_pos ⟨hb'.1.1, hb'.1.2, this⟩]
    exact .inr ⟨b, rfl, rfl, hs, hset⟩
  | false =>
    rw [hi'] at hb
    rw [if_neg (by simp), if_neg]
    · exact h
    · rintro ⟨p, q, r⟩
      have r' : better least sum s = true := r
      simp [p, q, r'] at hb

end Go.Proofs.Qxb6602155a
