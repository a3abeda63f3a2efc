/-
  Kahn's algorithm: plain.
-/
import Derived.Test.Qxb6601698aGa
namespace Go.Proofs.Qxb6601698a

theorem nodup_len : ∀ {l N : List Nat}, l.Nodup → (∀ s ∈ l, s ∈ N) → l.length ≤ N.length
  | [], _, _, _ => Nat.zero_le _
  | x :: r, N, hl, h => by
    obtain ⟨h1, h2⟩ := List.nodup_cons.1 hl
    have hx := h x (by simp)
    obtain ⟨A, B, rfl⟩ := List.append_of_mem hx
    have := nodup_len (l := r) (N := A ++ B) h2 (fun s hs => by
      have := h s (by simp [hs])
      rcases List.mem_append.1 this with h3 | h3
      · exact List.mem_append_left _ h3
      · rcases List.mem_cons.1 h3 with h4 | h4
        · subst h4; exact absurd hs h1
        · exact List.mem_append_right _ h4)
    simp at this ⊢
    omega

/-- How many steps lead to u from the numbers below n that are not in R. -/
def tally (adj : Nat → List Nat) (R : List Nat) (u : Nat) : Nat → Nat
  | 0 => 0
  | n + 1 => tally adj R u n + if n ∈ R then 0 else (adj n).count u
theorem tally_take {adj : Nat → List Nat} {R : List Nat} {u v : Nat} (hv : v ∉ R) : ∀ n, tally adj R u n = tally adj (R ++ [v]) u n + if v < n then (adj v).count u else 0
  | 0 => by simp [tally]
  | n + 1 => by
    have ih := tally_take (u := u) (adj := adj) hv n
    unfold tally
    rw [ih]
    by_cases e : n = v
    · subst e
      simp [hv]
    · have h1 : (n ∈ R ++ [v]) ↔ n ∈ R := by simp [e]
      by_cases h2 : n ∈ R
      · simp [h2, h1]
        by_cases h3 : v < n
        · have : v < n + 1 := by omega
          simp [h3, this]
        · have : ¬ v < n + 1 := by omega
          simp [h3, this]
      · simp [h2, h1]
        by_cases h3 : v < n
        · have : v < n + 1 := by omega
          simp [h3, this]; omega
        · have : ¬ v < n + 1 := by omega
          simp [h3, this]
theorem tally_zero {adj : Nat → List Nat} {R : List Nat} {u : Nat} : ∀ {n : Nat}, tally adj R u n = 0 ↔ ∀ w, w < n → w ∉ R → (adj w).count u = 0
  | 0 => by simp [tally]
  | n + 1 => by
    have ih := tally_zero (adj := adj) (R := R) (u := u) (n := n)
    unfold tally
    constructor
    · intro h w hw hR
      by_cases e : w = n
      · subst e; simp [hR] at h; exact h.2
      · exact ih.1 (by omega) w (by omega) hR
    · intro h
      have h1 := ih.2 (fun w hw hR => h w (by omega) hR)
      by_cases e : n ∈ R
      · simp [e, h1]
      · have h2 := h n (by omega) e
        simp only [if_neg e, h1, h2]
theorem tally_le {adj : Nat → List Nat} {R : List Nat} {u L : Nat} (h : ∀ w, (adj w).length ≤ L) : ∀ n, tally adj R u n ≤ n * L
  | 0 => by simp [tally]
  | n + 1 => by
    have ih := tally_le (R := R) (u := u) h n
    have h1 := h n
    have h2 := List.count_le_length (a := u) (l := adj n)
    have e : (n + 1) * L = n * L + L := Nat.succ_mul n L
    unfold tally
    rw [e]
    split <;> omega

/-- How Kahn's algorithm stands: R taken, v the last of them, j of its steps struck off. -/
structure Kahn (n : Nat) (adj : Nat → List Nat) (R : List Nat) (extra : List Nat) (g : Nat → Nat) (Q : List Nat) : Prop where
  nodup : (R ++ Q).Nodup
  lt : ∀ u ∈ R ++ Q, u < n
  deg : ∀ u, u < n → g u = tally adj R u n + extra.count u
  zero : ∀ u, u < n → (u ∈ R ++ Q ↔ g u = 0)
  order : ∀ i, i < R.length → ∀ w, w < n → 0 < (adj w).count (R.getD i 0) → ∃ k, k < i ∧ R.getD k 0 = w

theorem nget_app {R : List Nat} {x i : Nat} (h : i < R.length) : (R ++ [x]).getD i 0 = R.getD i 0 := by simp [List.getD, List.getElem?_append_left h]
theorem nget_new {R : List Nat} {x : Nat} : (R ++ [x]).getD R.length 0 = x := by simp [List.getD]

/-- One is taken from the queue. -/
theorem Kahn.take {n : Nat} {adj : Nat → List Nat} {R : List Nat} {g : Nat → Nat} {Q : List Nat} {v : Nat} (h : Kahn n adj R [] g (Q ++ [v])) : Kahn n adj (R ++ [v]) (adj v) g Q ∧ v < n ∧ R.length < n := by
  obtain ⟨h1, h2, h3, h4, h5⟩ := h
  have hv : v < n := h2 v (by simp)
  have hvR : v ∉ R := fun hR => by
    rw [List.nodup_append] at h1
    exact h1.2.2 v hR v (by simp) rfl
  have hperm : ∀ u, u ∈ R ++ (Q ++ [v]) ↔ u ∈ R ++ [v] ++ Q := fun u => by simp; constructor <;> (intro h; rcases h with h | h | h <;> simp [h])
  have hlen : (R ++ (Q ++ [v])).length ≤ n := by
    have : (R ++ (Q ++ [v])).length ≤ (List.range n).length := nodup_len h1 (fun u hu => by simpa using h2 u hu)
    simpa using this
  refine ⟨⟨?_, fun u hu => h2 u ((hperm u).2 hu), fun u hu => ?_, fun u hu => by rw [← hperm u]; exact h4 u hu, fun i hi w hw hc => ?_⟩, hv, by simp at hlen; omega⟩
  · rw [List.nodup_append] at h1 ⊢
    obtain ⟨a, b, c⟩ := h1
    rw [List.nodup_append] at b
    refine ⟨?_, b.1, fun x hx y hy => ?_⟩
    · rw [List.nodup_append]
      exact ⟨a, by simp, fun x hx y hy => c x hx y (by simp at hy; simp [hy])⟩
    · rcases List.mem_append.1 hx with hx | hx
      · exact c x hx y (by simp [hy])
      · simp at hx; subst hx
        exact fun e => b.2.2 y hy x (by simp) e.symm
  · rw [h3 u hu, tally_take hvR n, if_pos hv]
    simp
  · by_cases e : i < R.length
    · rw [nget_app e] at hc
      obtain ⟨k, hk, hkw⟩ := h5 i e w hw hc
      exact ⟨k, hk, by rw [nget_app (by omega)]; exact hkw⟩
    · obtain rfl : i = R.length := by simp at hi; omega
      rw [nget_new] at hc
      have hz := (h4 v hv).1 (by simp)
      rw [h3 v hv] at hz
      have hz2 := tally_zero.1 (show tally adj R v n = 0 by simpa using hz)
      by_cases hwR : w ∈ R
      · obtain ⟨k, hk, e⟩ := List.getElem_of_mem hwR
        exact ⟨k, hk, by rw [nget_app hk]; simpa [List.getD, hk] using e⟩
      · have := hz2 w hw hwR; omega

/-- One step is struck off; u is not yet free. -/
theorem Kahn.strike {n : Nat} {adj : Nat → List Nat} {R : List Nat} {u : Nat} {ex : List Nat} {g : Nat → Nat} {Q : List Nat} (h : Kahn n adj R (u :: ex) g Q) (hu : u < n) : 0 < g u ∧
    (g u ≠ 1 → Kahn n adj R ex (fun x => if x = u then g u - 1 else g x) Q) ∧ (g u = 1 → Kahn n adj R ex (fun x => if x = u then g u - 1 else g x) (Q ++ [u])) := by
  obtain ⟨h1, h2, h3, h4, h5⟩ := h
  have hpos : 0 < g u := by rw [h3 u hu]; simp; omega
  have hnot : u ∉ R ++ Q := fun hm => by have := (h4 u hu).1 hm; omega
  have hdeg : ∀ x, x < n → (fun x => if x = u then g u - 1 else g x) x = tally adj R x n + ex.count x := fun x hx => by
    by_cases e : x = u
    · subst e; simp [h3 x hx]
    · have : ¬ u = x := fun h => e h.symm
      simp [e, h3 x hx, this]
  refine ⟨hpos, fun h1' => ⟨h1, h2, hdeg, fun x hx => ?_, h5⟩, fun h1' => ⟨?_, fun x hx => ?_, hdeg, fun x hx => ?_, h5⟩⟩
  · by_cases e : x = u
    · subst e
      simp only [if_true]
      constructor
      · intro hm; exact absurd hm hnot
      · intro hz; omega
    · simp only [if_neg e]; exact h4 x hx
  · rw [← List.append_assoc, List.nodup_append]
    exact ⟨h1, by simp, fun a ha b hb => by simp at hb; subst hb; exact fun e => hnot (e ▸ ha)⟩
  · rw [← List.append_assoc] at hx
    rcases List.mem_append.1 hx with hx | hx
    · exact h2 x hx
    · simp at hx; subst hx; exact hu
  · rw [← List.append_assoc, List.mem_append]
    by_cases e : x = u
    · subst e; simp [h1']
    · simp only [if_neg e]
      rw [← h4 x hx]
      simp [e]

/-- The end: whoever is free has been taken. -/
structure Taken (n : Nat) (adj : Nat → List Nat) (R : List Nat) : Prop where
  nodup : R.Nodup
  lt : ∀ u ∈ R, u < n
  free : ∀ u, u < n → tally adj R u n = 0 → u ∈ R
  order : ∀ i, i < R.length → ∀ w, w < n → 0 < (adj w).count (R.getD i 0) → ∃ k, k < i ∧ R.getD k 0 = w
theorem Kahn.done {n : Nat} {adj : Nat → List Nat} {R : List Nat} {g : Nat → Nat} (h : Kahn n adj R [] g []) : Taken n adj R := by
  obtain ⟨h1, h2, h3, h4, h5⟩ := h
  refine ⟨by simpa using h1, fun u hu => h2 u (by simpa using hu), fun u hu hz => ?_, h5⟩
  have := (h4 u hu).2 (by rw [h3 u hu, hz]; rfl)
  simpa using this

/-- The graph by numbers. -/
def adjOf (deps : ByteArray → List ByteArray) (N : List ByteArray) (v : Nat) : List Nat := (deps (N.getD v noS)).map (fun d => (idOf N d).getD 0)

theorem adj_mem {deps : ByteArray → List ByteArray} {N : List ByteArray} (hC : Closed deps N) {w u : Nat} (hw : w < N.length) (hu : u < N.length) : 0 < (adjOf deps N w).count u ↔ N.getD u noS ∈ deps (N.getD w noS) := by
  rw [List.count_pos_iff]
  unfold adjOf
  rw [List.mem_map]
  constructor
  · rintro ⟨d, hd, e⟩
    have hdN := hC.closed _ (getm hw) d hd
    obtain ⟨i, hi⟩ := idOf_mem hdN
    rw [hi] at e
    obtain ⟨h1, h2⟩ := idOf_get hi
    have : i = u := by simpa using e
    subst this
    rw [h2]
    exact hd
  · intro h
    exact ⟨_, h, by rw [idOf_at hC.nodup hu]; rfl⟩

/-- A cycle is never taken whole. -/
theorem taken_cyc {deps : ByteArray → List ByteArray} {N l : List ByteArray} {R : List Nat} (hC : Closed deps N) (hT : Taken N.length (adjOf deps N) R) (hl : Cyc deps N l) : R.length ≠ N.length := by
  intro hlen
  have hnone : ∀ m i, i < m → i < R.length → N.getD (R.getD i 0) noS ∉ l := by
    intro m
    induction m with
    | zero => intro i hi; omega
    | succ m ih =>
      intro i hi hiR hmem
      obtain ⟨j, hj, e⟩ := List.getElem_of_mem hmem
      have ej : l.getD j noS = N.getD (R.getD i 0) noS := by simp [List.getD, hj]; simpa [List.getD] using e
      -- the one before it on the cycle
      have hlp := hl.pos
      obtain ⟨k, hk, hkj⟩ : ∃ k, k < l.length ∧ (k + 1) % l.length = j := by
        by_cases e0 : j = 0
        · exact ⟨l.length - 1, by omega, by rw [Nat.sub_add_cancel (by omega), Nat.mod_self, e0]⟩
        · exact ⟨j - 1, by omega, by rw [Nat.sub_add_cancel (by omega), Nat.mod_eq_of_lt hj]⟩
      have hst := hl.next k hk
      rw [hkj, ej] at hst
      have hpN := hl.inN _ (getm hk)
      obtain ⟨w, hw⟩ := idOf_mem hpN
      obtain ⟨hw1, hw2⟩ := idOf_get hw
      have hRi : R.getD i 0 < N.length := hT.lt _ (by simp [List.getD, hiR])
      have hc := (adj_mem hC hw1 hRi).2 (by rw [hw2]; exact hst)
      obtain ⟨q, hq, hqw⟩ := hT.order i hiR w hw1 hc
      refine ih q (by omega) (by omega) ?_
      rw [hqw, hw2]
      exact getm hk
  obtain ⟨w, hw⟩ := idOf_mem (hl.inN _ (getm hl.pos))
  obtain ⟨hw1, hw2⟩ := idOf_get hw
  have hall : w ∈ R := by
    by_cases hm : w ∈ R
    · exact hm
    · have hn : (w :: R).Nodup := List.nodup_cons.2 ⟨hm, hT.nodup⟩
      have : (w :: R).length ≤ (List.range N.length).length := nodup_len hn (fun u hu => by
        rcases List.mem_cons.1 hu with h | h
        · subst h; simpa using hw1
        · simpa using hT.lt u h)
      simp at this
      omega
  obtain ⟨i, hi, e⟩ := List.getElem_of_mem hall
  refine hnone (i + 1) i (by omega) hi ?_
  have : R.getD i 0 = w := by simp [List.getD, hi, e]
  rw [this, hw2]
  exact getm hl.pos

/-- Without a cycle all are taken. -/
theorem taken_all {deps : ByteArray → List ByteArray} {N D : List ByteArray} {R : List Nat} (hC : Closed deps N) (hT : Taken N.length (adjOf deps N) R) (hD : Topo deps D) (hN : ∀ s ∈ N, s ∈ D) : R.length = N.length := by
  have hin : ∀ m i, D.length - i < m → i < D.length → ∀ u, u < N.length → N.getD u noS = D.getD i noS → u ∈ R := by
    intro m
    induction m with
    | zero => intro i hi; omega
    | succ m ih =>
      intro i hi hiD u hu hue
      refine hT.free u hu (tally_zero.2 (fun w hw hwR => ?_))
      by_cases hc : 0 < (adjOf deps N w).count u
      · exfalso
        have hd := (adj_mem hC hw hu).1 hc
        obtain ⟨k, hk, ek⟩ := List.getElem_of_mem (hN _ (getm hw))
        have ek' : D.getD k noS = N.getD w noS := by simp [List.getD, hk]; simpa [List.getD] using ek
        obtain ⟨j, hj, hjd⟩ := hD.first k hk _ (by rw [ek']; exact hd)
        have hij : j = i := by
          have h1 := idOf_at hD.nodup (show j < D.length by omega)
          have h2 := idOf_at hD.nodup hiD
          rw [hjd, hue, h2] at h1
          exact (Option.some.inj h1).symm
        subst hij
        exact hwR (ih k (by omega) hk w hw ek'.symm)
      · omega
  have hle : R.length ≤ N.length := by
    have : R.length ≤ (List.range N.length).length := nodup_len hT.nodup (fun u hu => by simpa using hT.lt u hu)
    simpa using this
  have hge : (List.range N.length).length ≤ R.length := nodup_len List.nodup_range (fun u hu => by
    have hu' : u < N.length := by simpa using hu
    obtain ⟨i, hi, e⟩ := List.getElem_of_mem (hN _ (getm hu'))
    exact hin (D.length - i + 1) i (by omega) hi u hu' (by simp [List.getD, hi]; simpa [List.getD] using e.symm))
  simp at hge
  omega

end Go.Proofs.Qxb6601698a
