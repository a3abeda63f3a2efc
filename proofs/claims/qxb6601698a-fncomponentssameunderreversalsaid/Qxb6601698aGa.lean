/-
  The search for a cycle: plain.
-/
import Derived.Test.Qxb6601698aKc
namespace Go.Proofs.Qxb6601698a

/-- Done in an order that puts what a name depends on first. -/
structure Topo (deps : ByteArray → List ByteArray) (D : List ByteArray) : Prop where
  nodup : D.Nodup
  first : ∀ i, i < D.length → ∀ d ∈ deps (D.getD i noS), ∃ j, j < i ∧ D.getD j noS = d
theorem getm {l : List ByteArray} {i : Nat} (h : i < l.length) : l.getD i noS ∈ l := by simp [List.getD, h]
theorem Topo.closed {deps : ByteArray → List ByteArray} {D : List ByteArray} (h : Topo deps D) {s d : ByteArray} (hs : s ∈ D) (hd : d ∈ deps s) : d ∈ D := by
  obtain ⟨i, hi, rfl⟩ := List.getElem_of_mem hs
  obtain ⟨j, hj, rfl⟩ := h.first i hi d (by simpa [List.getD, hi] using hd)
  exact getm (by omega)
theorem Topo.add {deps : ByteArray → List ByteArray} {D : List ByteArray} {s : ByteArray} (h : Topo deps D) (hs : s ∉ D) (hd : ∀ d ∈ deps s, d ∈ D) : Topo deps (D ++ [s]) := by
  refine ⟨nodup_snoc h.nodup hs, fun i hi d hd' => ?_⟩
  by_cases e : i < D.length
  · rw [getD_app e] at hd'
    obtain ⟨j, hj, hjd⟩ := h.first i e d hd'
    exact ⟨j, hj, by rw [getD_app (by omega)]; exact hjd⟩
  · obtain rfl : i = D.length := by simp at hi; omega
    rw [getD_new] at hd'
    obtain ⟨j, hj, e⟩ := List.getElem_of_mem (hd d hd')
    exact ⟨j, hj, by rw [getD_app hj]; simpa [List.getD, hj] using e⟩

/-- How the search stands. -/
structure Dfs (deps : ByteArray → List ByteArray) (N P : List ByteArray) (X : List Nat) (D : List ByteArray) : Prop where
  topo : Topo deps D
  nodup : P.Nodup
  len : X.length = P.length
  inN : ∀ s ∈ P, s ∈ N
  dN : ∀ s ∈ D, s ∈ N
  apart : ∀ s ∈ P, s ∉ D
  le : ∀ i, i < P.length → X.getD i 0 ≤ (deps (P.getD i noS)).length
  link : ∀ i, i + 1 < P.length → 0 < X.getD i 0 ∧ (deps (P.getD i noS)).getD (X.getD i 0 - 1) noS = P.getD (i + 1) noS
  fin : ∀ i, i < P.length → ∀ j, j < X.getD i 0 → (i + 1 < P.length → j + 1 < X.getD i 0) → (deps (P.getD i noS)).getD j noS ∈ D

/-- What is closed, named N. -/
structure Closed (deps : ByteArray → List ByteArray) (N : List ByteArray) : Prop where
  nodup : N.Nodup
  closed : ∀ s ∈ N, ∀ d ∈ deps s, d ∈ N
  dlen : ∀ s ∈ N, (deps s).length ≤ 131072
  len : N.length ≤ 131072
  small : ∀ s ∈ N, s.size ≤ 1048576

theorem Dfs.rest {deps : ByteArray → List ByteArray} {N D : List ByteArray} (h : Topo deps D) (hd : ∀ s ∈ D, s ∈ N) : Dfs deps N [] [] D :=
  ⟨h, List.nodup_nil, rfl, (fun s hs => by cases hs), hd, (fun s hs => by cases hs), (fun i hi => by simp at hi), (fun i hi => by simp at hi), (fun i hi => by simp at hi)⟩

theorem xapp {X : List Nat} {x j : Nat} (h : j < X.length) : (X ++ [x]).getD j 0 = X.getD j 0 := by simp [List.getD, List.getElem?_append_left h]
theorem xnew {X : List Nat} {x : Nat} : (X ++ [x]).getD X.length 0 = x := by simp [List.getD]
theorem xset {X : List Nat} {i j x : Nat} (hi : i < X.length) : (X.set i x).getD j 0 = if j = i then x else X.getD j 0 := by
  by_cases e : j = i
  · subst e; simp [List.getD, hi]
  · simp [List.getD, e, List.getElem?_set_ne (fun h => e h.symm)]

/-- A root is begun. -/
theorem Dfs.root {deps : ByteArray → List ByteArray} {N D : List ByteArray} {r : ByteArray} (h : Topo deps D) (hd : ∀ s ∈ D, s ∈ N) (hr : r ∈ N) (hn : r ∉ D) : Dfs deps N [r] [0] D := by
  refine ⟨h, by simp, rfl, fun s hs => ?_, hd, fun s hs => ?_, fun i hi => ?_, fun i hi => ?_, fun i hi j hj => ?_⟩
  · simp at hs; subst hs; exact hr
  · simp at hs; subst hs; exact hn
  · obtain rfl : i = 0 := by simp at hi; omega
    simp [List.getD]
  · simp at hi
  · obtain rfl : i = 0 := by simp at hi; omega
    simp [List.getD] at hj

/-- The top has been followed to its end. -/
theorem Dfs.pop {deps : ByteArray → List ByteArray} {N P : List ByteArray} {X : List Nat} {D : List ByteArray} {s : ByteArray} {x : Nat} (h : Dfs deps N (P ++ [s]) (X ++ [x]) D) (hx : x = (deps s).length) : Dfs deps N P X (D ++ [s]) ∧ s ∉ D ∧ s ∉ P := by
  obtain ⟨h1, h2, h3, h4, h5, h6, h7, h8, h9⟩ := h
  have hl : X.length = P.length := by simpa using h3
  have hsD : s ∉ D := h6 s (by simp)
  have hsP : s ∉ P := fun hs => by
    rw [List.nodup_append] at h2
    exact h2.2.2 s hs s (by simp) rfl
  have hP : P.Nodup := by rw [List.nodup_append] at h2; exact h2.1
  have hall : ∀ d ∈ deps s, d ∈ D := fun d hd => by
    obtain ⟨j, hj, e⟩ := List.getElem_of_mem hd
    have := h9 P.length (by simp) j (by rw [← hl, xnew, hx]; exact hj) (fun hc => by simp at hc)
    rw [getD_new] at this
    have e2 : (deps s).getD j noS = d := by simp [List.getD, hj, e]
    rwa [e2] at this
  refine ⟨⟨h1.add hsD hall, hP, hl, fun t ht => h4 t (by simp [ht]), fun t ht => ?_, fun t ht hd => ?_, fun i hi => ?_, fun i hi => ?_, fun i hi j hj hc => ?_⟩, hsD, hsP⟩
  · rcases List.mem_append.1 ht with h | h
    · exact h5 t h
    · simp at h; subst h; exact h4 t (by simp)
  · rcases List.mem_append.1 hd with h | h
    · exact h6 t (by simp [ht]) h
    · simp at h; subst h; exact hsP ht
  · have := h7 i (by simp; omega)
    rwa [xapp (by omega), getD_app hi] at this
  · have := h8 i (by simp; omega)
    rwa [xapp (by omega), getD_app (by omega), getD_app hi] at this
  · have hl8 := h8 i (by simp; omega)
    have h9' := h9 i (by simp; omega) j (by rw [xapp (by omega)]; exact hj)
    rw [xapp (by omega), getD_app hi] at h9'
    rw [xapp (by omega), getD_app hi] at hl8
    by_cases e : j + 1 < X.getD i 0
    · exact List.mem_append_left _ (h9' (fun _ => e))
    · have ej : j = X.getD i 0 - 1 := by omega
      by_cases hi1 : i + 1 < P.length
      · exact absurd (hc hi1) e
      · have ei : i + 1 = P.length := by omega
        rw [ej, hl8.2, ei, getD_new]
        simp

/-- One dependency further: it was done already. -/
theorem Dfs.skip {deps : ByteArray → List ByteArray} {N P : List ByteArray} {X : List Nat} {D : List ByteArray} {s d : ByteArray} {x : Nat} (h : Dfs deps N (P ++ [s]) (X ++ [x]) D) (hx : x < (deps s).length) (hd : (deps s).getD x noS = d) (hD : d ∈ D) : Dfs deps N (P ++ [s]) (X ++ [x + 1]) D := by
  obtain ⟨h1, h2, h3, h4, h5, h6, h7, h8, h9⟩ := h
  have hl : X.length = P.length := by simpa using h3
  refine ⟨h1, h2, by simpa using hl, h4, h5, h6, fun i hi => ?_, fun i hi => ?_, fun i hi j hj hc => ?_⟩
  · by_cases e : i < P.length
    · have := h7 i hi; rwa [xapp (by omega)] at this ⊢
    · obtain rfl : i = P.length := by simp at hi; omega
      rw [← hl, xnew, hl, getD_new]; omega
  · have : i < P.length := by simp at hi; omega
    have h := h8 i hi
    rwa [xapp (by omega)] at h ⊢
  · by_cases e : i < P.length
    · have h := h9 i hi j
      rw [xapp (by omega)] at h hj hc
      exact h hj hc
    · obtain rfl : i = P.length := by simp at hi; omega
      rw [← hl, xnew] at hj
      rw [getD_new]
      by_cases ej : j = x
      · subst ej; rw [hd]; exact hD
      · have := h9 P.length (by simp) j (by rw [← hl, xnew]; omega) (fun hc => by simp at hc)
        rwa [getD_new] at this

/-- One dependency further: it is walked down. -/
theorem Dfs.push {deps : ByteArray → List ByteArray} {N P : List ByteArray} {X : List Nat} {D : List ByteArray} {s d : ByteArray} {x : Nat} (h : Dfs deps N (P ++ [s]) (X ++ [x]) D) (hx : x < (deps s).length) (hd : (deps s).getD x noS = d) (hD : d ∉ D) (hP : d ∉ P ++ [s]) (hN : d ∈ N) :
    Dfs deps N (P ++ [s] ++ [d]) (X ++ [x + 1] ++ [0]) D := by
  obtain ⟨h1, h2, h3, h4, h5, h6, h7, h8, h9⟩ := h
  have hl : X.length = P.length := by simpa using h3
  have hl1 : (X ++ [x + 1]).length = (P ++ [s]).length := by simp [hl]
  refine ⟨h1, nodup_snoc h2 hP, by simp [hl], fun t ht => ?_, h5, fun t ht => ?_, fun i hi => ?_, fun i hi => ?_, fun i hi j hj hc => ?_⟩
  · rcases List.mem_append.1 ht with h | h
    · exact h4 t h
    · simp at h; subst h; exact hN
  · rcases List.mem_append.1 ht with h | h
    · exact h6 t h
    · simp at h; subst h; exact hD
  · by_cases e : i < (P ++ [s]).length
    · rw [xapp (by omega), getD_app e]
      by_cases e2 : i < P.length
      · have := h7 i e; rw [xapp (by omega)] at this ⊢; exact this
      · obtain rfl : i = P.length := by simp at e; omega
        rw [← hl, xnew, hl, getD_new]; omega
    · obtain rfl : i = (P ++ [s]).length := by simp at hi e ⊢; omega
      rw [← hl1, xnew]; exact Nat.zero_le _
  · by_cases e : i + 1 < (P ++ [s]).length
    · have e2 : i < P.length := by simp at e; omega
      rw [xapp (by simp; omega), getD_app (by omega), getD_app e, xapp (by omega)]
      have := h8 i e
      rwa [xapp (by omega)] at this
    · have e2 : i = P.length := by simp at hi e; omega
      subst e2
      rw [xapp (by simp; omega), getD_app (by simp), ← hl, xnew, hl, getD_new]
      refine ⟨by omega, ?_⟩
      have e3 : (P ++ [s] ++ [d]).getD (P.length + 1) noS = d := by
        have := getD_new (N := P ++ [s]) (x := d)
        rwa [List.length_append] at this
      rw [e3]
      simpa using hd
  · by_cases e : i < (P ++ [s]).length
    · rw [xapp (by omega)] at hj hc
      rw [getD_app e]
      by_cases e2 : i < P.length
      · rw [xapp (by omega)] at hj hc
        refine h9 i e j (by rw [xapp (by omega)]; exact hj) (fun _ => ?_)
        rw [xapp (by omega)]
        exact hc (by simp; omega)
      · obtain rfl : i = P.length := by simp at e; omega
        rw [← hl, xnew] at hj hc
        have hj2 := hc (by rw [hl]; simp)
        rw [getD_new]
        have := h9 P.length (by simp) j (by rw [← hl, xnew]; omega) (fun hc => by simp at hc)
        rwa [getD_new] at this
    · obtain rfl : i = (P ++ [s]).length := by simp at hi e ⊢; omega
      rw [← hl1, xnew] at hj
      omega

/-- A cycle. -/
structure Cyc (deps : ByteArray → List ByteArray) (N l : List ByteArray) : Prop where
  pos : 0 < l.length
  nodup : l.Nodup
  inN : ∀ s ∈ l, s ∈ N
  next : ∀ i, i < l.length → l.getD ((i + 1) % l.length) noS ∈ deps (l.getD i noS)

theorem Dfs.cyc {deps : ByteArray → List ByteArray} {N P : List ByteArray} {X : List Nat} {D : List ByteArray} {s d : ByteArray} {x k : Nat} (h : Dfs deps N (P ++ [s]) (X ++ [x]) D) (hx : x < (deps s).length) (hd : (deps s).getD x noS = d)
    (hk : k < (P ++ [s]).length) (hkd : (P ++ [s]).getD k noS = d) : Cyc deps N ((P ++ [s]).drop k) := by
  have hl : X.length = P.length := by simpa using h.len
  have gd : ∀ i, ((P ++ [s]).drop k).getD i noS = (P ++ [s]).getD (k + i) noS := fun i => by simp [List.getD, List.getElem?_drop]
  refine ⟨by simp at hk ⊢; omega, h.nodup.sublist (List.drop_sublist _ _), fun t ht => h.inN t (List.mem_of_mem_drop ht), fun i hi => ?_⟩
  rw [gd, gd]
  have hL : ((P ++ [s]).drop k).length = P.length + 1 - k := by simp
  rw [hL] at hi ⊢
  by_cases e : i + 1 < P.length + 1 - k
  · rw [Nat.mod_eq_of_lt e]
    have hlk := h.link (k + i) (by simp; omega)
    have hle := h.le (k + i) (by simp; omega)
    rw [← Nat.add_assoc, ← hlk.2]
    exact getm (by omega)
  · have e2 : i + 1 = P.length + 1 - k := by omega
    rw [e2, Nat.mod_self, Nat.add_zero, hkd]
    have e3 : k + i = P.length := by simp at hk; omega
    rw [e3, getD_new, ← hd]
    simp [List.getD, hx]

/-- How many rounds are to come at most. -/
def muX (X : List Nat) : Nat := (X.map (fun x => 131073 - x)).sum
def mu (N P : List ByteArray) (X : List Nat) (D : List ByteArray) : Nat := 131074 * (N.length - D.length - P.length) + muX X
theorem muX_snoc (X : List Nat) (x : Nat) : muX (X ++ [x]) = muX X + (131073 - x) := by simp [muX]

theorem nodup_le : ∀ {l N : List ByteArray}, l.Nodup → (∀ s ∈ l, s ∈ N) → l.length ≤ N.length
  | [], _, _, _ => Nat.zero_le _
  | x :: r, N, hl, h => by
    obtain ⟨h1, h2⟩ := List.nodup_cons.1 hl
    have hx := h x (by simp)
    obtain ⟨A, B, rfl⟩ := List.append_of_mem hx
    have := nodup_le (l := r) (N := A ++ B) h2 (fun s hs => by
      have := h s (by simp [hs])
      rcases List.mem_append.1 this with h3 | h3
      · exact List.mem_append_left _ h3
      · rcases List.mem_cons.1 h3 with h4 | h4
        · subst h4; exact absurd hs h1
        · exact List.mem_append_right _ h4)
    simp at this ⊢
    omega
theorem Dfs.room {deps : ByteArray → List ByteArray} {N P : List ByteArray} {X : List Nat} {D : List ByteArray} (h : Dfs deps N P X D) : D.length + P.length ≤ N.length := by
  have hn : (D ++ P).Nodup := by
    rw [List.nodup_append]
    exact ⟨h.topo.nodup, h.nodup, fun a ha b hb e => h.apart b hb (e ▸ ha)⟩
  have := nodup_le hn (fun s hs => by
    rcases List.mem_append.1 hs with h' | h'
    · exact h.dN s h'
    · exact h.inN s h')
  simpa using this

end Go.Proofs.Qxb6601698a
