/-
  The walk of '(Links).components' (34).
-/
import Derived.Test.Qxb6601698aTc
import Derived.Deep.LoopGhost
namespace Go.Proofs.Qxb6601698a
open Go.RowKit

/-- A slice of numbers in memory, to be read. -/
def Nats (w : World) (a : Option Addr) (xs : List Nat) : Prop :=
  (a = none → xs = []) ∧ ∀ i, i < xs.length → ∃ b o, a = some ⟨b, o, none⟩ ∧ w.cell? ⟨b, o + i, none⟩ = some (.int .i64 (xs.getD i 0 : Nat))
theorem Nats.grow {w w' : World} {a : Option Addr} {xs : List Nat} (h : Nats w a xs) (g : Grow w w') : Nats w' a xs :=
  ⟨h.1, fun i hi => by
    obtain ⟨b, o, ha, hc⟩ := h.2 i hi
    exact ⟨b, o, ha, g.cell hc⟩⟩
/-- The rows of the graph. -/
def Rows2 (w : World) (a : Option Addr) (n : Nat) (adj : Nat → List Nat) : Prop :=
  ∀ v, v < n → ∃ b o, a = some ⟨b, o, none⟩ ∧ ∃ av cap, w.cell? ⟨b, o + v, none⟩ = some (.slice av (adj v).length cap) ∧ Nats w av (adj v)
theorem Rows2.grow {w w' : World} {a : Option Addr} {n : Nat} {adj : Nat → List Nat} (h : Rows2 w a n adj) (g : Grow w w') : Rows2 w' a n adj := fun v hv => by
  obtain ⟨b, o, ha, av, cap, hc, hn⟩ := h v hv
  exact ⟨b, o, ha, av, cap, g.cell hc, hn.grow g⟩

/-- The graph that the search is given. -/
structure Graph (n : Nat) (adj : Nat → List Nat) : Prop where
  n1 : n ≤ 65536
  lt : ∀ v, v < n → ∀ d ∈ adj v, d < n
  len : ∀ v, v < n → (adj v).length ≤ 131072

/-- Where the components' lists begin, and how long they are. -/
def offs : List (List Nat) → Nat → List (Nat × Nat)
  | [], _ => []
  | S :: r, k => (k, S.length) :: offs r (k + S.length)
theorem offs_snoc : ∀ (ML : List (List Nat)) (S : List Nat) (k : Nat), offs (ML ++ [S]) k = offs ML k ++ [(k + ML.flatten.length, S.length)]
  | [], S, k => by simp [offs]
  | T :: r, S, k => by
    simp only [List.cons_append, offs, offs_snoc r S (k + T.length), List.flatten_cons, List.length_append]
    rw [Nat.add_assoc]
theorem offs_length : ∀ (ML : List (List Nat)) (k : Nat), (offs ML k).length = ML.length
  | [], _ => rfl
  | T :: r, k => by simp [offs, offs_length r]

/-- The search's plain state beside the memory. -/
structure Ts (n : Nat) (adj : Nat → List Nat) (idx low comp : Nat → Nat) (op : Nat → Bool) (t : Nat) (O : List Nat) (XP : List (Nat × Nat)) (ML : List (List Nat)) : Prop where
  tj : Tj n adj idx low comp t O XP ML.flatten ML.length
  op : ∀ v, v < n → op v = decide (v ∈ O)
  cnt : t = ML.flatten.length + O.length
  mem : ∀ (c : Nat) (S : List Nat), ML[c]? = some S → S ≠ [] ∧ ∀ v ∈ S, comp v = c

section
variable {n : Nat} {adj : Nat → List Nat} {idx low comp : Nat → Nat} {op : Nat → Bool} {t : Nat} {O : List Nat} {XP : List (Nat × Nat)} {ML : List (List Nat)}

theorem Ts.le (h : Ts n adj idx low comp op t O XP ML) : t ≤ n := by
  have : (ML.flatten ++ O).length ≤ (List.range n).length := nodup_len h.tj.nd (fun u hu => by simpa using h.tj.lt u hu)
  rw [h.cnt]
  simpa using this
theorem ts_start (n : Nat) (adj : Nat → List Nat) (comp low : Nat → Nat) (op : Nat → Bool) (hop : ∀ v, op v = false) : Ts n adj (fun _ => 0) low comp op 0 [] [] [] :=
  ⟨tj_start n adj comp low, fun v _ => by simp [hop v], rfl, fun c S h => by simp at h⟩

theorem seen_next {r x d : Nat} (hd : (adj r)[x]? = some d) {v e : Nat} (he : Seen2 adj (XP ++ [(r, x + 1)]) v e) : Seen2 adj (XP ++ [(r, x)]) v e ∨ (v ∈ (XP ++ [(r, x)]).map Prod.fst ∧ e = d) := by
  have ef : (XP ++ [(r, x)]).map Prod.fst = (XP ++ [(r, x + 1)]).map Prod.fst := by simp
  rcases he with ⟨hn, he⟩ | ⟨k', j, hk, hj, he⟩
  · exact .inl (.inl ⟨by rw [ef]; exact hn, he⟩)
  · rcases List.mem_append.1 hk with hk | hk
    · exact .inl (.inr ⟨k', j, List.mem_append_left _ hk, hj, he⟩)
    · simp at hk
      obtain ⟨rfl, rfl⟩ := hk
      by_cases e2 : j = x
      · subst e2; rw [hd] at he; exact .inr ⟨by simp, (Option.some.inj he).symm⟩
      · exact .inl (.inr ⟨x, j, by simp, by omega, he⟩)

/-- The next step leads to an open one. -/
theorem Ts.toOpen {r x d : Nat} (h : Ts n adj idx low comp op t O (XP ++ [(r, x)]) ML) (hx : x < (adj r).length) (hd : (adj r)[x]? = some d) (hO : d ∈ O) : Ts n adj idx (fun y => if y = r then min (low r) (idx d) else low y) comp op t O (XP ++ [(r, x + 1)]) ML := by
  have := h.tj.look hx hd (List.mem_append_right _ hO)
  simp only [if_pos hO] at this
  exact ⟨this, h.op, h.cnt, h.mem⟩
/-- The next step leads to a closed one. -/
theorem Ts.toClosed {r x d : Nat} (h : Ts n adj idx low comp op t O (XP ++ [(r, x)]) ML) (hx : x < (adj r).length) (hd : (adj r)[x]? = some d) (hO : d ∉ O) (hi : idx d ≠ 0) (hn : d < n) : Ts n adj idx low comp op t O (XP ++ [(r, x + 1)]) ML := by
  have hv := (h.tj.vis d hn).1 hi
  have := h.tj.look hx hd hv
  simp only [if_neg hO] at this
  have e : (fun y => if y = r then low r else low y) = low := by
    funext y
    by_cases e : y = r
    · subst e; simp
    · simp [e]
  rw [e] at this
  exact ⟨this, h.op, h.cnt, h.mem⟩
/-- The next step leads to a new one. -/
theorem Ts.toNew {r x d : Nat} (h : Ts n adj idx low comp op t O (XP ++ [(r, x)]) ML) (hx : x < (adj r).length) (hd : (adj r)[x]? = some d) (hi : idx d = 0) (hn : d < n) :
    Ts n adj (fun y => if y = d then t + 1 else idx y) (fun y => if y = d then t + 1 else low y) comp (fun y => if y = d then true else op y) (t + 1) (O ++ [d]) (XP ++ [(r, x + 1)] ++ [(d, 0)]) ML := by
  have hdm : d ∈ adj r := List.mem_of_getElem? hd
  refine ⟨h.tj.meet hn hi (XP ++ [(r, x + 1)]) (by simp) (fun v y hy => ?_) (fun v e he => seen_next hd he) (fun a ha => ?_), fun v hv => ?_, ?_, h.mem⟩
  · rcases List.mem_append.1 hy with hy | hy
    · exact h.tj.xle v y (List.mem_append_left _ hy)
    · simp at hy; obtain ⟨rfl, rfl⟩ := hy; omega
  · rw [fst_snoc] at ha
    rcases List.mem_append.1 ha with ha | ha
    · have hl := h.tj.link
      rw [fst_snoc, List.pairwise_append] at hl
      exact (hl.2.2 a ha r (by simp)).trans (Reach.edge hdm)
    · simp at ha; rw [ha]; exact Reach.edge hdm
  · by_cases e : v = d
    · subst e; simp
    · simp only [if_neg e, h.op v hv]
      simp [e]
  · rw [h.cnt]; simp; omega
/-- A root is begun. -/
theorem Ts.root {d : Nat} (h : Ts n adj idx low comp op t [] [] ML) (hi : idx d = 0) (hn : d < n) :
    Ts n adj (fun y => if y = d then t + 1 else idx y) (fun y => if y = d then t + 1 else low y) comp (fun y => if y = d then true else op y) (t + 1) [d] [(d, 0)] ML := by
  refine ⟨h.tj.meet hn hi [] rfl (fun v y hy => by cases hy) (fun v e he => .inl he) (fun a ha => by cases ha), fun v hv => ?_, ?_, h.mem⟩
  · by_cases e : v = d
    · subst e; simp
    · simp only [if_neg e, h.op v hv]
      simp [e]
  · rw [h.cnt]; simp
/-- The top is left behind, still open. -/
theorem Ts.back {r u y : Nat} (h : Ts n adj idx low comp op t O (XP ++ [(u, y)] ++ [(r, (adj r).length)]) ML) (hl : low r ≠ idx r) : Ts n adj idx (fun z => if z = u then min (low u) (low r) else low z) comp op t O (XP ++ [(u, y)]) ML :=
  ⟨h.tj.back hl, h.op, h.cnt, h.mem⟩
/-- The top and what was opened since are shut. -/
theorem Ts.shut {r : Nat} {A B S : List Nat} (h : Ts n adj idx low comp op t (A ++ r :: B) (XP ++ [(r, (adj r).length)]) ML) (hl : low r = idx r) (hS : S.Perm (r :: B)) (op' : Nat → Bool) (hop : ∀ v, v < n → op' v = decide (v ∈ A)) :
    Ts n adj idx low (fun v => if v ∈ S then ML.length else comp v) op' t A XP (ML ++ [S]) := by
  have h1 := h.tj.shut hl S hS
  have ef : (ML ++ [S]).flatten = ML.flatten ++ S := by simp
  have hdisj : ∀ v ∈ ML.flatten, v ∉ S := fun v hv hm => by
    have hnd := h.tj.nd
    rw [List.nodup_append] at hnd
    exact hnd.2.2 v hv v (List.mem_append_right _ (hS.mem_iff.1 hm)) rfl
  refine ⟨by rw [ef]; simpa using h1, hop, ?_, fun c T hc => ?_⟩
  · rw [h.cnt, ef, List.length_append, List.length_append, hS.length_eq]
    simp
    omega
  · by_cases e : c < ML.length
    · rw [List.getElem?_append_left e] at hc
      obtain ⟨h2, h3⟩ := h.mem c T hc
      refine ⟨h2, fun v hv => ?_⟩
      have hvf : v ∈ ML.flatten := List.mem_flatten.2 ⟨T, List.mem_of_getElem? hc, hv⟩
      simp only [if_neg (hdisj v hvf)]
      exact h3 v hv
    · rw [List.getElem?_append_right (by omega)] at hc
      obtain ⟨h4, h5⟩ := List.getElem?_eq_some_iff.1 hc
      have hc0 : c = ML.length := by simp at h4; omega
      subst hc0
      have hT : T = S := by simpa using h5.symm
      subst hT
      refine ⟨fun e2 => ?_, fun v hv => by simp [hv]⟩
      rw [e2] at hS
      have := hS.length_eq
      simp at this

/-- How many rounds are to come at most. -/
def tmu (n t : Nat) (XP : List (Nat × Nat)) : Nat := 131074 * (n - t) + (XP.map (fun p => 131073 - p.2)).sum
theorem tmu_pop {n t r x : Nat} {XP : List (Nat × Nat)} (hx : x ≤ 131072) : tmu n t XP < tmu n t (XP ++ [(r, x)]) := by simp [tmu]; omega
theorem tmu_next {n t r x : Nat} {XP : List (Nat × Nat)} (hx : x < 131072) : tmu n t (XP ++ [(r, x + 1)]) < tmu n t (XP ++ [(r, x)]) := by simp [tmu]; omega
theorem tmu_new {n t r x d : Nat} {XP : List (Nat × Nat)} (hx : x < 131072) (ht : t < n) : tmu n (t + 1) (XP ++ [(r, x + 1)] ++ [(d, 0)]) < tmu n t (XP ++ [(r, x)]) := by
  simp [tmu]
  have e : n - t = (n - (t + 1)) + 1 := by omega
  rw [e]
  omega
end

end Go.Proofs.Qxb6601698a
