/-
  What zzB1Explore lists: plain; the memory that it keeps.
-/
import Derived.Test.Qxb6601698aKb
namespace Go.Proofs.Qxb6601698a
open Go.RowKit

/-- The place of a name in the list. -/
def idOf : List ByteArray → ByteArray → Option Nat
  | [], _ => none
  | x :: r, s => if x = s then some 0 else (idOf r s).map (· + 1)
theorem idOf_none : ∀ {N : List ByteArray} {s : ByteArray}, idOf N s = none ↔ s ∉ N
  | [], s => by simp [idOf]
  | x :: r, s => by
    unfold idOf
    by_cases h : x = s
    · subst h; simp
    · have ih := idOf_none (N := r) (s := s)
      have hs : ¬ s = x := fun e => h e.symm
      simp [h, hs, ih]
theorem idOf_get : ∀ {N : List ByteArray} {s : ByteArray} {i : Nat}, idOf N s = some i → i < N.length ∧ N.getD i noS = s
  | [], s, i, h => by simp [idOf] at h
  | x :: r, s, i, h => by
    unfold idOf at h
    by_cases e : x = s
    · rw [if_pos e] at h
      cases h
      exact ⟨by simp, e⟩
    · rw [if_neg e, Option.map_eq_some_iff] at h
      obtain ⟨j, hj, rfl⟩ := h
      obtain ⟨h1, h2⟩ := idOf_get hj
      exact ⟨by simpa using h1, by simpa [List.getD] using h2⟩
theorem idOf_mem {N : List ByteArray} {s : ByteArray} (h : s ∈ N) : ∃ i, idOf N s = some i := by
  cases e : idOf N s with
  | none => exact absurd h (idOf_none.1 e)
  | some i => exact ⟨i, rfl⟩
theorem idOf_append {x : ByteArray} : ∀ {N : List ByteArray}, x ∉ N → ∀ s, idOf (N ++ [x]) s = if s = x then some N.length else idOf N s
  | [], _, s => by
    by_cases e : x = s
    · subst e; simp [idOf]
    · have : ¬ s = x := fun h => e h.symm
      simp [idOf, e, this]
  | y :: r, hx, s => by
    have hxr : x ∉ r := fun h => hx (List.mem_cons_of_mem _ h)
    have ih := idOf_append hxr s
    simp only [List.cons_append, idOf, ih, List.length_cons]
    by_cases e : y = s
    · subst e
      have : ¬ y = x := fun h => hx (by simp [h])
      simp [this]
    · by_cases e2 : s = x
      · simp [e2]
        intro h3
        exact absurd (h3.trans e2.symm) e
      · simp [e, e2]
theorem idOf_at : ∀ {N : List ByteArray} {i : Nat}, N.Nodup → i < N.length → idOf N (N.getD i noS) = some i
  | [], i, _, h => by simp at h
  | x :: r, 0, _, _ => by simp [idOf, List.getD]
  | x :: r, i + 1, hn, h => by
    have hn' := List.nodup_cons.1 hn
    have ih := idOf_at (N := r) (i := i) hn'.2 (by simpa using h)
    have e : (x :: r).getD (i + 1) noS = r.getD i noS := by simp [List.getD]
    rw [e]
    have hm : r.getD i noS ∈ r := by
      have : i < r.length := by simpa using h
      simp [List.getD, this]
    have hne : ¬ x = r.getD i noS := fun e => hn'.1 (e ▸ hm)
    unfold idOf
    rw [if_neg hne, ih]
    rfl

def idF (N : List ByteArray) (s : ByteArray) : Option Value := (idOf N s).map (fun i => .int .i64 i)
theorem idF_upd {N : List ByteArray} {x : ByteArray} (hx : x ∉ N) : upd (idF N) x (.int .i64 N.length) = idF (N ++ [x]) := by
  funext s
  unfold upd idF
  rw [idOf_append hx s]
  by_cases e : s = x
  · simp [e]
  · simp [e]

/-- What is listed when q of the listed names have been followed. -/
structure Expl (roots : List ByteArray) (deps : ByteArray → List ByteArray) (N : List ByteArray) (q : Nat) : Prop where
  nodup : N.Nodup
  rts : ∀ r ∈ roots, r ∈ N
  closed : ∀ j, j < q → ∀ d ∈ deps (N.getD j noS), d ∈ N
  origin : ∀ j, j < N.length → N.getD j noS ∈ roots ∨ ∃ i, i < j ∧ N.getD j noS ∈ deps (N.getD i noS)
  small : ∀ s ∈ N, s.size ≤ 1048576
  dlen : ∀ j, j < q → (deps (N.getD j noS)).length ≤ 131072
  len : N.length ≤ 131072
  le : q ≤ N.length

theorem getD_app {N : List ByteArray} {x : ByteArray} {j : Nat} (h : j < N.length) : (N ++ [x]).getD j noS = N.getD j noS := by simp [List.getD, List.getElem?_append_left h]
theorem getD_new {N : List ByteArray} {x : ByteArray} : (N ++ [x]).getD N.length noS = x := by simp [List.getD]
theorem nodup_snoc {N : List ByteArray} {x : ByteArray} (h : N.Nodup) (hx : x ∉ N) : (N ++ [x]).Nodup := by
  rw [List.nodup_append]
  refine ⟨h, by simp, fun a ha b hb => ?_⟩
  simp at hb
  subst hb
  exact fun e => hx (e ▸ ha)
theorem Expl.add {roots : List ByteArray} {deps : ByteArray → List ByteArray} {N : List ByteArray} {q : Nat} {x : ByteArray} (h : Expl roots deps N q) (hx : x ∉ N) (hs : x.size ≤ 1048576) (hl : N.length < 131072)
    (ho : ∃ i, i < N.length ∧ x ∈ deps (N.getD i noS)) : Expl roots deps (N ++ [x]) q := by
  obtain ⟨h1, h2, h3, h4, h5, h6, h7, h8⟩ := h
  refine ⟨nodup_snoc h1 hx, fun r hr => by simp [h2 r hr], fun j hj d hd => ?_, fun j hj => ?_, fun s hs' => ?_, fun j hj => ?_, by simp; omega, by simp; omega⟩
  · rw [getD_app (by omega)] at hd; simp [h3 j hj d hd]
  · by_cases e : j < N.length
    · rw [getD_app e]
      rcases h4 j e with h | ⟨i, hi, h⟩
      · exact .inl h
      · exact .inr ⟨i, hi, by rw [getD_app (by omega)]; exact h⟩
    · obtain rfl : j = N.length := by simp at hj; omega
      rw [getD_new]
      obtain ⟨i, hi, h⟩ := ho
      exact .inr ⟨i, hi, by rw [getD_app hi]; exact h⟩
  · rcases List.mem_append.1 hs' with h | h
    · exact h5 s h
    · simp at h; subst h; exact hs
  · rw [getD_app (by omega)]; exact h6 j hj
theorem Expl.next {roots : List ByteArray} {deps : ByteArray → List ByteArray} {N : List ByteArray} {q : Nat} (h : Expl roots deps N q) (hq : q < N.length) (hc : ∀ d ∈ deps (N.getD q noS), d ∈ N) (hl : (deps (N.getD q noS)).length ≤ 131072) : Expl roots deps N (q + 1) := by
  obtain ⟨h1, h2, h3, h4, h5, h6, h7, h8⟩ := h
  refine ⟨h1, h2, fun j hj => ?_, h4, h5, fun j hj => ?_, h7, hq⟩
  · by_cases e : j = q
    · subst e; exact hc
    · exact h3 j (by omega)
  · by_cases e : j = q
    · subst e; exact hl
    · exact h6 j (by omega)

/-- The memory of the search. -/
structure Seen (w wr : World) (nv : Value) (N : List ByteArray) : Prop where
  grow : Grow w wr
  ids : Mp wr w.heap.size N.length (idF N)
  own : wr.ownsRow (w.heap.size + 1) 9 1 nv N.length (N.map .string)
theorem Seen.start (w : World) : Seen w (w.alloc (.map #[] 0)) (.slice none 0 0) [] := by
  refine ⟨(Grow.refl w).alloc _, ?_, ⟨rfl, .inl ⟨rfl, rfl⟩⟩⟩
  exact Mp.made w
theorem Seen.add {w wr w1 w3 : World} {nv v' : Value} {N : List ByteArray} {x : ByteArray} {o : Obj} (h : Seen w wr nv N) (hx : x ∉ N) (hm1 : Mp w1 w.heap.size (N.length + 1) (upd (idF N) x (.int .i64 N.length))) (hg1 : wr.grownBy w1 (some w.heap.size))
    (hown3 : w3.ownsRow (w.heap.size + 1) 9 1 v' (N.length + 1) (N.map .string ++ [.string x])) (hg3 : (w1.alloc o).grownBy w3 nv.ownBlock) : Seen w w3 v' (N ++ [x]) := by
  have hb : ∀ k, nv.ownBlock = some k → w.heap.size + 1 ≤ k := fun k hk => (h.own.lt k hk).1
  refine ⟨((h.grow.grown hg1 (fun k hk => by cases hk; exact Nat.le_refl _)).alloc o).grown hg3 (fun k hk => by have := hb k hk; omega), ?_, ?_⟩
  · rw [idF_upd hx] at hm1
    have := (hm1.grow ((Grow.refl w1).alloc o)).kept hg3 (fun e => by have := hb _ e.symm; omega)
    simpa using this
  · simpa using hown3

/-- The map of the resources, to be looked into. -/
def Res (w : World) (mv : Value) (dep : ByteArray → Option (List ByteArray)) : Prop :=
  (mv = .map none ∧ ∀ s, dep s = none) ∨ ∃ b n f, mv = .map (some b) ∧ Mp w b n f ∧ ∀ s, (dep s = none ∧ f s = none) ∨ ∃ l a cap, dep s = some l ∧ f s = some (.slice a l.length cap) ∧ Strs w a l
theorem Res.grow {w w' : World} {mv : Value} {dep : ByteArray → Option (List ByteArray)} (h : Res w mv dep) (g : Grow w w') : Res w' mv dep := by
  rcases h with h | ⟨b, n, f, h1, h2, h3⟩
  · exact .inl h
  · refine .inr ⟨b, n, f, h1, h2.grow g, fun s => ?_⟩
    rcases h3 s with h | ⟨l, a, cap, e1, e2, e3⟩
    · exact .inl h
    · exact .inr ⟨l, a, cap, e1, e2, e3.grow g⟩
theorem zero23 (w : World) : (zeroValue 23).run Try.prog w = .ok (.slice none 0 0) w := by kernel_rfl
theorem zero3 (w : World) : (zeroValue 3).run Try.prog w = .ok (.int .i64 0) w := by kernel_rfl
theorem zero4 (w : World) : (zeroValue 4).run Try.prog w = .ok (.bool false) w := by kernel_rfl
def depsOf (dep : ByteArray → Option (List ByteArray)) (s : ByteArray) : List ByteArray := (dep s).getD []
theorem Res.look {w wr : World} {mv : Value} {dep : ByteArray → Option (List ByteArray)} (h : Res w mv dep) (g : Grow w wr) {s : ByteArray} (hs : s.size ≤ maxLen) :
    ∃ a cap, (Instr.lookup 49 mv (.string s) false).run Try.prog wr = .ok (.slice a (depsOf dep s).length cap) wr ∧ (Instr.lookup 49 mv (.string s) true).run Try.prog wr = .ok (.tuple #[.slice a (depsOf dep s).length cap, .bool (dep s).isSome]) wr ∧ Strs w a (depsOf dep s) := by
  rcases h with ⟨rfl, h⟩ | ⟨b, n, f, rfl, h2, h3⟩
  · have hd : depsOf dep s = [] := by simp [depsOf, h s]
    rw [hd, h s]
    refine ⟨none, 0, ?_, ?_, fun _ => rfl, fun i hi => by simp at hi⟩
    · exact Maps.look_nil false keyed9 Try.underlying49 (zero23 wr) (key9 hs)
    · exact Maps.look_nil true keyed9 Try.underlying49 (zero23 wr) (key9 hs)
  · have l1 := (h2.grow g).look Try.underlying49 (zero23 wr) hs
    have l2 := (h2.grow g).look_ok Try.underlying49 (zero23 wr) hs
    rcases h3 s with ⟨e1, e2⟩ | ⟨l, a, cap, e1, e2, e3⟩
    · have hd : depsOf dep s = [] := by simp [depsOf, e1]
      rw [e2] at l1 l2
      rw [hd, e1]
      exact ⟨none, 0, l1, l2, fun _ => rfl, fun i hi => by simp at hi⟩
    · have hd : depsOf dep s = l := by simp [depsOf, e1]
      rw [e2] at l1 l2
      rw [hd, e1]
      exact ⟨a, cap, l1, l2, e3⟩

end Go.Proofs.Qxb6601698a
