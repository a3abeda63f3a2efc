/-
  The turned graph has the same components: plain; the two rows that tell the numbering.
-/
import Derived.Test.Qxb6601698aSf
import Derived.Deep.Slices
namespace Go.Proofs.Qxb6601698a
open Go.RowKit

section
variable {n : Nat} {adj R : Nat → List Nat} {comp c1 c2 : Nat → Nat} {ML ML1 ML2 : List (List Nat)}

/-- Of two numbers: the same component, or each reaches the other. -/
theorem Parted.iff (h : Parted n adj comp ML) (hlt : ∀ v, v < n → ∀ d ∈ adj v, d < n) {u v : Nat} (hu : u < n) (hv : v < n) : comp u = comp v ↔ Reach adj u v ∧ Reach adj v u := by
  refine ⟨fun e => ⟨h.scc u hu v hv e, h.scc v hv u hu e.symm⟩, fun ⟨⟨k, hk⟩, ⟨l, hl⟩⟩ => ?_⟩
  have h1 := (h.downR hlt hu hk).2
  have h2 := (h.downR hlt hv hl).2
  omega

theorem reach_back (h : ∀ u v, v ∈ R u → u ∈ adj v) : ∀ {k u v : Nat}, reachN R k u v → Reach adj v u
  | 0, u, v, e => by
    have e : u = v := e
    rw [e]
    exact Reach.refl _ _
  | k + 1, u, v, ⟨m, hm, e⟩ => (reach_back h e).trans (Reach.edge (h u m hm))
theorem reach_turn (hlt : ∀ v, v < n → ∀ d ∈ adj v, d < n) (h : ∀ u, u < n → ∀ d ∈ adj u, u ∈ R d) : ∀ {k u v : Nat}, u < n → reachN adj k u v → Reach R v u
  | 0, u, v, _, e => by
    have e : u = v := e
    rw [e]
    exact Reach.refl _ _
  | k + 1, u, v, hu, ⟨m, hm, e⟩ => (reach_turn hlt h (hlt u hu m hm) e).trans (Reach.edge (h u hu m hm))
theorem Rin.reach (h : Rin n adj (fun _ _ => True) n 0 R) (hlt : ∀ v, v < n → ∀ d ∈ adj v, d < n) {u v : Nat} (hv : v < n) : Reach R u v ↔ Reach adj v u :=
  ⟨fun ⟨_, e⟩ => reach_back (fun d m hm => (h.sound d m hm).2.1) e, fun ⟨_, e⟩ => reach_turn hlt (fun a ha d hd => h.full a ha d hd trivial) hv e⟩

/-- Turned around, the components are the same. -/
theorem same_class (h1 : Parted n adj c1 ML1) (h2 : Parted n R c2 ML2) (hlt : ∀ v, v < n → ∀ d ∈ adj v, d < n) (hR : Rin n adj (fun _ _ => True) n 0 R) {u v : Nat} (hu : u < n) (hv : v < n) : c1 u = c1 v ↔ c2 u = c2 v := by
  rw [h1.iff hlt hu hv, h2.iff (fun a _ d hd => (hR.sound a d hd).1) hu hv, hR.reach hlt hv, hR.reach hlt hu]
  exact And.comm

theorem len_class (h1 : Parted n adj c1 ML1) (h2 : Parted n R c2 ML2) (he : ∀ u, u < n → ∀ v, v < n → c2 u = c2 v → c1 u = c1 v) : ML1.length ≤ ML2.length := by
  have rep : ∀ c, c < ML1.length → ∃ r, r < n ∧ c1 r = c := fun c hc => by
    have hS : ML1[c]? = some (ML1.getD c []) := by simp [List.getD, hc]
    have ha := h1.at hS
    obtain ⟨r, hr⟩ := List.exists_mem_of_ne_nil _ ha.2.1
    exact ⟨r, (ha.2.2 r).1 hr⟩
  obtain ⟨r, hr⟩ := Go.Deep.choose_lt rep
  have hnd : ((List.range ML1.length).map (fun c => c2 (r c))).Nodup := by
    refine List.pairwise_map.2 (List.Pairwise.imp_of_mem ?_ (List.nodup_range (n := ML1.length)))
    intro a b ha hb hne e
    have ha' := hr a (by simpa using ha)
    have hb' := hr b (by simpa using hb)
    have := he _ ha'.1 _ hb'.1 e
    omega
  have := nodup_len hnd (N := List.range ML2.length) (fun s hs => by
    obtain ⟨c, hc, rfl⟩ := List.mem_map.1 hs
    have := h2.inK (hr c (by simpa using hc)).1
    simpa using this)
  simpa using this

/-- As many components. -/
theorem same_len (h1 : Parted n adj c1 ML1) (h2 : Parted n R c2 ML2) (hlt : ∀ v, v < n → ∀ d ∈ adj v, d < n) (hR : Rin n adj (fun _ _ => True) n 0 R) : ML1.length = ML2.length :=
  Nat.le_antisymm (len_class h1 h2 fun _ hu _ hv e => (same_class h1 h2 hlt hR hu hv).2 e) (len_class h2 h1 fun _ hu _ hv e => (same_class h1 h2 hlt hR hu hv).1 e)
end

/-- What the two rows tell once those before v have been met. -/
structure Mt (c1 c2 : Nat → Nat) (v : Nat) (F G : Nat → Int) : Prop where
  met1 : ∀ u, u < v → F (c1 u) = (c2 u : Int)
  met2 : ∀ u, u < v → G (c2 u) = (c1 u : Int)
  un1 : ∀ a, (∀ u, u < v → c1 u ≠ a) → F a = -1
  un2 : ∀ b, (∀ u, u < v → c2 u ≠ b) → G b = -1
section
variable {n : Nat} {c1 c2 : Nat → Nat} {v : Nat} {F G : Nat → Int}
theorem mt_start (c1 c2 : Nat → Nat) : Mt c1 c2 0 (fun _ => -1) (fun _ => -1) := ⟨fun _ h => by omega, fun _ h => by omega, fun _ _ => rfl, fun _ _ => rfl⟩
theorem Mt.cases (h : Mt c1 c2 v F G) (hs : ∀ u, u < n → ∀ v, v < n → (c1 u = c1 v ↔ c2 u = c2 v)) (hv : v < n) :
    (F (c1 v) = (c2 v : Int) ∧ G (c2 v) = (c1 v : Int) ∧ Mt c1 c2 (v + 1) F G) ∨
    (F (c1 v) = -1 ∧ G (c2 v) = -1 ∧ Mt c1 c2 (v + 1) (fun j => if j = c1 v then (c2 v : Int) else F j) (fun j => if j = c2 v then (c1 v : Int) else G j)) := by
  by_cases he : ∃ u, u < v ∧ c1 u = c1 v
  · obtain ⟨u, hu, e⟩ := he
    have e2 := (hs u (by omega) v hv).1 e
    have h1 := h.met1 u hu
    have h2 := h.met2 u hu
    rw [e, e2] at h1
    rw [e, e2] at h2
    refine .inl ⟨h1, h2, fun x hx => ?_, fun x hx => ?_, fun a ha => h.un1 a (fun x hx => ha x (by omega)), fun a ha => h.un2 a (fun x hx => ha x (by omega))⟩
    · by_cases ex : x = v
      · rw [ex]; exact h1
      · exact h.met1 x (by omega)
    · by_cases ex : x = v
      · rw [ex]; exact h2
      · exact h.met2 x (by omega)
  · have n1 : ∀ u, u < v → c1 u ≠ c1 v := fun u hu e => he ⟨u, hu, e⟩
    have n2 : ∀ u, u < v → c2 u ≠ c2 v := fun u hu e => n1 u hu ((hs u (by omega) v hv).2 e)
    refine .inr ⟨h.un1 _ n1, h.un2 _ n2, fun x hx => ?_, fun x hx => ?_, fun a ha => ?_, fun a ha => ?_⟩
    · by_cases ex : x = v
      · rw [ex]; simp
      · simp only [if_neg (n1 x (by omega))]; exact h.met1 x (by omega)
    · by_cases ex : x = v
      · rw [ex]; simp
      · simp only [if_neg (n2 x (by omega))]; exact h.met2 x (by omega)
    · simp only [if_neg (fun e => ha v (by omega) e.symm : ¬ a = c1 v)]
      exact h.un1 a (fun x hx => ha x (by omega))
    · simp only [if_neg (fun e => ha v (by omega) e.symm : ¬ a = c2 v)]
      exact h.un2 a (fun x hx => ha x (by omega))
end

/-- The two rows in memory. -/
structure Fg (w wr : World) (fb gb k : Nat) (F G : Nat → Int) : Prop where
  grow : Grow w wr
  frow : wr.rowIs fb 3 k (fun j => .int .i64 (F j))
  grow2 : wr.rowIs gb 3 k (fun j => .int .i64 (G j))
  new : w.heap.size ≤ fb ∧ w.heap.size ≤ gb ∧ fb ≠ gb
section
variable {w wr w1 : World} {fb gb k : Nat} {F G : Nat → Int}
theorem Fg.start (k : Nat) (hg : Grow w wr) : Fg w ((wr.alloc (.cells (madeCells #[.int .i64 0] k) 3)).alloc (.cells (madeCells #[.int .i64 0] k) 3)) wr.heap.size (wr.heap.size + 1) k (fun j => if j < 0 then -1 else 0) (fun j => if j < 0 then -1 else 0) := by
  have h2 := World.rowIs_made (wr.alloc (.cells (madeCells #[.int .i64 0] k) 3)) (.int .i64 0) k 3
  rw [show (wr.alloc (.cells (madeCells #[.int .i64 0] k) 3)).heap.size = wr.heap.size + 1 by simp] at h2
  have hs := hg.size
  exact ⟨(hg.alloc _).alloc _, ((World.rowIs_made wr (.int .i64 0) k 3).alloc _).congr (fun j _ => by simp), h2.congr (fun j _ => by simp), hs, by omega, by omega⟩
theorem Fg.more (h : Fg w wr fb gb k F G) (g : Grow wr w1) : Fg w w1 fb gb k F G :=
  ⟨h.grow.trans g, row_by h.frow g.grew (by simp), row_by h.grow2 g.grew (by simp), h.new⟩
theorem Fg.setF (h : Fg w wr fb gb k F G) (a : Nat) (x : Int) : Fg w (wr.setCell ⟨fb, a, none⟩ (.int .i64 x)) fb gb k (fun j => if j = a then x else F j) G :=
  ⟨h.grow.setCell h.new.1 _, (h.frow.set a _).congr (fun j _ => by by_cases e : j = a <;> simp [e]), row_by h.grow2 (by_set wr fb a _) (sne (fun e => h.new.2.2 e.symm)), h.new⟩
theorem Fg.setG (h : Fg w wr fb gb k F G) (a : Nat) (x : Int) : Fg w (wr.setCell ⟨gb, a, none⟩ (.int .i64 x)) fb gb k F (fun j => if j = a then x else G j) :=
  ⟨h.grow.setCell h.new.2.1 _, row_by h.frow (by_set wr gb a _) (sne h.new.2.2), (h.grow2.set a _).congr (fun j _ => by by_cases e : j = a <;> simp [e]), h.new⟩
theorem Fg.congr {F' G' : Nat → Int} (h : Fg w wr fb gb k F G) (hF : ∀ j, j < k → F j = F' j) (hG : ∀ j, j < k → G j = G' j) : Fg w wr fb gb k F' G' :=
  ⟨h.grow, h.frow.congr (fun j hj => by rw [hF j hj]), h.grow2.congr (fun j hj => by rw [hG j hj]), h.new⟩
end

end Go.Proofs.Qxb6601698a
