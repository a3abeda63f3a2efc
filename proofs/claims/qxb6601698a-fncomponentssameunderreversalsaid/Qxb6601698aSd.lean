/-
  A row of rows that are appended to; what the partition tells.
-/
import Derived.Test.Qxb6601698aSc
namespace Go.Proofs.Qxb6601698a
open Go.RowKit

/-- A row of n own rows of numbers. -/
structure Rf (w wr : World) (rb n : Nat) (f : Nat → Value) (R : Nat → List Nat) : Prop where
  grow : Grow w wr
  new : w.heap.size ≤ rb
  row : wr.rowIs rb 25 n f
  own : ∀ d, d < n → wr.ownsRow (rb + 1) 3 1 (f d) (R d).length ((R d).map natV)
  dis : ∀ d, d < n → ∀ e, e < n → d ≠ e → ∀ g, (f d).ownBlock = some g → (f e).ownBlock ≠ some g

theorem Rf.start {w wr : World} (n : Nat) (g : Grow w wr) : Rf w (wr.alloc (.cells (madeCells #[.slice none 0 0] n) 25)) wr.heap.size n (fun _ => .slice none 0 0) (fun _ => []) :=
  ⟨g.alloc _, g.size, World.rowIs_made wr _ _ _, fun d _ => ⟨rfl, .inl ⟨rfl, rfl⟩⟩, fun d _ e _ _ g h => by simp [Value.ownBlock] at h⟩
theorem Rf.more {w wr wr' : World} {rb n : Nat} {f : Nat → Value} {R : Nat → List Nat} (h : Rf w wr rb n f R) (g : Grow wr wr') : Rf w wr' rb n f R :=
  ⟨h.grow.trans g, h.new, row_by h.row g.grew (by simp), fun d hd => (h.own d hd).kept g.grew (by cases (f d).ownBlock <;> simp), h.dis⟩
theorem Rf.push {w wr w3 : World} {rb n d v g3 cap3 : Nat} {f : Nat → Value} {R : Nat → List Nat} (h : Rf w wr rb n f R) (hd : d < n) (ho : w3.ownsRow (rb + 1) 3 1 (.slice (some ⟨g3, 0, none⟩) ((R d).length + 1) cap3) ((R d).length + 1) ((R d).map natV ++ [natV v])) (hg : wr.grownBy w3 (f d).ownBlock) (hat : (f d).ownBlock = some g3 ∨ wr.heap.size ≤ g3) :
    Rf w (w3.setCell ⟨rb, d, none⟩ (.slice (some ⟨g3, 0, none⟩) ((R d).length + 1) cap3)) rb n (fun y => if y = d then .slice (some ⟨g3, 0, none⟩) ((R d).length + 1) cap3 else f y) (fun y => if y = d then R d ++ [v] else R y) := by
  have hob : ∀ y, y < n → ∀ g, (f y).ownBlock = some g → rb + 1 ≤ g ∧ g < wr.heap.size := fun y hy g e => (h.own y hy).lt g e
  have hrb : some rb ≠ (f d).ownBlock := fun e => by have := (hob d hd rb e.symm).1; omega
  have hby := by_set w3 rb d (.slice (some ⟨g3, 0, none⟩) ((R d).length + 1) cap3)
  refine ⟨(h.grow.grown hg (fun k hk => by have := (hob d hd k hk).1; have := h.new; omega)).setCell h.new _, h.new, (row_by h.row hg hrb).set d _, fun y hy => ?_, fun y hy e he hne g hgy => ?_⟩
  · by_cases e : y = d
    · subst e
      simp only [if_true]
      have := ho.kept hby (own_ne ho (by omega))
      simpa using this
    · simp only [if_neg e]
      have h1 : (f y).ownBlock = none ∨ (f y).ownBlock ≠ (f d).ownBlock := by
        cases e1 : (f y).ownBlock with
        | none => exact .inl rfl
        | some g => exact .inr (fun e2 => h.dis y hy d hd e g e1 e2.symm)
      have h2 := (h.own y hy).kept hg h1
      exact h2.kept hby (own_ne h2 (by omega))
  · by_cases e1 : y = d
    · subst e1
      simp only [if_true] at hgy
      rw [if_neg (fun e2 => hne e2.symm)]
      have eg : g3 = g := by simpa [Value.ownBlock] using hgy
      subst eg
      rcases hat with hat | hat
      · exact h.dis y hy e he hne _ hat
      · exact fun e2 => by have := (hob e he g3 e2).2; omega
    · simp only [if_neg e1] at hgy
      by_cases e2 : e = d
      · subst e2
        simp only [if_true]
        intro e3
        have eg : g3 = g := by simpa [Value.ownBlock] using e3
        subst eg
        rcases hat with hat | hat
        · exact h.dis y hy e he hne _ hgy hat
        · have := (hob y hy g3 hgy).2; omega
      · simp only [if_neg e2]
        exact h.dis y hy e he hne g hgy
theorem Rf.rows {w wr : World} {rb n : Nat} {f : Nat → Value} {R : Nat → List Nat} (h : Rf w wr rb n f R) : Rows2 wr (some ⟨rb, 0, none⟩) n R := fun v hv => by
  obtain ⟨a, cap, e, hc⟩ := nats_own (h.own v hv)
  refine ⟨rb, 0, rfl, a, cap, by rw [Nat.zero_add, h.row.cell hv, e], ?_, fun i hi => ?_⟩
  · intro ha
    cases hR : R v with
    | nil => rfl
    | cons x r =>
      obtain ⟨g, hg, _⟩ := hc 0 (by rw [hR]; simp)
      rw [ha] at hg
      cases hg
  · obtain ⟨g, hg, hcell⟩ := hc i hi
    exact ⟨g, 0, hg, by rw [Nat.zero_add]; exact hcell.1⟩

def psum (adj : Nat → List Nat) : Nat → Nat
  | 0 => 0
  | v + 1 => psum adj v + (adj v).length
theorem psum_le (adj : Nat → List Nat) {a b : Nat} (h : a ≤ b) : psum adj a ≤ psum adj b := by
  induction b with
  | zero => rw [Nat.le_zero.1 h]; exact Nat.le_refl _
  | succ b ih =>
    by_cases e : a = b + 1
    · rw [e]; exact Nat.le_refl _
    · have := ih (by omega)
      simp only [psum]
      omega

/-- The steps of those before v, and j steps of v, have been turned. -/
structure Rin (n : Nat) (adj : Nat → List Nat) (E : Nat → Nat → Prop) (v j : Nat) (R : Nat → List Nat) : Prop where
  sound : ∀ d u, u ∈ R d → u < n ∧ d ∈ adj u ∧ E u d
  full : ∀ u, u < v → ∀ d ∈ adj u, E u d → u ∈ R d
  part : ∀ i, i < j → ∀ d, (adj v)[i]? = some d → E v d → v ∈ R d
  len : ∀ d, (R d).length ≤ psum adj v + j

section
variable {n : Nat} {adj : Nat → List Nat} {E : Nat → Nat → Prop} {v j d : Nat} {R : Nat → List Nat}
theorem rin_start (n : Nat) (adj : Nat → List Nat) (E : Nat → Nat → Prop) : Rin n adj E 0 0 (fun _ => []) := ⟨fun _ _ h => by simp at h, fun _ h => by omega, fun _ h => by omega, fun _ => Nat.zero_le _⟩
theorem Rin.skip (h : Rin n adj E v j R) (hd : (adj v)[j]? = some d) (hE : ¬ E v d) : Rin n adj E v (j + 1) R :=
  ⟨h.sound, h.full, fun i hi e he hEe => by
    by_cases ei : i = j
    · subst ei; rw [hd] at he; obtain rfl := Option.some.inj he; exact absurd hEe hE
    · exact h.part i (by omega) e he hEe, fun d => by have := h.len d; omega⟩
theorem Rin.push (h : Rin n adj E v j R) (hv : v < n) (hd : (adj v)[j]? = some d) (hE : E v d) : Rin n adj E v (j + 1) (fun y => if y = d then R d ++ [v] else R y) := by
  refine ⟨fun e u hu => ?_, fun u hu e he hEe => ?_, fun i hi e he hEe => ?_, fun e => ?_⟩
  · by_cases ee : e = d
    · subst ee
      simp only [if_true] at hu
      rcases List.mem_append.1 hu with hu | hu
      · exact h.sound e u hu
      · simp at hu; subst hu; exact ⟨hv, List.mem_of_getElem? hd, hE⟩
    · simp only [if_neg ee] at hu
      exact h.sound e u hu
  · have := h.full u hu e he hEe
    by_cases ee : e = d
    · subst ee; simp [this]
    · simp only [if_neg ee]; exact this
  · by_cases ei : i = j
    · subst ei; rw [hd] at he; obtain rfl := Option.some.inj he; simp
    · have := h.part i (by omega) e he hEe
      by_cases ee : e = d
      · subst ee; simp [this]
      · simp only [if_neg ee]; exact this
  · have h1 := h.len e
    by_cases ee : e = d
    · subst ee; simp; omega
    · simp only [if_neg ee]; omega
theorem Rin.next (h : Rin n adj E v j R) (hj : j = (adj v).length) : Rin n adj E (v + 1) 0 R := by
  subst hj
  refine ⟨h.sound, fun u hu d hd hE => ?_, fun i hi => by omega, fun d => by have := h.len d; simp only [psum]; omega⟩
  by_cases e : u = v
  · subst e
    obtain ⟨i, hi⟩ := List.getElem?_of_mem hd
    exact h.part i (List.getElem?_eq_some_iff.1 hi).1 d hi hE
  · exact h.full u (by omega) d hd hE
end

theorem Parted.downR {n : Nat} {adj : Nat → List Nat} {comp : Nat → Nat} {ML : List (List Nat)} (h : Parted n adj comp ML) (hlt : ∀ v, v < n → ∀ d ∈ adj v, d < n) : ∀ {k u v : Nat}, u < n → reachN adj k u v → v < n ∧ comp v ≤ comp u
  | 0, u, v, hu, e => by
    have e : u = v := e
    subst e
    exact ⟨hu, Nat.le_refl _⟩
  | k + 1, u, v, hu, ⟨m, hm, e⟩ => by
    have h1 := h.downR hlt (hlt u hu m hm) e
    exact ⟨h1.1, Nat.le_trans h1.2 (h.down u hu m hm)⟩
/-- A component is what any of its own reaches inside it. -/
theorem Parted.whole {n : Nat} {adj : Nat → List Nat} {comp : Nat → Nat} {ML : List (List Nat)} (h : Parted n adj comp ML) (hlt : ∀ v, v < n → ∀ d ∈ adj v, d < n) {c start : Nat} (hs : start < n) (hc : comp start = c) : Whole n adj comp c start := by
  intro P hP hstep v hv hvc
  obtain ⟨k, hk⟩ := h.scc start hs v hv (by omega)
  have key : ∀ k u, u < n → comp u = c → P u → reachN adj k u v → P v := by
    intro k
    induction k with
    | zero =>
      intro u _ _ hPu e
      have e : u = v := e
      rw [← e]; exact hPu
    | succ k ih =>
      intro u hu huc hPu ⟨m, hm, e⟩
      have hmn := hlt u hu m hm
      have h1 := (h.downR hlt hmn e).2
      have h2 := h.down u hu m hm
      have hmc : comp m = c := by omega
      exact ih m hmn hmc (hstep u hu huc hPu m hm hmc) e
  exact key k start hs hc hP hk
/-- The same along the turned steps inside the component. -/
theorem Parted.wholeR {n : Nat} {adj : Nat → List Nat} {comp : Nat → Nat} {ML : List (List Nat)} {R : Nat → List Nat} (h : Parted n adj comp ML) (hlt : ∀ v, v < n → ∀ d ∈ adj v, d < n) (hR : Rin n adj (fun u d => comp d = comp u) n 0 R) {c start : Nat} (hs : start < n) (hc : comp start = c) : Whole n R comp c start := by
  intro P hP hstep v hv hvc
  obtain ⟨k, hk⟩ := h.scc v hv start hs (by omega)
  have key : ∀ k u, u < n → comp u = c → reachN adj k u start → P u := by
    intro k
    induction k with
    | zero =>
      intro u _ _ e
      have e : u = start := e
      rw [e]; exact hP
    | succ k ih =>
      intro u hu huc ⟨m, hm, e⟩
      have hmn := hlt u hu m hm
      have h1 := (h.downR hlt hmn e).2
      have h2 := h.down u hu m hm
      have hmc : comp m = c := by omega
      exact hstep m hmn hmc (ih m hmn hmc e) u (hR.full u hu m hm (by omega)) huc
  exact key k v hv hvc hk

theorem flat_at : ∀ (ML : List (List Nat)) (c : Nat) (S : List Nat), ML[c]? = some S → ML.flatten = (ML.take c).flatten ++ (S ++ (ML.drop (c + 1)).flatten)
  | [], c, S, h => by simp at h
  | T :: r, 0, S, h => by
    have e : T = S := by simpa using h
    subst e
    simp
  | T :: r, c + 1, S, h => by
    have := flat_at r c S (by simpa using h)
    simp only [List.flatten_cons, List.take_succ_cons, List.drop_succ_cons, this, List.append_assoc]

section
variable {n : Nat} {adj : Nat → List Nat} {comp : Nat → Nat} {ML : List (List Nat)} {c : Nat} {S : List Nat}
/-- The numbers of component c. -/
theorem Parted.at (h : Parted n adj comp ML) (hc : ML[c]? = some S) : S.Nodup ∧ S ≠ [] ∧ ∀ v, v ∈ S ↔ v < n ∧ comp v = c := by
  have hnd := h.nodup
  rw [flat_at ML c S hc, List.nodup_append] at hnd
  have h2 := hnd.2.1
  rw [List.nodup_append] at h2
  have hm := h.mem c S hc
  refine ⟨h2.1, hm.1, fun v => ⟨fun hv => ⟨(h.all v).1 (List.mem_flatten.2 ⟨S, List.mem_of_getElem? hc, hv⟩), hm.2 v hv⟩, fun ⟨hv, hvc⟩ => ?_⟩⟩
  obtain ⟨T, hT, hvT⟩ := List.mem_flatten.1 ((h.all v).2 hv)
  obtain ⟨c2, hc2⟩ := List.getElem?_of_mem hT
  have := (h.mem c2 T hc2).2 v hvT
  have e : c2 = c := by omega
  subst e
  rw [hc] at hc2
  obtain rfl := Option.some.inj hc2
  exact hvT
theorem Parted.lenle (h : Parted n adj comp ML) : ML.length ≤ n := by
  have h1 := len_flat ML (fun S hS => by
    obtain ⟨c, hc⟩ := List.getElem?_of_mem hS
    exact (h.mem c S hc).1)
  have h2 := nodup_len h.nodup (fun u hu => (by simpa using (h.all u).1 hu : u ∈ List.range n))
  simp at h2
  simp only [List.length_flatten] at h1
  omega
theorem Parted.inK (h : Parted n adj comp ML) {v : Nat} (hv : v < n) : comp v < ML.length := by
  obtain ⟨T, hT, hvT⟩ := List.mem_flatten.1 ((h.all v).2 hv)
  obtain ⟨c2, hc2⟩ := List.getElem?_of_mem hT
  have := (h.mem c2 T hc2).2 v hvT
  have := (List.getElem?_eq_some_iff.1 hc2).1
  omega
/-- The next of component c has not been seen. -/
theorem Parted.fresh (h : Parted n adj comp ML) (hc : ML[c]? = some S) {j : Nat} (hj : j < S.length) : S.getD j 0 ∉ (ML.take c).flatten ++ S.take j := by
  have hnd := h.nodup
  rw [flat_at ML c S hc, List.nodup_append] at hnd
  have h2 := hnd.2.1
  rw [List.nodup_append] at h2
  have hS := h2.1
  have hsp : S = S.take j ++ (S.getD j 0 :: S.drop (j + 1)) := by
    have e1 : S.drop j = S.getD j 0 :: S.drop (j + 1) := by
      rw [List.drop_eq_getElem_cons hj]
      simp [List.getD, hj]
    rw [← e1, List.take_append_drop]
  have hmem : S.getD j 0 ∈ S := by
    have e : S[j]? = some (S.getD j 0) := by simp [List.getD, hj]
    exact List.mem_of_getElem? e
  rw [List.mem_append]
  rintro (h3 | h3)
  · exact hnd.2.2 _ h3 _ (List.mem_append_left _ hmem) rfl
  · rw [hsp, List.nodup_append] at hS
    exact hS.2.2 _ h3 _ (List.mem_cons_self) rfl
theorem take_next (S : List Nat) {j : Nat} (hj : j < S.length) : S.take (j + 1) = S.take j ++ [S.getD j 0] := by
  rw [List.take_add_one]
  simp [List.getD, hj]
theorem flat_next {ML : List (List Nat)} {c : Nat} {S : List Nat} (hc : ML[c]? = some S) : (ML.take (c + 1)).flatten = (ML.take c).flatten ++ S := by
  rw [List.take_add_one, hc]
  simp
end

end Go.Proofs.Qxb6601698a
