/-
  The memory of '(Graph).cycle' (36).
-/
import Derived.Test.Qxb6601698aKf
import Derived.Test.Qxb6601698aRe
namespace Go.Proofs.Qxb6601698a
open Go.RowKit

/-- Is the name in the list? -/
def inL (P : List ByteArray) (s : ByteArray) : Bool := (idOf P s).isSome
theorem inL_true {P : List ByteArray} {s : ByteArray} (h : s ∈ P) : inL P s = true := by
  obtain ⟨i, hi⟩ := idOf_mem h
  simp [inL, hi]
theorem inL_false {P : List ByteArray} {s : ByteArray} (h : s ∉ P) : inL P s = false := by simp [inL, idOf_none.2 h]
theorem inL_eq {P Q : List ByteArray} {s t : ByteArray} (h : s ∈ P ↔ t ∈ Q) : inL P s = inL Q t := by
  by_cases e : s ∈ P
  · rw [inL_true e, inL_true (h.1 e)]
  · rw [inL_false e, inL_false (fun h' => e (h.2 h'))]

/-- The two sets. -/
structure Mo (w wr : World) (mv : Value) (P D : List ByteArray) : Prop where
  grow : Grow w wr
  box : wr.cell? ⟨w.heap.size, 0, none⟩ = some mv
  on : ∃ n g, n ≤ 2 * D.length + P.length ∧ Mp wr (w.heap.size + 1) n g ∧ ∀ s, (g s).getD (.bool false) = .bool (inL P s)
  dn : ∃ n g, n ≤ D.length ∧ Mp wr (w.heap.size + 2) n g ∧ ∀ s, (g s).getD (.bool false) = .bool (inL D s)

theorem cell_by {w w' : World} {row : Option Nat} (hg : w.grownBy w' row) {b o : Nat} {v : Value} (h : w.cell? ⟨b, o, none⟩ = some v) (hne : some b ≠ row) : w'.cell? ⟨b, o, none⟩ = some v := by
  rw [← h]
  exact World.cell?_of_block (hg.block b (World.block_lt_of_cell? _ _ h) hne)

theorem Mo.start (w : World) (mv : Value) : Mo w (((w.alloc (.cells #[mv] 55)).alloc (.map #[] 0)).alloc (.map #[] 0)) mv [] [] := by
  have s1 : (w.alloc (.cells #[mv] 55)).heap.size = w.heap.size + 1 := by simp
  have s2 : ((w.alloc (.cells #[mv] 55)).alloc (.map #[] 0)).heap.size = w.heap.size + 2 := by simp
  refine ⟨(((Grow.refl w).alloc _).alloc _).alloc _, ?_, ⟨0, fun _ => none, Nat.zero_le _, ?_, fun _ => rfl⟩, ⟨0, fun _ => none, Nat.zero_le _, ?_, fun _ => rfl⟩⟩
  · have h0 : (w.alloc (.cells #[mv] 55)).cell? ⟨w.heap.size, 0, none⟩ = some mv := by rw [World.cell?_alloc_new]; rfl
    exact (((Grow.refl _).alloc _).alloc _).cell h0
  · have h := Mp.made (w.alloc (.cells #[mv] 55))
    rw [s1] at h
    exact h.grow ((Grow.refl _).alloc _)
  · have h := Mp.made ((w.alloc (.cells #[mv] 55)).alloc (.map #[] 0))
    rw [s2] at h
    exact h
theorem Mo.kept {w wr wr' : World} {mv : Value} {P D : List ByteArray} {row : Option Nat} (h : Mo w wr mv P D) (hg : wr.grownBy wr' row) (hrow : ∀ k, row = some k → w.heap.size + 3 ≤ k) : Mo w wr' mv P D := by
  obtain ⟨h1, h2, ⟨n, g, h3, h4, h5⟩, ⟨n', g', h6, h7, h8⟩⟩ := h
  exact ⟨h1.grown hg (fun k hk => by have := hrow k hk; omega), cell_by hg h2 (fun e => by have := hrow _ e.symm; omega), ⟨n, g, h3, h4.kept hg (fun e => by have := hrow _ e.symm; omega), h5⟩, ⟨n', g', h6, h7.kept hg (fun e => by have := hrow _ e.symm; omega), h8⟩⟩
theorem Mo.sized {w wr : World} {mv : Value} {P D : List ByteArray} (h : Mo w wr mv P D) : w.heap.size + 3 ≤ wr.heap.size := by
  obtain ⟨_, _, _, ⟨n, g, _, h, _⟩⟩ := h
  have := h.lt
  omega
theorem Mo.put {w wr w2 : World} {mv : Value} {P D : List ByteArray} {s : ByteArray} {n : Nat} {g : ByteArray → Option Value} (h : Mo w wr mv P D) (hn : n ≤ 2 * D.length + P.length) (hs : ∀ s, (g s).getD (.bool false) = .bool (inL P s))
    (hm : Mp w2 (w.heap.size + 1) (n + 1) (upd g s (.bool true))) (hg : wr.grownBy w2 (some (w.heap.size + 1))) : Mo w w2 mv (P ++ [s]) D := by
  obtain ⟨h1, h2, _, ⟨n', g', h6, h7, h8⟩⟩ := h
  refine ⟨h1.grown hg (fun k hk => by cases hk; omega), cell_by hg h2 (fun e => by have := Option.some.inj e; omega), ⟨n + 1, _, by simp; omega, hm, fun t => ?_⟩, ⟨n', g', h6, h7.kept hg (fun e => by have := Option.some.inj e; omega), h8⟩⟩
  by_cases e : t = s
  · subst e; rw [upd_same, inL_true (by simp)]; rfl
  · rw [upd_other g _ e, hs t, inL_eq (Q := P ++ [s]) (t := t) (by simp [e])]
theorem Mo.pop {w wr wb we : World} {mv : Value} {P D : List ByteArray} {s : ByteArray} {n n' : Nat} {g g' : ByteArray → Option Value} (h : Mo w wr mv (P ++ [s]) D) (hsP : s ∉ P) (hn : n ≤ 2 * D.length + (P ++ [s]).length) (hs : ∀ t, (g t).getD (.bool false) = .bool (inL (P ++ [s]) t))
    (hn' : n' ≤ D.length) (hs' : ∀ t, (g' t).getD (.bool false) = .bool (inL D t))
    (hm : Mp wb (w.heap.size + 1) (n + 1) (upd g s (.bool false))) (hg : wr.grownBy wb (some (w.heap.size + 1))) (hm' : Mp we (w.heap.size + 2) (n' + 1) (upd g' s (.bool true))) (hg' : wb.grownBy we (some (w.heap.size + 2))) : Mo w we mv P (D ++ [s]) := by
  obtain ⟨h1, h2, _, _⟩ := h
  refine ⟨(h1.grown hg (fun k hk => by cases hk; omega)).grown hg' (fun k hk => by cases hk; omega), cell_by hg' (cell_by hg h2 (fun e => by have := Option.some.inj e; omega)) (fun e => by have := Option.some.inj e; omega), ⟨n + 1, _, by simp at hn ⊢; omega, hm.kept hg' (fun e => by have := Option.some.inj e; omega), fun t => ?_⟩, ⟨n' + 1, _, by simp; omega, hm', fun t => ?_⟩⟩
  · by_cases e : t = s
    · subst e; rw [upd_same, inL_false hsP]; rfl
    · rw [upd_other g _ e, hs t, inL_eq (Q := P) (t := t) (by simp [e])]
  · by_cases e : t = s
    · subst e; rw [upd_same, inL_true (by simp)]; rfl
    · rw [upd_other g' _ e, hs' t, inL_eq (Q := D ++ [s]) (t := t) (by simp [e])]

/-- The walk's two rows. -/
structure Pn (w wr : World) (pv xv : Value) (P : List ByteArray) (X : List Nat) : Prop where
  path : wr.ownsRow (w.heap.size + 3) 9 1 pv P.length (P.map .string)
  next : wr.ownsRow (w.heap.size + 3) 3 1 xv X.length (X.map natV)
  ne : ∀ g, pv.ownBlock = some g → xv.ownBlock ≠ some g
theorem Pn.kept {w wr wr' : World} {pv xv : Value} {P : List ByteArray} {X : List Nat} {row : Option Nat} (h : Pn w wr pv xv P X) (hg : wr.grownBy wr' row) (hrow : ∀ k, row = some k → k < w.heap.size + 3) : Pn w wr' pv xv P X := by
  obtain ⟨h1, h2, h3⟩ := h
  refine ⟨h1.kept hg ?_, h2.kept hg ?_, h3⟩
  · cases hq : pv.ownBlock with
    | none => exact .inl rfl
    | some k => exact .inr (fun e => by have := (h1.lt k hq).1; have := hrow k e.symm; omega)
  · cases hq : xv.ownBlock with
    | none => exact .inl rfl
    | some k => exact .inr (fun e => by have := (h2.lt k hq).1; have := hrow k e.symm; omega)
theorem Pn.root {w wr : World} {x : ByteArray} (hs : w.heap.size + 3 ≤ wr.heap.size) : Pn w ((wr.alloc (.cells #[.string x] 9)).alloc (.cells #[.int .i64 0] 3)) (.slice (some ⟨wr.heap.size, 0, none⟩) 1 1) (.slice (some ⟨wr.heap.size + 1, 0, none⟩) 1 1) [x] [0] := by
  have s1 : (wr.alloc (.cells #[.string x] 9)).heap.size = wr.heap.size + 1 := by simp
  refine ⟨⟨rfl, .inr ⟨wr.heap.size, 1, #[.string x], rfl, hs, ?_, Nat.le_refl _, by unfold maxLen; omega, rfl, rfl⟩⟩, ⟨rfl, .inr ⟨wr.heap.size + 1, 1, #[.int .i64 0], rfl, by omega, ?_, Nat.le_refl _, by unfold maxLen; omega, rfl, rfl⟩⟩, fun g hg => ?_⟩
  · have h0 : (wr.alloc (.cells #[.string x] 9)).heap[wr.heap.size]? = some (.cells #[.string x] 9 (0, 0)) := heap_alloc_new wr _
    have := ((Grow.refl (wr.alloc (.cells #[.string x] 9))).alloc (.cells #[.int .i64 0] 3)).block wr.heap.size (by simp) (fun t => t)
    rw [this]
    exact h0
  · have := heap_alloc_new (wr.alloc (.cells #[.string x] 9)) (.cells #[.int .i64 0] 3)
    rw [s1] at this
    exact this
  · simp [Value.ownBlock] at hg ⊢
    omega
/-- The two tops. -/
theorem Pn.tops {w wr : World} {pv xv : Value} {P : List ByteArray} {X : List Nat} {s : ByteArray} {t : Nat} (h : Pn w wr pv xv (P ++ [s]) (X ++ [t])) : ∃ pb pc xb xc, pv = .slice (some ⟨pb, 0, none⟩) (P.length + 1) pc ∧ xv = .slice (some ⟨xb, 0, none⟩) (X.length + 1) xc ∧ P.length + 1 ≤ pc ∧ X.length + 1 ≤ xc ∧
    w.heap.size + 3 ≤ pb ∧ w.heap.size + 3 ≤ xb ∧ pb ≠ xb ∧ wr.cell? ⟨pb, P.length, none⟩ = some (.string s) ∧ wr.cell? ⟨xb, X.length, none⟩ = some (.int .i64 t) ∧ wr.frozen? ⟨xb, X.length, none⟩ = false ∧ (∀ i, i < (P ++ [s]).length → wr.cell? ⟨pb, i, none⟩ = some (.string ((P ++ [s]).getD i noS))) := by
  obtain ⟨h1, h2, h3⟩ := h
  obtain ⟨pb, pc, rfl, hpb, _⟩ := h1.form (by simp)
  obtain ⟨xb, xc, rfl, hxb, _⟩ := h2.form (by simp)
  have e1 : (P ++ [s]).length = P.length + 1 := by simp
  have e2 : (X ++ [t]).length = X.length + 1 := by simp
  obtain ⟨a, c, he, hst⟩ := strs_own h1
  obtain ⟨a', c', he', hnt⟩ := nats_own h2
  have ha : a = some ⟨pb, 0, none⟩ := by simpa using (Value.slice.inj he).1.symm
  have ha' : a' = some ⟨xb, 0, none⟩ := by simpa using (Value.slice.inj he').1.symm
  subst ha ha'
  have hcell : ∀ i, i < (P ++ [s]).length → wr.cell? ⟨pb, i, none⟩ = some (.string ((P ++ [s]).getD i noS)) := fun i hi => by
    obtain ⟨b, o, hb, hc⟩ := hst.at hi
    obtain ⟨rfl, rfl⟩ : b = pb ∧ o = 0 := by simpa [eq_comm] using hb
    simpa using hc
  obtain ⟨b, hb, hc, hf⟩ := hnt X.length (by simp)
  have hbx : b = xb := by simpa [eq_comm] using hb
  rw [hbx] at hc hf
  refine ⟨pb, pc, xb, xc, by rw [e1], by rw [e2], by have := own_cap h1; rwa [e1] at this, by have := own_cap h2; rwa [e2] at this, hpb, hxb, fun e => ?_, ?_, ?_, hf, hcell⟩
  · exact h3 pb rfl (by simp [Value.ownBlock, e])
  · have := hcell P.length (by simp)
    rwa [getD_new] at this
  · rwa [xnew] at hc
theorem Pn.pop {w wr : World} {pb pc xb xc : Nat} {P : List ByteArray} {X : List Nat} {s : ByteArray} {t : Nat} (h : Pn w wr (.slice (some ⟨pb, 0, none⟩) (P.length + 1) pc) (.slice (some ⟨xb, 0, none⟩) (X.length + 1) xc) (P ++ [s]) (X ++ [t])) :
    Pn w wr (.slice (some ⟨pb, 0, none⟩) P.length pc) (.slice (some ⟨xb, 0, none⟩) X.length xc) P X := by
  obtain ⟨h1, h2, h3⟩ := h
  simp only [List.length_append, List.length_cons, List.length_nil, Nat.zero_add, List.map_append] at h1 h2
  exact ⟨ownsRow_pop (by simp) h1, ownsRow_pop (by simp) h2, h3⟩
theorem Pn.inc {w wr : World} {pb pc xb xc : Nat} {P : List ByteArray} {X : List Nat} {s : ByteArray} {t : Nat} (h : Pn w wr (.slice (some ⟨pb, 0, none⟩) (P.length + 1) pc) (.slice (some ⟨xb, 0, none⟩) (X.length + 1) xc) (P ++ [s]) (X ++ [t])) :
    Pn w (wr.setCell ⟨xb, X.length, none⟩ (.int .i64 (t + 1 : Nat))) (.slice (some ⟨pb, 0, none⟩) (P.length + 1) pc) (.slice (some ⟨xb, 0, none⟩) (X.length + 1) xc) (P ++ [s]) (X ++ [t + 1]) ∧ wr.grownBy (wr.setCell ⟨xb, X.length, none⟩ (.int .i64 (t + 1 : Nat))) (some xb) := by
  obtain ⟨h1, h2, h3⟩ := h
  have hne : pb ≠ xb := fun e => h3 pb rfl (by simp [Value.ownBlock, e])
  have e2 : (X ++ [t]).length = X.length + 1 := by simp
  have e3 : (X ++ [t + 1]).length = X.length + 1 := by simp
  rw [e2] at h2
  obtain ⟨h4, h5⟩ := h2.stored X.length (.int .i64 (t + 1 : Nat))
  refine ⟨⟨ownsRow_setCell_other h1 (fun e => hne (by simpa [Value.ownBlock] using e)) _, ?_, h3⟩, h5⟩
  rw [e3]
  have e4 : ((X ++ [t]).map natV).set X.length (.int .i64 (t + 1 : Nat)) = (X ++ [t + 1]).map natV := by simp [natV]
  rwa [e4] at h4
theorem Pn.push {w wr w3 w5 : World} {pv xv p' x' : Value} {P : List ByteArray} {X : List Nat} {d : ByteArray} {o o' : Obj} (h : Pn w wr pv xv P X)
    (ho3 : w3.ownsRow (w.heap.size + 3) 9 1 p' (P.length + 1) (P.map .string ++ [.string d])) (_hg3 : (wr.alloc o).grownBy w3 pv.ownBlock)
    (ho5 : w5.ownsRow (w.heap.size + 3) 3 1 x' (X.length + 1) (X.map natV ++ [.int .i64 0])) (hg5 : (w3.alloc o').grownBy w5 xv.ownBlock)
    (hp' : ∀ g, p'.ownBlock = some g → pv.ownBlock = some g ∨ wr.heap.size ≤ g) (hx' : ∀ g, x'.ownBlock = some g → xv.ownBlock = some g ∨ w3.heap.size ≤ g) (hxl : ∀ g, xv.ownBlock = some g → g < wr.heap.size) :
    Pn w w5 p' x' (P ++ [d]) (X ++ [0]) := by
  have hne : ∀ g, p'.ownBlock = some g → xv.ownBlock ≠ some g := fun g hg e => by
    rcases hp' g hg with h1 | h1
    · exact h.ne g h1 e
    · have := hxl g e; omega
  refine ⟨?_, by simpa [natV] using ho5, fun g hg e => ?_⟩
  · have h1 := (ho3.alloc o').kept hg5 (by
      cases hq : p'.ownBlock with
      | none => exact .inl rfl
      | some k => exact .inr (fun e => hne k hq e.symm))
    simpa using h1
  · rcases hx' g e with h1 | h1
    · exact hne g hg h1
    · have := (ho3.lt g hg).2; omega

end Go.Proofs.Qxb6601698a
