/-
  The memory of '(Links).components' (34).
-/
import Derived.Test.Qxb6601698aTa
import Derived.Test.Qxb6601698aKe
namespace Go.Proofs.Qxb6601698a
open Go.RowKit

theorem sne {a b : Nat} (h : a ≠ b) : some a ≠ some b := fun e => h (Option.some.inj e)
theorem row_by {w w' : World} {row : Option Nat} {b n : Nat} {t : TypeId} {f : Nat → Value} (hr : w.rowIs b t n f) (hg : w.grownBy w' row) (hne : some b ≠ row) : w'.rowIs b t n f := hr.of_block (hg.block b hr.lt hne)
theorem own_ne {w : World} {base size n B : Nat} {e : TypeId} {v : Value} {xs : List Value} (h : w.ownsRow base e size v n xs) (hB : B < base) : v.ownBlock = none ∨ v.ownBlock ≠ some B := .inr (fun e => by have := (h.lt B e).1; omega)

theorem row1_set {w : World} {b : Nat} {t : TypeId} {v : Value} (h : w.rowIs b t 1 (fun _ => v)) (v' : Value) : (w.setCell ⟨b, 0, none⟩ v').rowIs b t 1 (fun _ => v') :=
  (h.set 0 v').congr (fun j hj => by rw [if_pos (by omega)])

def stepV (p : Nat × Nat) : List Value := [natV p.1, natV p.2]
def stepsV (XP : List (Nat × Nat)) : List Value := XP.flatMap stepV
theorem stepsV_len (XP : List (Nat × Nat)) : (stepsV XP).length = XP.length * 2 := by
  induction XP with
  | nil => rfl
  | cons x r ih => simp only [stepsV, List.flatMap_cons, List.length_append, List.length_cons] at *; rw [ih]; simp [stepV]; omega
theorem stepsV_snoc (XP : List (Nat × Nat)) (p : Nat × Nat) : stepsV (XP ++ [p]) = stepsV XP ++ stepV p := by simp [stepsV]
def partV (L : Nat) (p : Nat × Nat) : Value := .slice (some ⟨L + 2, p.1, none⟩) p.2 p.2

/-- Where the four blocks lie whose order Go leaves open. -/
structure Four (L ib lk ix lx : Nat) : Prop where
  b1 : L + 3 ≤ ib ∧ ib ≤ L + 6
  b2 : L + 3 ≤ lk ∧ lk ≤ L + 6
  b3 : L + 3 ≤ ix ∧ ix ≤ L + 6
  b4 : L + 3 ≤ lx ∧ lx ≤ L + 6
  d1 : ib ≠ lk ∧ ib ≠ ix ∧ ib ≠ lx ∧ lk ≠ ix ∧ lk ≠ lx ∧ ix ≠ lx

/-- The memory of the search. -/
structure Tm (w wr : World) (ib lk ix lx n : Nat) (dv : Value) (idx low : Nat → Nat) (op : Nat → Bool) (comp : Nat → Nat) (t : Nat) (ov pv mv : Value) (O : List Nat) (XP : List (Nat × Nat)) (ord : List Nat) (M : List (Nat × Nat)) : Prop where
  grow : Grow w wr
  four : Four w.heap.size ib lk ix lx
  dcell : wr.cell? ⟨w.heap.size, 2, none⟩ = some dv
  crow : wr.rowIs (w.heap.size + 1) 3 n (fun j => natV (comp j))
  oord : wr.ownsRow 0 3 1 (.slice (some ⟨w.heap.size + 2, 0, none⟩) ord.length n) ord.length (ord.map natV)
  irow : wr.rowIs ib 3 n (fun j => natV (idx j))
  lrow : wr.rowIs lk 3 n (fun j => natV (low j))
  icell : wr.cell? ⟨ix, 0, none⟩ = some (.slice (some ⟨ib, 0, none⟩) n n)
  lcell : wr.cell? ⟨lx, 0, none⟩ = some (.slice (some ⟨lk, 0, none⟩) n n)
  prow : wr.rowIs (w.heap.size + 7) 4 n (fun j => .bool (op j))
  pcell : wr.cell? ⟨w.heap.size + 8, 0, none⟩ = some (.slice (some ⟨w.heap.size + 7, 0, none⟩) n n)
  obox : wr.rowIs (w.heap.size + 9) 25 1 (fun _ => ov)
  qbox : wr.rowIs (w.heap.size + 10) 69 1 (fun _ => pv)
  rbox : wr.rowIs (w.heap.size + 11) 3 1 (fun _ => natV t)
  oown : wr.ownsRow (w.heap.size + 12) 3 1 ov O.length (O.map natV)
  pown : wr.ownsRow (w.heap.size + 12) 71 2 pv XP.length (stepsV XP)
  mown : wr.ownsRow (w.heap.size + 12) 25 1 mv M.length (M.map (partV w.heap.size))
  op1 : ∀ g, ov.ownBlock = some g → pv.ownBlock ≠ some g ∧ mv.ownBlock ≠ some g
  pm1 : ∀ g, pv.ownBlock = some g → mv.ownBlock ≠ some g

section
variable {w wr wr' : World} {ib lk ix lx n : Nat} {dv : Value} {idx low : Nat → Nat} {op : Nat → Bool} {comp : Nat → Nat} {t : Nat} {ov pv mv : Value} {O : List Nat} {XP : List (Nat × Nat)} {ord : List Nat} {M : List (Nat × Nat)}

theorem Tm.sized (h : Tm w wr ib lk ix lx n dv idx low op comp t ov pv mv O XP ord M) : w.heap.size + 12 ≤ wr.heap.size := by have := h.rbox.lt; omega

/-- Whatever grows: the memory stays. -/
theorem Tm.more (h : Tm w wr ib lk ix lx n dv idx low op comp t ov pv mv O XP ord M) (hg : Grow wr wr') : Tm w wr' ib lk ix lx n dv idx low op comp t ov pv mv O XP ord M := by
  have g := hg.grew
  have nn : ∀ {v : Value}, v.ownBlock = none ∨ v.ownBlock ≠ none := fun {v} => by cases v.ownBlock <;> simp
  exact ⟨h.grow.trans hg, h.four, hg.cell h.dcell, row_by h.crow g (by simp), h.oord.kept g nn, row_by h.irow g (by simp), row_by h.lrow g (by simp), hg.cell h.icell, hg.cell h.lcell, row_by h.prow g (by simp), hg.cell h.pcell, row_by h.obox g (by simp), row_by h.qbox g (by simp), row_by h.rbox g (by simp), h.oown.kept g nn, h.pown.kept g nn, h.mown.kept g nn, h.op1, h.pm1⟩

/-- A store into low. -/
theorem Tm.setLow (h : Tm w wr ib lk ix lx n dv idx low op comp t ov pv mv O XP ord M) (r x : Nat) : Tm w (wr.setCell ⟨lk, r, none⟩ (natV x)) ib lk ix lx n dv idx (fun y => if y = r then x else low y) op comp t ov pv mv O XP ord M := by
  obtain ⟨⟨b1, b1'⟩, ⟨b2, b2'⟩, ⟨b3, b3'⟩, ⟨b4, b4'⟩, d1, d2, d3, d4, d5, d6⟩ := h.four
  have hg : wr.grownBy (wr.setCell ⟨lk, r, none⟩ (natV x)) (some lk) := ⟨rfl, rfl, rfl, by simp [World.setCell], fun k _ hn => Below.heap_setCell _ _ _ _ (fun e => hn (by rw [e]))⟩
  exact ⟨h.grow.setCell (by show w.heap.size ≤ lk; omega) _, h.four, cell_by hg h.dcell (sne (by omega)), row_by h.crow hg (sne (by omega)), h.oord.kept hg (.inr (show some (w.heap.size + 2) ≠ _ from sne (by omega))), row_by h.irow hg (sne (by omega)), (h.lrow.set r _).congr (fun j _ => by by_cases e : j = r; (simp [e]); (simp [e])), cell_by hg h.icell (sne (by omega)), cell_by hg h.lcell (sne (by omega)), row_by h.prow hg (sne (by omega)), cell_by hg h.pcell (sne (by omega)), row_by h.obox hg (sne (by omega)), row_by h.qbox hg (sne (by omega)), row_by h.rbox hg (sne (by omega)), h.oown.kept hg (own_ne h.oown (by omega)), h.pown.kept hg (own_ne h.pown (by omega)), h.mown.kept hg (own_ne h.mown (by omega)), h.op1, h.pm1⟩
/-- A store into index. -/
theorem Tm.setIdx (h : Tm w wr ib lk ix lx n dv idx low op comp t ov pv mv O XP ord M) (r x : Nat) : Tm w (wr.setCell ⟨ib, r, none⟩ (natV x)) ib lk ix lx n dv (fun y => if y = r then x else idx y) low op comp t ov pv mv O XP ord M := by
  obtain ⟨⟨b1, b1'⟩, ⟨b2, b2'⟩, ⟨b3, b3'⟩, ⟨b4, b4'⟩, d1, d2, d3, d4, d5, d6⟩ := h.four
  have hg : wr.grownBy (wr.setCell ⟨ib, r, none⟩ (natV x)) (some ib) := ⟨rfl, rfl, rfl, by simp [World.setCell], fun k _ hn => Below.heap_setCell _ _ _ _ (fun e => hn (by rw [e]))⟩
  exact ⟨h.grow.setCell (by show w.heap.size ≤ ib; omega) _, h.four, cell_by hg h.dcell (sne (by omega)), row_by h.crow hg (sne (by omega)), h.oord.kept hg (.inr (show some (w.heap.size + 2) ≠ _ from sne (by omega))), (h.irow.set r _).congr (fun j _ => by by_cases e : j = r; (simp [e]); (simp [e])), row_by h.lrow hg (sne (by omega)), cell_by hg h.icell (sne (by omega)), cell_by hg h.lcell (sne (by omega)), row_by h.prow hg (sne (by omega)), cell_by hg h.pcell (sne (by omega)), row_by h.obox hg (sne (by omega)), row_by h.qbox hg (sne (by omega)), row_by h.rbox hg (sne (by omega)), h.oown.kept hg (own_ne h.oown (by omega)), h.pown.kept hg (own_ne h.pown (by omega)), h.mown.kept hg (own_ne h.mown (by omega)), h.op1, h.pm1⟩
/-- A store into open. -/
theorem Tm.setOpen (h : Tm w wr ib lk ix lx n dv idx low op comp t ov pv mv O XP ord M) (r : Nat) (x : Bool) : Tm w (wr.setCell ⟨w.heap.size + 7, r, none⟩ (.bool x)) ib lk ix lx n dv idx low (fun y => if y = r then x else op y) comp t ov pv mv O XP ord M := by
  obtain ⟨⟨b1, b1'⟩, ⟨b2, b2'⟩, ⟨b3, b3'⟩, ⟨b4, b4'⟩, d1, d2, d3, d4, d5, d6⟩ := h.four
  have hg : wr.grownBy (wr.setCell ⟨w.heap.size + 7, r, none⟩ (.bool x)) (some (w.heap.size + 7)) := ⟨rfl, rfl, rfl, by simp [World.setCell], fun k _ hn => Below.heap_setCell _ _ _ _ (fun e => hn (by rw [e]))⟩
  exact ⟨h.grow.setCell (by show w.heap.size ≤ w.heap.size + 7; omega) _, h.four, cell_by hg h.dcell (sne (by omega)), row_by h.crow hg (sne (by omega)), h.oord.kept hg (.inr (show some (w.heap.size + 2) ≠ _ from sne (by omega))), row_by h.irow hg (sne (by omega)), row_by h.lrow hg (sne (by omega)), cell_by hg h.icell (sne (by omega)), cell_by hg h.lcell (sne (by omega)), (h.prow.set r _).congr (fun j _ => by by_cases e : j = r; (simp [e]); (simp [e])), cell_by hg h.pcell (sne (by omega)), row_by h.obox hg (sne (by omega)), row_by h.qbox hg (sne (by omega)), row_by h.rbox hg (sne (by omega)), h.oown.kept hg (own_ne h.oown (by omega)), h.pown.kept hg (own_ne h.pown (by omega)), h.mown.kept hg (own_ne h.mown (by omega)), h.op1, h.pm1⟩
/-- A store into component. -/
theorem Tm.setComp (h : Tm w wr ib lk ix lx n dv idx low op comp t ov pv mv O XP ord M) (r x : Nat) : Tm w (wr.setCell ⟨w.heap.size + 1, r, none⟩ (natV x)) ib lk ix lx n dv idx low op (fun y => if y = r then x else comp y) t ov pv mv O XP ord M := by
  obtain ⟨⟨b1, b1'⟩, ⟨b2, b2'⟩, ⟨b3, b3'⟩, ⟨b4, b4'⟩, d1, d2, d3, d4, d5, d6⟩ := h.four
  have hg : wr.grownBy (wr.setCell ⟨w.heap.size + 1, r, none⟩ (natV x)) (some (w.heap.size + 1)) := ⟨rfl, rfl, rfl, by simp [World.setCell], fun k _ hn => Below.heap_setCell _ _ _ _ (fun e => hn (by rw [e]))⟩
  exact ⟨h.grow.setCell (by show w.heap.size ≤ w.heap.size + 1; omega) _, h.four, cell_by hg h.dcell (sne (by omega)), (h.crow.set r _).congr (fun j _ => by by_cases e : j = r; (simp [e]); (simp [e])), h.oord.kept hg (.inr (show some (w.heap.size + 2) ≠ _ from sne (by omega))), row_by h.irow hg (sne (by omega)), row_by h.lrow hg (sne (by omega)), cell_by hg h.icell (sne (by omega)), cell_by hg h.lcell (sne (by omega)), row_by h.prow hg (sne (by omega)), cell_by hg h.pcell (sne (by omega)), row_by h.obox hg (sne (by omega)), row_by h.qbox hg (sne (by omega)), row_by h.rbox hg (sne (by omega)), h.oown.kept hg (own_ne h.oown (by omega)), h.pown.kept hg (own_ne h.pown (by omega)), h.mown.kept hg (own_ne h.mown (by omega)), h.op1, h.pm1⟩
/-- A store into the count. -/
theorem Tm.setCount (h : Tm w wr ib lk ix lx n dv idx low op comp t ov pv mv O XP ord M) (x : Nat) : Tm w (wr.setCell ⟨w.heap.size + 11, 0, none⟩ (natV x)) ib lk ix lx n dv idx low op comp x ov pv mv O XP ord M := by
  obtain ⟨⟨b1, b1'⟩, ⟨b2, b2'⟩, ⟨b3, b3'⟩, ⟨b4, b4'⟩, d1, d2, d3, d4, d5, d6⟩ := h.four
  have hg : wr.grownBy (wr.setCell ⟨w.heap.size + 11, 0, none⟩ (natV x)) (some (w.heap.size + 11)) := ⟨rfl, rfl, rfl, by simp [World.setCell], fun k _ hn => Below.heap_setCell _ _ _ _ (fun e => hn (by rw [e]))⟩
  exact ⟨h.grow.setCell (by show w.heap.size ≤ w.heap.size + 11; omega) _, h.four, cell_by hg h.dcell (sne (by omega)), row_by h.crow hg (sne (by omega)), h.oord.kept hg (.inr (show some (w.heap.size + 2) ≠ _ from sne (by omega))), row_by h.irow hg (sne (by omega)), row_by h.lrow hg (sne (by omega)), cell_by hg h.icell (sne (by omega)), cell_by hg h.lcell (sne (by omega)), row_by h.prow hg (sne (by omega)), cell_by hg h.pcell (sne (by omega)), row_by h.obox hg (sne (by omega)), row_by h.qbox hg (sne (by omega)), row1_set h.rbox _, h.oown.kept hg (own_ne h.oown (by omega)), h.pown.kept hg (own_ne h.pown (by omega)), h.mown.kept hg (own_ne h.mown (by omega)), h.op1, h.pm1⟩
/-- The list of open ones turns: behind a growth of its own row a store into its box. -/
theorem Tm.setO {wq : World} {ov' : Value} {O' : List Nat} (h : Tm w wr ib lk ix lx n dv idx low op comp t ov pv mv O XP ord M) (hg0 : wr.grownBy wq ov.ownBlock) (ho : wq.ownsRow (w.heap.size + 12) 3 1 ov' O'.length (O'.map natV)) (hat : ∀ g, ov'.ownBlock = some g → ov.ownBlock = some g ∨ wr.heap.size ≤ g) :
    Tm w (wq.setCell ⟨w.heap.size + 9, 0, none⟩ ov') ib lk ix lx n dv idx low op comp t ov' pv mv O' XP ord M := by
  obtain ⟨⟨b1, b1'⟩, ⟨b2, b2'⟩, ⟨b3, b3'⟩, ⟨b4, b4'⟩, d1, d2, d3, d4, d5, d6⟩ := h.four
  have hg : wq.grownBy (wq.setCell ⟨w.heap.size + 9, 0, none⟩ ov') (some (w.heap.size + 9)) := ⟨rfl, rfl, rfl, by simp [World.setCell], fun k _ hn => Below.heap_setCell _ _ _ _ (fun e => hn (by rw [e]))⟩
  have hob : ∀ g, ov.ownBlock = some g → w.heap.size + 12 ≤ g := fun g e => (h.oown.lt g e).1
  have fb : ∀ {b : Nat}, b < w.heap.size + 12 → some b ≠ ov.ownBlock := fun {b} hb e => by have := hob b e.symm; omega
  have hpv : pv.ownBlock = none ∨ pv.ownBlock ≠ ov.ownBlock := by
    cases e : pv.ownBlock with
    | none => exact .inl rfl
    | some g => exact .inr (fun e2 => (h.op1 g e2.symm).1 e)
  have hmv : mv.ownBlock = none ∨ mv.ownBlock ≠ ov.ownBlock := by
    cases e : mv.ownBlock with
    | none => exact .inl rfl
    | some g => exact .inr (fun e2 => (h.op1 g e2.symm).2 e)
  have hsz := h.sized
  refine ⟨(h.grow.grown hg0 (fun k hk => by have := hob k hk; omega)).setCell (by show w.heap.size ≤ w.heap.size + 9; omega) _, h.four, cell_by hg (cell_by hg0 h.dcell (fb (by omega))) (sne (by omega)), row_by (row_by h.crow hg0 (fb (by omega))) hg (sne (by omega)), (h.oord.kept hg0 (.inr (show some (w.heap.size + 2) ≠ _ from fb (by omega)))).kept hg (.inr (show some (w.heap.size + 2) ≠ _ from sne (by omega))), row_by (row_by h.irow hg0 (fb (by omega))) hg (sne (by omega)), row_by (row_by h.lrow hg0 (fb (by omega))) hg (sne (by omega)), cell_by hg (cell_by hg0 h.icell (fb (by omega))) (sne (by omega)), cell_by hg (cell_by hg0 h.lcell (fb (by omega))) (sne (by omega)), row_by (row_by h.prow hg0 (fb (by omega))) hg (sne (by omega)), cell_by hg (cell_by hg0 h.pcell (fb (by omega))) (sne (by omega)), row1_set (row_by h.obox hg0 (fb (by omega))) _, row_by (row_by h.qbox hg0 (fb (by omega))) hg (sne (by omega)), row_by (row_by h.rbox hg0 (fb (by omega))) hg (sne (by omega)), ho.kept hg (own_ne ho (by omega)), (h.pown.kept hg0 hpv).kept hg (own_ne h.pown (by omega)), (h.mown.kept hg0 hmv).kept hg (own_ne h.mown (by omega)), fun g e => ?_, h.pm1⟩
  rcases hat g e with e1 | e1
  · exact h.op1 g e1
  · exact ⟨fun e2 => by have := (h.pown.lt g e2).2; omega, fun e2 => by have := (h.mown.lt g e2).2; omega⟩
/-- The path turns likewise. -/
theorem Tm.setP {wq : World} {pv' : Value} {XP' : List (Nat × Nat)} (h : Tm w wr ib lk ix lx n dv idx low op comp t ov pv mv O XP ord M) (hg0 : wr.grownBy wq pv.ownBlock) (ho : wq.ownsRow (w.heap.size + 12) 71 2 pv' XP'.length (stepsV XP')) (hat : ∀ g, pv'.ownBlock = some g → pv.ownBlock = some g ∨ wr.heap.size ≤ g) :
    Tm w (wq.setCell ⟨w.heap.size + 10, 0, none⟩ pv') ib lk ix lx n dv idx low op comp t ov pv' mv O XP' ord M := by
  obtain ⟨⟨b1, b1'⟩, ⟨b2, b2'⟩, ⟨b3, b3'⟩, ⟨b4, b4'⟩, d1, d2, d3, d4, d5, d6⟩ := h.four
  have hg : wq.grownBy (wq.setCell ⟨w.heap.size + 10, 0, none⟩ pv') (some (w.heap.size + 10)) := ⟨rfl, rfl, rfl, by simp [World.setCell], fun k _ hn => Below.heap_setCell _ _ _ _ (fun e => hn (by rw [e]))⟩
  have hob : ∀ g, pv.ownBlock = some g → w.heap.size + 12 ≤ g := fun g e => (h.pown.lt g e).1
  have fb : ∀ {b : Nat}, b < w.heap.size + 12 → some b ≠ pv.ownBlock := fun {b} hb e => by have := hob b e.symm; omega
  have hov : ov.ownBlock = none ∨ ov.ownBlock ≠ pv.ownBlock := by
    cases e : ov.ownBlock with
    | none => exact .inl rfl
    | some g => exact .inr (fun e2 => (h.op1 g e).1 e2.symm)
  have hmv : mv.ownBlock = none ∨ mv.ownBlock ≠ pv.ownBlock := by
    cases e : mv.ownBlock with
    | none => exact .inl rfl
    | some g => exact .inr (fun e2 => h.pm1 g e2.symm e)
  have hsz := h.sized
  refine ⟨(h.grow.grown hg0 (fun k hk => by have := hob k hk; omega)).setCell (by show w.heap.size ≤ w.heap.size + 10; omega) _, h.four, cell_by hg (cell_by hg0 h.dcell (fb (by omega))) (sne (by omega)), row_by (row_by h.crow hg0 (fb (by omega))) hg (sne (by omega)), (h.oord.kept hg0 (.inr (show some (w.heap.size + 2) ≠ _ from fb (by omega)))).kept hg (.inr (show some (w.heap.size + 2) ≠ _ from sne (by omega))), row_by (row_by h.irow hg0 (fb (by omega))) hg (sne (by omega)), row_by (row_by h.lrow hg0 (fb (by omega))) hg (sne (by omega)), cell_by hg (cell_by hg0 h.icell (fb (by omega))) (sne (by omega)), cell_by hg (cell_by hg0 h.lcell (fb (by omega))) (sne (by omega)), row_by (row_by h.prow hg0 (fb (by omega))) hg (sne (by omega)), cell_by hg (cell_by hg0 h.pcell (fb (by omega))) (sne (by omega)), row_by (row_by h.obox hg0 (fb (by omega))) hg (sne (by omega)), row1_set (row_by h.qbox hg0 (fb (by omega))) _, row_by (row_by h.rbox hg0 (fb (by omega))) hg (sne (by omega)), (h.oown.kept hg0 hov).kept hg (own_ne h.oown (by omega)), ho.kept hg (own_ne ho (by omega)), (h.mown.kept hg0 hmv).kept hg (own_ne h.mown (by omega)), fun g e => ⟨fun e2 => ?_, (h.op1 g e).2⟩, fun g e => ?_⟩
  · rcases hat g e2 with e1 | e1
    · exact (h.op1 g e).1 e1
    · have := (h.oown.lt g e).2; omega
  · rcases hat g e with e1 | e1
    · exact h.pm1 g e1
    · exact fun e2 => by have := (h.mown.lt g e2).2; omega
end
end Go.Proofs.Qxb6601698a
