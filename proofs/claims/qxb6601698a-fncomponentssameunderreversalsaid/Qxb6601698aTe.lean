/-
  More of the memory of '(Links).components' (34).
-/
import Derived.Test.Qxb6601698aTd
import Derived.Test.Qxb6601698aRf
import Derived.Test.Qxb6601698aRg
namespace Go.Proofs.Qxb6601698a
open Go.RowKit

section
variable {w wr wr' : World} {ib lk ix lx n : Nat} {dv : Value} {idx low : Nat → Nat} {op : Nat → Bool} {comp : Nat → Nat} {t : Nat} {ov pv mv : Value} {O : List Nat} {XP : List (Nat × Nat)} {ord : List Nat} {M : List (Nat × Nat)}

theorem by_refl (w : World) (row : Option Nat) : w.grownBy w row := ⟨rfl, rfl, rfl, Nat.le_refl _, fun _ _ _ => rfl⟩
theorem set_last2 (l : List Value) (a b c : Value) : (l ++ [a, b]).set (l.length + 1) c = l ++ [a, c] := by
  induction l with
  | nil => rfl
  | cons x r ih => simp [ih]

/-- The top's counter goes on. -/
theorem Tm.setNext {r x pb pc : Nat} (h : Tm w wr ib lk ix lx n dv idx low op comp t ov (.slice (some ⟨pb, 0, none⟩) (XP.length + 1) pc) mv O (XP ++ [(r, x)]) ord M) :
    Tm w (wr.setCell ⟨pb, XP.length * 2 + 1, none⟩ (natV (x + 1))) ib lk ix lx n dv idx low op comp t ov (.slice (some ⟨pb, 0, none⟩) (XP.length + 1) pc) mv O (XP ++ [(r, x + 1)]) ord M := by
  obtain ⟨⟨b1, b1'⟩, ⟨b2, b2'⟩, ⟨b3, b3'⟩, ⟨b4, b4'⟩, d1, d2, d3, d4, d5, d6⟩ := h.four
  have hp := h.pown
  have e2 : (XP ++ [(r, x)]).length = XP.length + 1 := by simp
  have e3 : (XP ++ [(r, x + 1)]).length = XP.length + 1 := by simp
  rw [e2] at hp
  have hpb := (hp.lt pb rfl).1
  obtain ⟨h4, hg⟩ := hp.stored (XP.length * 2 + 1) (natV (x + 1))
  have e4 : (stepsV (XP ++ [(r, x)])).set (XP.length * 2 + 1) (natV (x + 1)) = stepsV (XP ++ [(r, x + 1)]) := by
    rw [stepsV_snoc, stepsV_snoc, ← stepsV_len]
    exact set_last2 _ _ _ _
  rw [e4] at h4
  have hov : ov.ownBlock = none ∨ ov.ownBlock ≠ some pb := by
    cases e : ov.ownBlock with
    | none => exact .inl rfl
    | some g => exact .inr (fun e2 => (h.op1 g e).1 (by simpa [Value.ownBlock] using (Option.some.inj e2).symm))
  have hmv : mv.ownBlock = none ∨ mv.ownBlock ≠ some pb := .inr (h.pm1 pb rfl)
  exact ⟨h.grow.setCell (by show w.heap.size ≤ pb; omega) _, h.four, cell_by hg h.dcell (sne (by omega)), row_by h.crow hg (sne (by omega)), h.oord.kept hg (.inr (show some (w.heap.size + 2) ≠ _ from sne (by omega))), row_by h.irow hg (sne (by omega)), row_by h.lrow hg (sne (by omega)), cell_by hg h.icell (sne (by omega)), cell_by hg h.lcell (sne (by omega)), row_by h.prow hg (sne (by omega)), cell_by hg h.pcell (sne (by omega)), row_by h.obox hg (sne (by omega)), row_by h.qbox hg (sne (by omega)), row_by h.rbox hg (sne (by omega)), h.oown.kept hg hov, by rw [e3]; exact h4, h.mown.kept hg hmv, h.op1, h.pm1⟩
/-- One more in the order. -/
theorem Tm.setOrd {m : Nat} (h : Tm w wr ib lk ix lx n dv idx low op comp t ov pv mv O XP ord M) (hg : wr.grownBy wr' (some (w.heap.size + 2))) (ho : wr'.ownsRow 0 3 1 (.slice (some ⟨w.heap.size + 2, 0, none⟩) (ord.length + 1) n) (ord.length + 1) (ord.map natV ++ [natV m])) :
    Tm w wr' ib lk ix lx n dv idx low op comp t ov pv mv O XP (ord ++ [m]) M := by
  obtain ⟨⟨b1, b1'⟩, ⟨b2, b2'⟩, ⟨b3, b3'⟩, ⟨b4, b4'⟩, d1, d2, d3, d4, d5, d6⟩ := h.four
  exact ⟨h.grow.grown hg (fun k hk => by cases hk; omega), h.four, cell_by hg h.dcell (sne (by omega)), row_by h.crow hg (sne (by omega)), by simpa using ho, row_by h.irow hg (sne (by omega)), row_by h.lrow hg (sne (by omega)), cell_by hg h.icell (sne (by omega)), cell_by hg h.lcell (sne (by omega)), row_by h.prow hg (sne (by omega)), cell_by hg h.pcell (sne (by omega)), row_by h.obox hg (sne (by omega)), row_by h.qbox hg (sne (by omega)), row_by h.rbox hg (sne (by omega)), h.oown.kept hg (own_ne h.oown (by omega)), h.pown.kept hg (own_ne h.pown (by omega)), h.mown.kept hg (own_ne h.mown (by omega)), h.op1, h.pm1⟩
/-- One more component. -/
theorem Tm.setM {p : Nat × Nat} {mv' : Value} (h : Tm w wr ib lk ix lx n dv idx low op comp t ov pv mv O XP ord M) (hg : wr.grownBy wr' mv.ownBlock) (ho : wr'.ownsRow (w.heap.size + 12) 25 1 mv' (M.length + 1) (M.map (partV w.heap.size) ++ [partV w.heap.size p])) (hat : ∀ g, mv'.ownBlock = some g → mv.ownBlock = some g ∨ wr.heap.size ≤ g) :
    Tm w wr' ib lk ix lx n dv idx low op comp t ov pv mv' O XP ord (M ++ [p]) := by
  obtain ⟨⟨b1, b1'⟩, ⟨b2, b2'⟩, ⟨b3, b3'⟩, ⟨b4, b4'⟩, d1, d2, d3, d4, d5, d6⟩ := h.four
  have hob : ∀ g, mv.ownBlock = some g → w.heap.size + 12 ≤ g := fun g e => (h.mown.lt g e).1
  have fb : ∀ {b : Nat}, b < w.heap.size + 12 → some b ≠ mv.ownBlock := fun {b} hb e => by have := hob b e.symm; omega
  have hov : ov.ownBlock = none ∨ ov.ownBlock ≠ mv.ownBlock := by
    cases e : ov.ownBlock with
    | none => exact .inl rfl
    | some g => exact .inr (fun e2 => (h.op1 g e).2 e2.symm)
  have hpv : pv.ownBlock = none ∨ pv.ownBlock ≠ mv.ownBlock := by
    cases e : pv.ownBlock with
    | none => exact .inl rfl
    | some g => exact .inr (fun e2 => h.pm1 g e e2.symm)
  refine ⟨h.grow.grown hg (fun k hk => by have := hob k hk; omega), h.four, cell_by hg h.dcell (fb (by omega)), row_by h.crow hg (fb (by omega)), h.oord.kept hg (.inr (show some (w.heap.size + 2) ≠ _ from fb (by omega))), row_by h.irow hg (fb (by omega)), row_by h.lrow hg (fb (by omega)), cell_by hg h.icell (fb (by omega)), cell_by hg h.lcell (fb (by omega)), row_by h.prow hg (fb (by omega)), cell_by hg h.pcell (fb (by omega)), row_by h.obox hg (fb (by omega)), row_by h.qbox hg (fb (by omega)), row_by h.rbox hg (fb (by omega)), h.oown.kept hg hov, h.pown.kept hg hpv, by simpa using ho, fun g e => ⟨(h.op1 g e).1, fun e2 => ?_⟩, fun g e e2 => ?_⟩
  · rcases hat g e2 with e1 | e1
    · exact (h.op1 g e).2 e1
    · have := (h.oown.lt g e).2; omega
  · rcases hat g e2 with e1 | e1
    · exact h.pm1 g e e1
    · have := (h.pown.lt g e).2; omega
/-- The top of the path. -/
theorem Tm.topP {r x : Nat} (h : Tm w wr ib lk ix lx n dv idx low op comp t ov pv mv O (XP ++ [(r, x)]) ord M) : ∃ pb pc, pv = .slice (some ⟨pb, 0, none⟩) (XP.length + 1) pc ∧ XP.length + 1 ≤ pc ∧ w.heap.size + 12 ≤ pb ∧ wr.cell? ⟨pb, XP.length * 2, none⟩ = some (.int .i64 (r : Int)) ∧ wr.cell? ⟨pb, XP.length * 2 + 1, none⟩ = some (.int .i64 (x : Int)) ∧ wr.frozen? ⟨pb, XP.length * 2 + 1, none⟩ = false := by
  have hp := h.pown
  obtain ⟨pb, pc, rfl, hb, _⟩ := hp.form (by simp)
  have e2 : (XP ++ [(r, x)]).length = XP.length + 1 := by simp
  rw [e2] at hp
  have hc := hp.cells (g := pb) rfl
  have hcap := own_cap hp
  refine ⟨pb, pc, by rw [e2], hcap, hb, ?_, ?_, ?_⟩
  · have := hc (XP.length * 2) (natV r) (by rw [stepsV_snoc, List.getElem?_append_right (by rw [stepsV_len]; omega), stepsV_len]; simp [stepV])
    simpa [natV, Addr.add_mid] using this
  · have := hc (XP.length * 2 + 1) (natV x) (by rw [stepsV_snoc, List.getElem?_append_right (by rw [stepsV_len]; omega), stepsV_len, show XP.length * 2 + 1 - XP.length * 2 = 1 by omega]; simp [stepV])
    simpa [natV, Addr.add_mid] using this
  · exact hp.frozenAt _
/-- The path without its top, behind the store into its box. -/
theorem Tm.popP {r x pb pc : Nat} (h : Tm w wr ib lk ix lx n dv idx low op comp t ov (.slice (some ⟨pb, 0, none⟩) (XP.length + 1) pc) mv O (XP ++ [(r, x)]) ord M) :
    Tm w (wr.setCell ⟨w.heap.size + 10, 0, none⟩ (.slice (some ⟨pb, 0, none⟩) XP.length pc)) ib lk ix lx n dv idx low op comp t ov (.slice (some ⟨pb, 0, none⟩) XP.length pc) mv O XP ord M := by
  have hp := h.pown
  have e2 : (XP ++ [(r, x)]).length = XP.length + 1 := by simp
  rw [e2, stepsV_snoc] at hp
  exact h.setP (wq := wr) (by_refl wr _) (ownsRow_pop (stepsV_len XP) hp) (fun g hg => .inl hg)
/-- The open ones without the last, behind the store into their box. -/
theorem Tm.popO {m ob oc : Nat} (h : Tm w wr ib lk ix lx n dv idx low op comp t (.slice (some ⟨ob, 0, none⟩) (O.length + 1) oc) pv mv (O ++ [m]) XP ord M) :
    Tm w (wr.setCell ⟨w.heap.size + 9, 0, none⟩ (.slice (some ⟨ob, 0, none⟩) O.length oc)) ib lk ix lx n dv idx low op comp t (.slice (some ⟨ob, 0, none⟩) O.length oc) pv mv O XP ord M := by
  have hp := h.oown
  have e2 : (O ++ [m]).length = O.length + 1 := by simp
  rw [e2, List.map_append] at hp
  exact h.setO (wq := wr) (by_refl wr _) (ownsRow_pop (by simp) hp) (fun g hg => .inl hg)
end
end Go.Proofs.Qxb6601698a
