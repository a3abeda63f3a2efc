/-
  The search's struct in memory; what a call of 'from' leaves.
-/
import Derived.Test.Qxb6602155aSa
namespace Go.Proofs.Qxb6602155a
open Go.RowKit

/-- The ten cells of the search's struct. -/
def sCells (iv rv : Value) (lo hi : Int) (least : Bool) (sv bv : Value) (s : St) : Nat → Value
  | 0 => iv
  | 1 => rv
  | 2 => .int .i64 lo
  | 3 => .int .i64 hi
  | 4 => .bool least
  | 5 => .int .i64 s.steps
  | 6 => sv
  | 7 => bv
  | 8 => .int .i64 s.sum
  | _ => .bool s.found

/-- The search as it lies in memory. -/
structure SIn (w : World) (sb : Nat) (iv rv : Value) (lo hi : Int) (least : Bool) (sv bv : Value) (s : St) : Prop where
  row : w.rowIs sb 44 10 (sCells iv rv lo hi least sv bv s)
  set : w.ownsRow 0 32 5 sv s.set.length (valsOf s.set)
  best : w.ownsRow 0 32 5 bv s.best.length (valsOf s.best)
  ss : sv.ownBlock ≠ some sb
  bs : bv.ownBlock ≠ some sb
  sn : ∀ g, sv.ownBlock = some g → bv.ownBlock ≠ some g

/-- The blocks that 'from' may write. -/
def Touch (sb : Nat) (sv : Value) (k : Nat) : Prop := k = sb ∨ sv.ownBlock = some k
def Moved (w : World) (sv sv' : Value) : Prop := sv'.ownBlock = sv.ownBlock ∨ ∃ g, w.heap.size ≤ g ∧ sv'.ownBlock = some g

/-- What a call of 'from' leaves. -/
def After (w w' : World) (sb : Nat) (iv rv : Value) (lo hi : Int) (least : Bool) (sv : Value) (s' : St) : Prop :=
  ∃ sv' bv', SIn w' sb iv rv lo hi least sv' bv' s' ∧ Kept (Touch sb sv) w w' ∧ Moved w sv sv'

theorem After.start {w : World} {sb : Nat} {iv rv : Value} {lo hi : Int} {least : Bool} {sv bv : Value} {s : St} (h : SIn w sb iv rv lo hi least sv bv s) : After w w sb iv rv lo hi least sv s :=
  ⟨sv, bv, h, Kept.refl _ _, .inl rfl⟩

theorem Kept.trans {T T' : Nat → Prop} {a b c : World} (h : Kept T a b) (k : Kept T' b c) (ht : ∀ x, x < a.heap.size → T' x → T x) : Kept T a c :=
  ⟨k.os.trans h.os, k.tape.trans h.tape, k.output.trans h.output, Nat.le_trans h.size k.size, fun x hx hn => (k.block x (Nat.lt_of_lt_of_le hx h.size) (fun t => hn (ht x hx t))).trans (h.block x hx hn)⟩
theorem Kept.row {T : Nat → Prop} {w w' : World} (h : Kept T w w') {b : Nat} {t : TypeId} {n : Nat} {f : Nat → Value} (hr : w.rowIs b t n f) (hb : ¬ T b) : w'.rowIs b t n f := hr.of_block (h.block b hr.lt hb)
theorem Kept.drew {T : Nat → Prop} {w w' : World} (h : Kept T w w') : Kept T w w'.drew := ⟨h.os, h.tape, h.output, h.size, h.block⟩
theorem Kept.setCell {T : Nat → Prop} {w w' : World} (h : Kept T w w') {a : Addr} (ha : T a.block ∨ w.heap.size ≤ a.block) (v : Value) : Kept T w (w'.setCell a v) :=
  ⟨h.os, h.tape, h.output, by simpa [World.setCell] using h.size, fun k hk hn => by
    rw [Below.heap_setCell _ _ _ _ (fun e => by subst e; rcases ha with ha | ha; exact hn ha; omega)]
    exact h.block k hk hn⟩
theorem Kept.grown {T : Nat → Prop} {w a b : World} {row : Option Nat} (h : Kept T w a) (hg : a.grownBy b row) (hr : ∀ k, row = some k → T k ∨ w.heap.size ≤ k) : Kept T w b :=
  ⟨hg.os.trans h.os, hg.tape.trans h.tape, hg.output.trans h.output, Nat.le_trans h.size hg.size, fun k hk hn => by
    rw [hg.block k (Nat.lt_of_lt_of_le hk h.size) (fun e => by rcases hr k e.symm with t | t; exact hn t; omega)]
    exact h.block k hk hn⟩

theorem After.trans {w w1 w2 : World} {sb : Nat} {iv rv : Value} {lo hi : Int} {least : Bool} {sv sv1 : Value} {s2 : St}
    (hk : Kept (Touch sb sv) w w1) (hm : Moved w sv sv1) (h2 : After w1 w2 sb iv rv lo hi least sv1 s2) : After w w2 sb iv rv lo hi least sv s2 := by
  obtain ⟨sv2, bv2, a, b, c⟩ := h2
  refine ⟨sv2, bv2, a, hk.trans b (fun x hx t => ?_), ?_⟩
  · rcases t with t | t
    · exact .inl t
    · rcases hm with m | ⟨g, hg, m⟩
      · exact .inr (m ▸ t)
      · rw [m] at t; cases t; omega
  · rcases c with c | ⟨g, hg, c⟩
    · rcases hm with m | ⟨g, hg, m⟩
      · exact .inl (c.trans m)
      · exact .inr ⟨g, hg, c.trans m⟩
    · exact .inr ⟨g, Nat.le_trans hk.size hg, c⟩

/-- One more step. -/
theorem SIn.tick {w : World} {sb : Nat} {iv rv : Value} {lo hi : Int} {least : Bool} {sv bv : Value} {s : St} (h : SIn w sb iv rv lo hi least sv bv s) :
    SIn (w.setCell ⟨sb, 5, none⟩ (.int .i64 (s.steps + 1))) sb iv rv lo hi least sv bv { s with steps := s.steps + 1 } := by
  refine ⟨(h.row.set 5 _).congr ?_, ?_, ?_, h.ss, h.bs, h.sn⟩
  · intro i hi
    match i, hi with
    | 0, _ | 1, _ | 2, _ | 3, _ | 4, _ | 5, _ | 6, _ | 7, _ | 8, _ | 9, _ => rfl
  · exact h.set.kept (row := some sb) ⟨rfl, rfl, rfl, by simp [World.setCell], fun k _ hn => Below.heap_setCell _ _ _ _ (fun e => hn (by rw [e]))⟩ (.inr h.ss)
  · exact h.best.kept (row := some sb) ⟨rfl, rfl, rfl, by simp [World.setCell], fun k _ hn => Below.heap_setCell _ _ _ _ (fun e => hn (by rw [e]))⟩ (.inr h.bs)

theorem grown_setCell (w : World) (b o : Nat) (v : Value) : w.grownBy (w.setCell ⟨b, o, none⟩ v) (some b) :=
  ⟨rfl, rfl, rfl, by simp [World.setCell], fun k _ hn => Below.heap_setCell _ _ _ _ (fun e => hn (by rw [e]))⟩

/-- A better set is kept. -/
theorem SIn.keep {w w1 : World} {sb : Nat} {iv rv : Value} {lo hi : Int} {least : Bool} {sv bv bv1 : Value} {s : St} (sum : Int) (h : SIn w sb iv rv lo hi least sv bv s)
    (hg : w.grownBy w1 none) (ho : w1.ownsRow 0 32 5 bv1 s.set.length (valsOf s.set)) (hn : ∀ g, bv1.ownBlock = some g → w.heap.size ≤ g) :
    SIn (((w1.setCell ⟨sb, 7, none⟩ bv1).setCell ⟨sb, 8, none⟩ (.int .i64 sum)).setCell ⟨sb, 9, none⟩ (.bool true)) sb iv rv lo hi least sv bv1 { s with best := s.set, sum := sum, found := true } := by
  have hlt := h.row.lt
  have hb1 : bv1.ownBlock ≠ some sb := fun e => by have := hn sb e; omega
  have hr1 : w1.rowIs sb 44 10 (sCells iv rv lo hi least sv bv s) := h.row.of_block (hg.block sb hlt (by simp))
  have hs1 : w1.ownsRow 0 32 5 sv s.set.length (valsOf s.set) := h.set.kept hg (by cases hq : sv.ownBlock <;> simp)
  refine ⟨(((hr1.set 7 _).set 8 _).set 9 _).congr ?_, ?_, ?_, h.ss, hb1, ?_⟩
  · intro i hi
    match i, hi with
    | 0, _ | 1, _ | 2, _ | 3, _ | 4, _ | 5, _ | 6, _ | 7, _ | 8, _ | 9, _ => rfl
  · exact ((hs1.kept (grown_setCell _ _ _ _) (.inr h.ss)).kept (grown_setCell _ _ _ _) (.inr h.ss)).kept (grown_setCell _ _ _ _) (.inr h.ss)
  · exact ((ho.kept (grown_setCell _ _ _ _) (.inr hb1)).kept (grown_setCell _ _ _ _) (.inr hb1)).kept (grown_setCell _ _ _ _) (.inr hb1)
  · intro g hg' e
    have := hn g e
    have := (h.set.lt g hg').2
    omega

/-- An item is appended to the set. -/
theorem SIn.pushed {w w1 : World} {sb : Nat} {iv rv : Value} {lo hi : Int} {least : Bool} {sv bv : Value} {s : St} {g cap : Nat} {x : It} (h : SIn w sb iv rv lo hi least sv bv s)
    (hg : w.grownBy w1 sv.ownBlock) (ho : w1.ownsRow 0 32 5 (.slice (some ⟨g, 0, none⟩) (s.set.length + 1) cap) (s.set.length + 1) (valsOf s.set ++ x.vals)) (hat : sv.ownBlock = some g ∨ w.heap.size ≤ g) :
    SIn (w1.setCell ⟨sb, 6, none⟩ (.slice (some ⟨g, 0, none⟩) (s.set.length + 1) cap)) sb iv rv lo hi least (.slice (some ⟨g, 0, none⟩) (s.set.length + 1) cap) bv (push s x) ∧
    Kept (Touch sb sv) w (w1.setCell ⟨sb, 6, none⟩ (.slice (some ⟨g, 0, none⟩) (s.set.length + 1) cap)) ∧ Moved w sv (.slice (some ⟨g, 0, none⟩) (s.set.length + 1) cap) := by
  have hlt := h.row.lt
  have hgs : g ≠ sb := fun e => by
    rcases hat with t | t
    · exact h.ss (e ▸ t)
    · omega
  have hr1 : w1.rowIs sb 44 10 (sCells iv rv lo hi least sv bv s) := h.row.of_block (hg.block sb hlt (fun e => h.ss e.symm))
  refine ⟨⟨(hr1.set 6 _).congr ?_, ?_, ?_, ?_, h.bs, ?_⟩, ?_, ?_⟩
  · intro i hi
    match i, hi with
    | 0, _ | 1, _ | 2, _ | 3, _ | 4, _ | 5, _ | 6, _ | 7, _ | 8, _ | 9, _ => rfl
  · have := ho.kept (grown_setCell w1 sb 6 (.slice (some ⟨g, 0, none⟩) (s.set.length + 1) cap)) (.inr (fun e => hgs (by simpa [Value.ownBlock] using e)))
    simpa [push, valsOf_append, valsOf_one] using this
  · refine (h.best.kept hg ?_).kept (grown_setCell _ _ _ _) (.inr h.bs)
    cases hq : bv.ownBlock with
    | none => exact .inl rfl
    | some k => exact .inr (fun e => h.sn k e.symm hq)
  · intro e
    exact hgs (by simpa [Value.ownBlock] using e)
  · intro k hk e
    have hk' : k = g := by simpa [Value.ownBlock] using hk.symm
    subst hk'
    rcases hat with t | t
    · exact h.sn k t e
    · have := (h.best.lt k e).2
      omega
  · exact ((Kept.refl _ _).grown hg (fun k hk => .inl (.inr hk))).setCell (.inl (.inl rfl)) _
  · rcases hat with t | t
    · exact .inl t.symm
    · exact .inr ⟨g, t, rfl⟩

/-- The last item is taken off the set. -/
theorem SIn.popped {w : World} {sb : Nat} {iv rv : Value} {lo hi : Int} {least : Bool} {g cap : Nat} {bv : Value} {s : St} {t : List It} {x : It} (h : SIn w sb iv rv lo hi least (.slice (some ⟨g, 0, none⟩) (t.length + 1) cap) bv s) (hs : s.set = t ++ [x]) :
    SIn (w.setCell ⟨sb, 6, none⟩ (.slice (some ⟨g, 0, none⟩) t.length cap)) sb iv rv lo hi least (.slice (some ⟨g, 0, none⟩) t.length cap) bv (pop s) := by
  have hgs : g ≠ sb := fun e => h.ss (by simp [Value.ownBlock, e])
  have hd : (pop s).set = t := by simp [pop, hs]
  refine ⟨(h.row.set 6 _).congr ?_, ?_, ?_, ?_, h.bs, ?_⟩
  · intro i hi
    match i, hi with
    | 0, _ | 1, _ | 2, _ | 3, _ | 4, _ | 5, _ | 6, _ | 7, _ | 8, _ | 9, _ => rfl
  · have h1 := h.set
    rw [hs] at h1
    simp only [List.length_append, List.length_cons, List.length_nil, Nat.zero_add, valsOf_append] at h1
    have h2 := ownsRow_pop (valsOf_length t) h1
    rw [hd]
    exact h2.kept (grown_setCell _ _ _ _) (.inr (fun e => hgs (by simpa [Value.ownBlock] using e)))
  · exact h.best.kept (grown_setCell _ _ _ _) (.inr h.bs)
  · intro e
    exact hgs (by simpa [Value.ownBlock] using e)
  · intro k hk
    exact h.sn k hk

/-- A set that is not empty: its value's shape. -/
theorem SIn.shape {w : World} {sb : Nat} {iv rv : Value} {lo hi : Int} {least : Bool} {sv bv : Value} {s : St} (h : SIn w sb iv rv lo hi least sv bv s) (hn : 0 < s.set.length) : ∃ g cap, sv = .slice (some ⟨g, 0, none⟩) s.set.length cap := by
  obtain ⟨g, cap, hv, _⟩ := h.set.form hn
  exact ⟨g, cap, hv⟩

end Go.Proofs.Qxb6602155a
