/-
  Maps by string whatever they hold; slices of strings; memory that grows.
-/
import Derived.Test.Qxb6601698aRows
import Derived.WalkKit
import Derived.WalkSpells
import Derived.WalkLawsBesides
import Derived.Maps.OwnSet
import Derived.StringKeys
import Derived.Deep.AppendLies
import Derived.Deep.OwnRows
namespace Go.Proofs.Qxb6601698a
open Go.RowKit Go.ChangeMaps Go.MapKept
open Go.WideElems (Fit rd rg pl rd_val elemAt)
open Go.Maps (Keyed)

/-- w' is w but for the blocks of T and new ones. -/
structure Kept (T : Nat → Prop) (w w' : World) : Prop where
  os : w'.os = w.os
  tape : w'.tape = w.tape
  output : w'.output = w.output
  size : w.heap.size ≤ w'.heap.size
  block : ∀ k, k < w.heap.size → ¬ T k → w'.heap[k]? = w.heap[k]?
theorem Kept.refl (T : Nat → Prop) (w : World) : Kept T w w := ⟨rfl, rfl, rfl, Nat.le_refl _, fun _ _ _ => rfl⟩
theorem Kept.trans {T T' : Nat → Prop} {a b c : World} (h : Kept T a b) (k : Kept T' b c) (ht : ∀ x, x < a.heap.size → T' x → T x) : Kept T a c :=
  ⟨k.os.trans h.os, k.tape.trans h.tape, k.output.trans h.output, Nat.le_trans h.size k.size, fun x hx hn => (k.block x (Nat.lt_of_lt_of_le hx h.size) (fun t => hn (ht x hx t))).trans (h.block x hx hn)⟩
theorem Kept.drewN {T : Nat → Prop} {w w' : World} (h : Kept T w w') (n : Nat) : Kept T w (w'.drewN n) := ⟨h.os, h.tape, h.output, h.size, h.block⟩
theorem Kept.drew {T : Nat → Prop} {w w' : World} (h : Kept T w w') : Kept T w w'.drew := ⟨h.os, h.tape, h.output, h.size, h.block⟩
theorem Kept.setCell {T : Nat → Prop} {w w' : World} (h : Kept T w w') {a : Addr} (ha : T a.block ∨ w.heap.size ≤ a.block) (v : Value) : Kept T w (w'.setCell a v) :=
  ⟨h.os, h.tape, h.output, by simpa [World.setCell] using h.size, fun k hk hn => by
    rw [Below.heap_setCell _ _ _ _ (fun e => by subst e; rcases ha with ha | ha; exact hn ha; omega)]
    exact h.block k hk hn⟩
theorem Kept.grown {T : Nat → Prop} {w a b : World} {row : Option Nat} (h : Kept T w a) (hg : a.grownBy b row) (hr : ∀ k, row = some k → T k ∨ w.heap.size ≤ k) : Kept T w b :=
  ⟨hg.os.trans h.os, hg.tape.trans h.tape, hg.output.trans h.output, Nat.le_trans h.size hg.size, fun k hk hn => by
    rw [hg.block k (Nat.lt_of_lt_of_le hk h.size) (fun e => by rcases hr k e.symm with t | t; exact hn t; omega)]
    exact h.block k hk hn⟩
/-- w' is w with new blocks. -/
def Grow (w w' : World) : Prop := Kept (fun _ => False) w w'
theorem Grow.refl (w : World) : Grow w w := Kept.refl _ _
theorem Grow.trans {a b c : World} (h : Grow a b) (k : Grow b c) : Grow a c := Kept.trans h k (fun _ _ t => t)
theorem Grow.alloc {w w' : World} (h : Grow w w') (o : Obj) : Grow w (w'.alloc o) :=
  Kept.grown h (World.grownBy_alloc w' o none) (fun k hk => by cases hk)
theorem Grow.drewN {w w' : World} (h : Grow w w') (n : Nat) : Grow w (w'.drewN n) := Kept.drewN h n
theorem Grow.drew {w w' : World} (h : Grow w w') : Grow w w'.drew := Kept.drew h
theorem Grow.setCell {w w' : World} (h : Grow w w') {a : Addr} (ha : w.heap.size ≤ a.block) (v : Value) : Grow w (w'.setCell a v) := Kept.setCell h (.inr ha) v
theorem Grow.grown {w a b : World} {row : Option Nat} (h : Grow w a) (hg : a.grownBy b row) (hr : ∀ k, row = some k → w.heap.size ≤ k) : Grow w b := Kept.grown h hg (fun k hk => .inr (hr k hk))
theorem Grow.cell {w w' : World} (h : Grow w w') {p : Addr} {v : Value} (hc : w.cell? p = some v) : w'.cell? p = some v := by
  have hb := World.block_lt_of_cell? w p hc
  have := h.block p.block hb (fun t => t)
  unfold World.cell? at *
  rw [this]
  exact hc
theorem Grow.grew {w w' : World} (h : Grow w w') : w.grownBy w' none := ⟨h.os, h.tape, h.output, h.size, fun k hk _ => h.block k hk (fun t => t)⟩
theorem Grow.of_by {w w' : World} (h : w.grownBy w' none) : Grow w w' := ⟨h.os, h.tape, h.output, h.size, fun k hk _ => h.block k hk (by simp)⟩

/-- A slice of strings in memory, to be read. -/
def Strs (w : World) (a : Option Addr) (xs : List ByteArray) : Prop :=
  (a = none → xs = []) ∧ ∀ i, i < xs.length → ∃ b o, a = some ⟨b, o, none⟩ ∧ w.cell? ⟨b, o + i, none⟩ = some (.string (xs.getD i ByteArray.empty))
theorem Strs.grow {w w' : World} {a : Option Addr} {xs : List ByteArray} (h : Strs w a xs) (g : Grow w w') : Strs w' a xs :=
  ⟨h.1, fun i hi => by
    obtain ⟨b, o, ha, hc⟩ := h.2 i hi
    exact ⟨b, o, ha, g.cell hc⟩⟩
theorem strs_own {w : World} {v : Value} {xs : List ByteArray} {base : Nat} (h : w.ownsRow base 9 1 v xs.length (xs.map Value.string)) : ∃ a cap, v = .slice a xs.length cap ∧ Strs w a xs := by
  rcases h.2 with ⟨rfl, h0⟩ | ⟨g, cap, cur, rfl, _, hg, _, _, _, ht⟩
  · obtain rfl := List.eq_nil_of_length_eq_zero h0
    exact ⟨none, 0, rfl, fun _ => rfl, fun i hi => by simp at hi⟩
  · refine ⟨_, cap, rfl, (fun e => by cases e), fun i hi => ⟨g, 0, rfl, ?_⟩⟩
    have h1 : (xs.map Value.string)[i]? = some (.string (xs.getD i ByteArray.empty)) := by simp [hi, List.getD]
    rw [← ht, List.getElem?_take, if_pos (by omega)] at h1
    simp only [World.cell?, hg, Nat.zero_add]
    simpa using h1

/-! ### maps -/
def RV (v : Value) : Option (DataW Value × List MemPlace) := some (.held v, [])
def kl (s : ByteArray) : Lit := .string s.data.toList
theorem kl_inj {s t : ByteArray} (h : kl s = kl t) : s = t := by
  unfold kl at h
  injection h with h
  exact Go.WideShapes.bytes_inj h
theorem keyed9 : Keyed Try.prog 9 := Maps.string_keyed Try.underlying9
theorem key9 {s : ByteArray} (h : s.size ≤ maxLen) : keyOf Try.prog 9 (.string s) = some (kl s) := Go.WideMaps.keyOf_string_mk Try.underlying9 h

/-- Block b is a map of at most n entries that holds f. -/
def Mp (w : World) (b n : Nat) (f : ByteArray → Option Value) : Prop :=
  ∃ D, w.ownsMap Try.prog 9 RV b n D ∧ (∀ s z, D.atKey (kl s) (.held z) = .held ((f s).getD z)) ∧ ∀ s, Maps.has D (kl s) = (f s).isSome

def upd (f : ByteArray → Option Value) (s : ByteArray) (v : Value) : ByteArray → Option Value := fun t => if t = s then some v else f t
theorem upd_same (f : ByteArray → Option Value) (s : ByteArray) (v : Value) : upd f s v s = some v := by simp [upd]
theorem upd_other (f : ByteArray → Option Value) {s t : ByteArray} (v : Value) (h : t ≠ s) : upd f s v t = f t := by simp [upd, h]

theorem Mp.made (w : World) : Mp (w.alloc (.map #[] 0)) w.heap.size 0 (fun _ => none) :=
  ⟨_, World.ownsMap_made w _ _ _, fun _ _ => rfl, fun _ => rfl⟩
theorem Mp.lt {w : World} {b n : Nat} {f : ByteArray → Option Value} (h : Mp w b n f) : b < w.heap.size := by obtain ⟨D, h, _⟩ := h; exact h.lt
theorem Mp.mono {w : World} {b n m : Nat} {f : ByteArray → Option Value} (h : Mp w b n f) (hm : n ≤ m) : Mp w b m f := by obtain ⟨D, h, h2⟩ := h; exact ⟨D, h.mono hm, h2⟩
theorem Mp.kept {w w' : World} {b n : Nat} {f : ByteArray → Option Value} {row : Option Nat} (h : Mp w b n f) (hg : w.grownBy w' row) (hne : some b ≠ row) : Mp w' b n f := by
  obtain ⟨D, h, h2⟩ := h
  exact ⟨D, h.kept hg hne, h2⟩
theorem Mp.grow {w w' : World} {b n : Nat} {f : ByteArray → Option Value} (h : Mp w b n f) (hg : Grow w w') : Mp w' b n f := h.kept hg.grew (by simp)
theorem Mp.drewN {w : World} {b n : Nat} {f : ByteArray → Option Value} (h : Mp w b n f) (k : Nat) : Mp (w.drewN k) b n f := h
theorem Mp.look {w : World} {b n : Nat} {f : ByteArray → Option Value} (h : Mp w b n f) {t e : TypeId} (ht : Try.prog.underlying t = some (.map 9 e)) {z : Value} (hz : (zeroValue e).run Try.prog w = .ok z w) {s : ByteArray} (hs : s.size ≤ maxLen) :
    (Instr.lookup t (.map (some b)) (.string s) false).run Try.prog w = .ok ((f s).getD z) w := by
  obtain ⟨D, h, h1, _⟩ := h
  obtain ⟨v, ps, hrun, hv⟩ := h.lookup keyed9 ht hz (zd := .held z) (zp := []) rfl (key9 hs)
  rw [h1] at hv
  have e : v = (f s).getD z := by
    have := Option.some.inj hv
    simp only [Prod.mk.injEq, DataW.held.injEq] at this
    exact this.1
  rw [hrun, e]
theorem Mp.look_ok {w : World} {b n : Nat} {f : ByteArray → Option Value} (h : Mp w b n f) {t e : TypeId} (ht : Try.prog.underlying t = some (.map 9 e)) {z : Value} (hz : (zeroValue e).run Try.prog w = .ok z w) {s : ByteArray} (hs : s.size ≤ maxLen) :
    (Instr.lookup t (.map (some b)) (.string s) true).run Try.prog w = .ok (.tuple #[(f s).getD z, .bool (f s).isSome]) w := by
  obtain ⟨D, h, h1, h2⟩ := h
  obtain ⟨v, ps, hrun, hv⟩ := h.look_ok keyed9 ht hz (zd := .held z) (zp := []) rfl (key9 hs)
  rw [h1] at hv
  have e : v = (f s).getD z := by
    have := Option.some.inj hv
    simp only [Prod.mk.injEq, DataW.held.injEq] at this
    exact this.1
  rw [hrun, e, h2]
theorem ownsMap_isMap {w : World} {b n : Nat} {D : DataW Value} (h : w.ownsMap Try.prog 9 RV b n D) : Maps.IsMap D := by
  obtain ⟨es, clock, _, _, _, rfl⟩ := h
  exact ⟨_, rfl⟩
theorem isKey {s : ByteArray} : WideAt.IsKeyLit (kl s) := by unfold kl; trivial
theorem put_mp {D : DataW Value} {f : ByteArray → Option Value} (hD : Maps.IsMap D) (h1 : ∀ s z, D.atKey (kl s) (.held z) = .held ((f s).getD z)) (h2 : ∀ s, Maps.has D (kl s) = (f s).isSome) (s : ByteArray) (v : Value) :
    (∀ t z, (D.put (kl s) (.held v)).atKey (kl t) (.held z) = .held ((upd f s v t).getD z)) ∧ ∀ t, Maps.has (D.put (kl s) (.held v)) (kl t) = (upd f s v t).isSome := by
  refine ⟨fun t z => ?_, fun t => ?_⟩
  · by_cases e : t = s
    · subst e; rw [Maps.atKey_put_same hD isKey, upd_same]; rfl
    · rw [Maps.atKey_put_other (fun h => e (kl_inj h)), h1, upd_other f v e]
  · by_cases e : t = s
    · subst e; rw [Maps.has_put_same hD isKey, upd_same]; rfl
    · rw [Maps.has_put_other (fun h => e (kl_inj h)), h2, upd_other f v e]
theorem Mp.put {w : World} {b n : Nat} {f : ByteArray → Option Value} (h : Mp w b n f) {t e : TypeId} (ht : Try.prog.underlying t = some (.map 9 e)) (hn : n < maxLen) {s : ByteArray} (hs : s.size ≤ maxLen) (v : Value) :
    ∃ w', (Instr.mapUpdate t (.map (some b)) (.string s) v).run Try.prog w = .ok () w' ∧ Mp w' b (n + 1) (upd f s v) ∧ w.grownBy w' (some b) := by
  obtain ⟨D, h, h1, h2⟩ := h
  obtain ⟨w', hr, ho, hg⟩ := h.update keyed9 ht hn (key9 hs) (show RV v = some (.held v, []) from rfl)
  exact ⟨w', hr, ⟨_, ho, put_mp (ownsMap_isMap h) h1 h2 s v⟩, hg⟩

end Go.Proofs.Qxb6601698a
