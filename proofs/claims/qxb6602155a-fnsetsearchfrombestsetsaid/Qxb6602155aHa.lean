/-
  The law's helpers: zzToOffered (6), ZZNewSetSearch (8), ZZSetSearchState (10), zzSame (11).
-/
import Derived.Test.Qxb6602155aSc
namespace Go.Proofs.Qxb6602155a
open Go.RowKit

/-- w' is w with new blocks. -/
def Grow (w w' : World) : Prop := Kept (fun _ => False) w w'
theorem Grow.refl (w : World) : Grow w w := Kept.refl _ _
theorem Grow.trans {a b c : World} (h : Grow a b) (k : Grow b c) : Grow a c := Kept.trans h k (fun _ _ t => t)
theorem Grow.alloc {w w' : World} (h : Grow w w') (o : Obj) : Grow w (w'.alloc o) :=
  Kept.grown h (World.grownBy_alloc w' o none) (fun k hk => by cases hk)
theorem Grow.drewN {w w' : World} (h : Grow w w') (n : Nat) : Grow w (w'.drewN n) := Kept.drewN h n
theorem Grow.drew {w w' : World} (h : Grow w w') : Grow w w'.drew := Kept.drew h
theorem Grow.setCell {w w' : World} (h : Grow w w') {a : Addr} (ha : w.heap.size ≤ a.block) (v : Value) : Grow w (w'.setCell a v) := Kept.setCell h (.inr ha) v
theorem Grow.cell {w w' : World} (h : Grow w w') {p : Addr} {v : Value} (hc : w.cell? p = some v) : w'.cell? p = some v := by
  have hb := World.block_lt_of_cell? w p hc
  have := h.block p.block hb (fun t => t)
  unfold World.cell? at *
  rw [this]
  exact hc
theorem Grow.row {w w' : World} (h : Grow w w') {b : Nat} {t : TypeId} {n : Nat} {f : Nat → Value} (hr : w.rowIs b t n f) : w'.rowIs b t n f := Kept.row h hr (fun t => t)

/-- A slice of items in memory, to be read. -/
def Its (w : World) (a : Option Addr) (xs : List It) : Prop :=
  (a = none → xs = []) ∧ ∀ i, i < xs.length → ∃ b o, a = some ⟨b, o, none⟩ ∧ ∀ r, r < 5 → w.cell? ⟨b, o + i * 5 + r, none⟩ = some ((xs.getD i noIt).val r)
theorem Its.grow {w w' : World} {a : Option Addr} {xs : List It} (h : Its w a xs) (g : Grow w w') : Its w' a xs :=
  ⟨h.1, fun i hi => by
    obtain ⟨b, o, ha, hc⟩ := h.2 i hi
    exact ⟨b, o, ha, fun r hr => g.cell (hc r hr)⟩⟩
/-- The five cells of one item. -/
structure At (w : World) (b o : Nat) (x : It) : Prop where
  c0 : w.cell? ⟨b, o, none⟩ = some (.string x.name)
  c1 : w.cell? ⟨b, o + 1, none⟩ = some (.int .u64 x.ver)
  c2 : w.cell? ⟨b, o + 2, none⟩ = some (.int .i64 x.num)
  c3 : w.cell? ⟨b, o + 3, none⟩ = some (.int .u64 x.ctr)
  c4 : w.cell? ⟨b, o + 4, none⟩ = some (.int .i64 x.size)
theorem Its.at {w : World} {a : Option Addr} {xs : List It} (h : Its w a xs) {i : Nat} (hi : i < xs.length) : ∃ b o, a = some ⟨b, o, none⟩ ∧ At w b (o + i * 5) (xs.getD i noIt) := by
  obtain ⟨b, o, ha, hc⟩ := h.2 i hi
  exact ⟨b, o, ha, hc 0 (by omega), hc 1 (by omega), hc 2 (by omega), hc 3 (by omega), hc 4 (by omega)⟩
theorem its_row {w : World} {b : Nat} {t : TypeId} {xs : List It} (h : w.rowIs b t (xs.length * 5) (itF xs)) : Its w (some ⟨b, 0, none⟩) xs :=
  ⟨fun e => (by cases e), fun i hi => ⟨b, 0, rfl, fun r hr => (by
    rw [show 0 + i * 5 + r = i * 5 + r by omega, h.cell (i := i * 5 + r) (by omega), itF_at xs i r hr])⟩⟩

def It.agg (x : It) : Value := .agg #[.string x.name, .int .u64 x.ver, .int .i64 x.num, .int .u64 x.ctr, .int .i64 x.size]

def RetG (v : Value) (w : World) (e : Ending) (w' : World) : Prop := e = .returned v ∧ Grow w w'

set_option maxHeartbeats 800000 in
theorem toOffered_any (x : It) (w : World) : Calls Try.prog 6 #[.agg #[.string x.name, .int .u64 x.ver, .int .i64 x.num, .int .u64 x.ctr, .int .i64 x.size]] w fun e w' => RetG x.agg w e w' := by
  go_enter Try.func6, Try.ntmps6
  go_wp2
  exact bodyPost_ret (v := x.agg) (by simp [results, Try.results6, go_sem, It.agg]) rfl ⟨rfl, ((Grow.refl w).alloc _).alloc _⟩

set_option maxHeartbeats 800000 in
theorem newSearch_any (iv rv sv : Value) (lo hi : Int) (least : Bool) (w : World) (hiv : ∃ a n c, iv = .slice a n c) (hrv : ∃ a n c, rv = .slice a n c) (hsv : ∃ a n c, sv = .slice a n c) :
    Calls Try.prog 8 #[iv, rv, .int .i64 lo, .int .i64 hi, .bool least, sv] w fun e w' => e = .returned (.pointer (some ⟨w.heap.size, 0, none⟩)) ∧
      w' = w.alloc (.cells #[iv, rv, .int .i64 lo, .int .i64 hi, .bool least, .int .i64 0, sv, .slice none 0 0, .int .i64 0, .bool false] 44) := by
  obtain ⟨a1, n1, d1, rfl⟩ := hiv
  obtain ⟨a2, n2, d2, rfl⟩ := hrv
  obtain ⟨a3, n3, d3, rfl⟩ := hsv
  go_enter Try.func8, Try.ntmps8
  go_wp2
  go_ret
  exact ⟨rfl, rfl⟩

set_option maxRecDepth 100000 in
set_option maxHeartbeats 1600000 in
theorem state_any (sb : Nat) (iv rv : Value) (lo hi : Int) (least : Bool) (sv bv : Value) (s : St) (w : World) (hS : SIn w sb iv rv lo hi least sv bv s) :
    Calls Try.prog 10 #[.pointer (some ⟨sb, 0, none⟩)] w fun e w' => e = .returned (.tuple #[bv, .int .i64 s.sum, .bool s.found, .int .i64 s.steps, sv]) ∧ ∃ n, w' = w.drewN n := by
  have c5 : w.cell? ⟨sb, 5, none⟩ = some (.int .i64 s.steps) := hS.row.cell (i := 5) (by omega)
  have c6 : w.cell? ⟨sb, 6, none⟩ = some sv := hS.row.cell (i := 6) (by omega)
  have c7 : w.cell? ⟨sb, 7, none⟩ = some bv := hS.row.cell (i := 7) (by omega)
  have c8 : w.cell? ⟨sb, 8, none⟩ = some (.int .i64 s.sum) := hS.row.cell (i := 8) (by omega)
  have c9 : w.cell? ⟨sb, 9, none⟩ = some (.bool s.found) := hS.row.cell (i := 9) (by omega)
  obtain ⟨a1, n1, d1, rfl⟩ := owns_shape hS.set
  obtain ⟨a2, n2, d2, rfl⟩ := owns_shape hS.best
  clear hS
  go_enter Try.func10, Try.ntmps10
  go_wp2_with fail
  go_quiet (fail)
  go_wp2
  refine bodyPost_ret (v := .tuple #[.slice a2 n2 d2, .int .i64 s.sum, .bool s.found, .int .i64 s.steps, .slice a1 n1 d1]) (by simp [results, Try.results10, go_sem]) rfl ⟨rfl, _, rfl⟩

def same (x y : It) : Bool := decide (x.name = y.name) && (decide (x.ver = y.ver) && (decide (x.num = y.num) && (decide (x.ctr = y.ctr) && decide (x.size = y.size))))
theorem same_iff (x y : It) : same x y = true ↔ x = y := by
  obtain ⟨a, b, c, d, e⟩ := x
  obtain ⟨a', b', c', d', e'⟩ := y
  simp [same]

theorem beqL_false {a b : ByteArray} (h : ¬ a = b) : (a.toList == b.toList) = false := by
  rw [ByteArray.toList_eq, ByteArray.toList_eq, beq_eq_false_iff_ne]
  intro e
  exact h (Go.WideShapes.bytes_inj e)
theorem same_n {x y : It} (h : ¬ x.name = y.name) : same x y = false := by simp [same, h]
theorem same_v {x y : It} (h : ¬ x.ver = y.ver) : same x y = false := by simp [same, h]
theorem same_u {x y : It} (h : ¬ x.num = y.num) : same x y = false := by simp [same, h]
theorem same_c {x y : It} (h : ¬ x.ctr = y.ctr) : same x y = false := by simp [same, h]
theorem same_s {x y : It} (h : ¬ x.size = y.size) : same x y = false := by simp [same, h]

set_option maxRecDepth 100000 in
set_option maxHeartbeats 1600000 in
theorem same_any (x y : It) (w : World) : Calls Try.prog 11 #[.agg #[.string x.name, .int .u64 x.ver, .int .i64 x.num, .int .u64 x.ctr, .int .i64 x.size], .agg #[.string y.name, .int .u64 y.ver, .int .i64 y.num, .int .u64 y.ctr, .int .i64 y.size]] w fun e w' => RetG (.bool (same x y)) w e w' := by
  by_cases h1 : x.name = y.name
  · by_cases h2 : x.ver = y.ver
    · by_cases h3 : x.num = y.num
      · by_cases h4 : x.ctr = y.ctr
        · by_cases h5 : x.size = y.size
          · obtain rfl : x = y := by
              obtain ⟨a, b, c, d, e⟩ := x
              obtain ⟨a', b', c', d', e'⟩ := y
              simp only at *
              subst h1 h2 h3 h4 h5
              rfl
            have hs : same x x = true := (same_iff x x).2 rfl
            rw [hs]
            clear hs h1 h2 h3 h4 h5
            go_enter Try.func11, Try.ntmps11
            go_wp2
            go_ret
            exact ⟨rfl, ((Grow.refl w).alloc _).alloc _⟩
          · rw [same_s h5]
            have hs : (x.size == y.size) = false := by simpa using h5
            rw [h1, h2, h3, h4]
            clear h1 h2 h3 h4 h5
            go_enter Try.func11, Try.ntmps11
            go_wp2
            go_ret
            exact ⟨rfl, ((Grow.refl w).alloc _).alloc _⟩
        · rw [same_c h4]
          have hs : (x.ctr == y.ctr) = false := by simpa using h4
          rw [h1, h2, h3]
          clear h1 h2 h3 h4
          go_enter Try.func11, Try.ntmps11
          go_wp2
          go_ret
          exact ⟨rfl, ((Grow.refl w).alloc _).alloc _⟩
      · rw [same_u h3]
        have hs : (x.num == y.num) = false := by simpa using h3
        rw [h1, h2]
        clear h1 h2 h3
        go_enter Try.func11, Try.ntmps11
        go_wp2
        go_ret
        exact ⟨rfl, ((Grow.refl w).alloc _).alloc _⟩
    · rw [same_v h2]
      have hs : (x.ver == y.ver) = false := by simpa using h2
      rw [h1]
      clear h1 h2
      go_enter Try.func11, Try.ntmps11
      go_wp2
      go_ret
      exact ⟨rfl, ((Grow.refl w).alloc _).alloc _⟩
  · rw [same_n h1]
    have hs := beqL_false h1
    clear h1
    go_enter Try.func11, Try.ntmps11
    go_wp2
    go_ret
    exact ⟨rfl, ((Grow.refl w).alloc _).alloc _⟩

end Go.Proofs.Qxb6602155a
