/-
  The law's helpers: zzCloneIn (5), zzRest (7); rows that are being filled.
-/
import Derived.Test.Qxb6602155aHa
namespace Go.Proofs.Qxb6602155a
open Go.RowKit

def Zit : Array Value := #[.string ByteArray.empty, .int .u64 0, .int .i64 0, .int .u64 0, .int .i64 0]
theorem info26 : (Try.prog.info? 26).map (fun i => (i.zero, i.size, i.bytes)) = some (some (.agg Zit), 5, 48) := by kernel_rfl
theorem info32' : (Try.prog.info? 32).map (fun i => (i.zero, i.size, i.bytes)) = some (some (.agg Zit), 5, 48) := by kernel_rfl
theorem info2 : (Try.prog.info? 2).map (fun i => (i.zero, i.size, i.bytes)) = some (some (.int .i64 0), 1, 8) := by kernel_rfl

theorem make26 (n : Nat) (hn : n ≤ 65536) (w : World) :
    (Instr.makeSlice 22 (.int .i64 n) (.int .i64 n)).run Try.prog w = .ok (.slice (some ⟨w.heap.size, 0, none⟩) n n) (w.alloc (.cells (madeCells Zit (n * 5)) 26)) := by
  obtain ⟨i, hi, hzz⟩ := Option.map_eq_some_iff.1 info26
  simp only [Prod.mk.injEq] at hzz
  obtain ⟨hz, hs, hb⟩ := hzz
  have := run_make (P := Try.prog) w 22 26 i _ Try.underlying22 hi hz .i64 .i64 n n (by omega) (by omega) (by rw [hb]; omega) (by omega)
  rw [this, hs]
  rfl
theorem make32 (n : Nat) (hn : n ≤ 65536) (w : World) :
    (Instr.makeSlice 28 (.int .i64 n) (.int .i64 n)).run Try.prog w = .ok (.slice (some ⟨w.heap.size, 0, none⟩) n n) (w.alloc (.cells (madeCells Zit (n * 5)) 32)) := by
  obtain ⟨i, hi, hzz⟩ := Option.map_eq_some_iff.1 info32'
  simp only [Prod.mk.injEq] at hzz
  obtain ⟨hz, hs, hb⟩ := hzz
  have := run_make (P := Try.prog) w 28 32 i _ Try.underlying28 hi hz .i64 .i64 n n (by omega) (by omega) (by rw [hb]; omega) (by omega)
  rw [this, hs]
  rfl

/-- A row of items of which k are laid. -/
structure Fill (w wr : World) (g : Nat) (ty : TypeId) (k : Nat) (xs : List It) : Prop where
  row : ∃ f, wr.rowIs g ty (xs.length * 5) f ∧ ∀ j, j < k * 5 → f j = itF xs j
  grow : Grow w wr
  new : w.heap.size ≤ g
theorem Fill.start {w w1 : World} (hg : Grow w w1) (ty : TypeId) (xs : List It) : Fill w (w1.alloc (.cells (madeCells Zit (xs.length * 5)) ty)) w1.heap.size ty 0 xs := by
  refine ⟨⟨fun j => (madeCells Zit (xs.length * 5)).getD j undef, ?_, fun j hj => by omega⟩, hg.alloc _, hg.size⟩
  have := World.rowIs_alloc w1 (madeCells Zit (xs.length * 5)) ty (fun j => (madeCells Zit (xs.length * 5)).getD j undef) (fun i hi => by simp [Array.getD, hi])
  rwa [size_madeCells] at this
theorem Fill.at {w wr : World} {g : Nat} {ty : TypeId} {k : Nat} {xs : List It} (h : Fill w wr g ty k xs) {j : Nat} (hj : j < xs.length * 5) : ∃ v, wr.cell? ⟨g, j, none⟩ = some v ∧ wr.frozen? ⟨g, j, none⟩ = false := by
  obtain ⟨⟨f, hr, _⟩, _, _⟩ := h
  exact ⟨_, hr.cell hj, hr.frozen j⟩
theorem Fill.lt {w wr : World} {g : Nat} {ty : TypeId} {k : Nat} {xs : List It} (h : Fill w wr g ty k xs) : g < wr.heap.size := by
  obtain ⟨⟨f, hr, _⟩, _, _⟩ := h
  exact hr.lt
theorem Fill.more {w wr wr' : World} {g : Nat} {ty : TypeId} {k : Nat} {xs : List It} (h : Fill w wr g ty k xs) (hg : Grow wr wr') : Fill w wr' g ty k xs := by
  obtain ⟨⟨f, hr, hf⟩, a, b⟩ := h
  exact ⟨⟨f, hg.row hr, hf⟩, a.trans hg, b⟩
theorem Fill.step {w wr : World} {g : Nat} {ty : TypeId} {k : Nat} {xs : List It} (h : Fill w wr g ty k xs) {x : It} (hx : xs.getD k noIt = x) :
    Fill w (((((wr.setCell ⟨g, k * 5, none⟩ (.string x.name)).setCell ⟨g, k * 5 + 1, none⟩ (.int .u64 x.ver)).setCell ⟨g, k * 5 + 2, none⟩ (.int .i64 x.num)).setCell ⟨g, k * 5 + 3, none⟩ (.int .u64 x.ctr)).setCell ⟨g, k * 5 + 4, none⟩ (.int .i64 x.size)) g ty (k + 1) xs := by
  obtain ⟨⟨f, hr, hf⟩, hg, hn⟩ := h
  refine ⟨⟨_, ((((hr.set (k * 5) _).set (k * 5 + 1) _).set (k * 5 + 2) _).set (k * 5 + 3) _).set (k * 5 + 4) _, fun j hj => ?_⟩, ((((hg.setCell hn _).setCell hn _).setCell hn _).setCell hn _).setCell hn _, hn⟩
  by_cases h4 : j = k * 5 + 4
  · subst h4; rw [itF_at xs k 4 (by omega), hx]; simp [It.val]
  by_cases h3 : j = k * 5 + 3
  · subst h3; rw [itF_at xs k 3 (by omega), hx]; simp [It.val]
  by_cases h2 : j = k * 5 + 2
  · subst h2; rw [itF_at xs k 2 (by omega), hx]; simp [It.val]
  by_cases h1 : j = k * 5 + 1
  · subst h1; rw [itF_at xs k 1 (by omega), hx]; simp [It.val]
  by_cases h0 : j = k * 5
  · subst h0; have := itF_at xs k 0 (by omega); rw [Nat.add_zero] at this; rw [this, hx]; simp [It.val]
  · simp only [if_neg h4, if_neg h3, if_neg h2, if_neg h1, if_neg h0]
    exact hf j (by omega)
theorem Fill.done {w wr : World} {g : Nat} {ty : TypeId} {xs : List It} (h : Fill w wr g ty xs.length xs) : wr.rowIs g ty (xs.length * 5) (itF xs) := by
  obtain ⟨⟨f, hr, hf⟩, _, _⟩ := h
  exact hr.congr hf

/-- What zzCloneIn hands back. -/
def RetIn (w w' : World) (xs : List It) (e : Ending) : Prop := ∃ a, e = .returned (.slice a xs.length xs.length) ∧ Its w' a xs ∧ Grow w w'

set_option maxRecDepth 100000 in
set_option maxHeartbeats 1600000 in
theorem cloneIn_any (a : Option Addr) (xs : List It) (d : Nat) (w : World) (hn : xs.length ≤ 4096) (hx : Its w a xs) :
    Calls Try.prog 5 #[.slice a xs.length d] w fun e w' => RetIn w w' xs e := by
  have hnil := fun (w : World) (a : Option Addr) (n c : Nat) => Lib.run_eql_slice_nil (P := Try.prog) w 22 26 a n c 0 0 Try.underlying22
  cases a with
  | none =>
    obtain rfl := hx.1 rfl
    go_enter Try.func5, Try.ntmps5
    go_wp2
    go_ret
    exact ⟨none, rfl, hx, Grow.refl _⟩
  | some p =>
    have hmk := make26 xs.length (by omega)
    go_enter Try.func5, Try.ntmps5
    go_wp2
    clear hmk hnil
    go_loopw [4] (fun i wr => ∃ k : Nat, k ≤ xs.length ∧ i = .int .i64 k ∧ Fill w wr w.heap.size 26 k xs) (fun i _ => xs.length - (intOf i).toNat)
    case atStart => exact ⟨0, Nat.zero_le _, rfl, Fill.start (Grow.refl w) 26 xs⟩
    case round =>
      obtain ⟨k, hk, rfl, hO⟩ := hrel
      by_cases hlt : k < xs.length
      · obtain ⟨b, o, hp, hA⟩ := (hx.grow hO.grow).at hlt
        obtain rfl : p = ⟨b, o, none⟩ := by simpa using hp
        obtain ⟨c0, c1, c2, c3, c4⟩ := hA
        obtain ⟨v0, e0, f0⟩ := hO.at (j := k * 5) (by omega)
        obtain ⟨v1, e1, f1⟩ := hO.at (j := k * 5 + 1) (by omega)
        obtain ⟨v2, e2, f2⟩ := hO.at (j := k * 5 + 2) (by omega)
        obtain ⟨v3, e3, f3⟩ := hO.at (j := k * 5 + 3) (by omega)
        obtain ⟨v4, e4, f4⟩ := hO.at (j := k * 5 + 4) (by omega)
        have hO' : Hid _ := hO
        have HX : Hid _ := hx
        generalize hxx : xs.getD k noIt = x at *
        have HXX : Hid _ := hxx
        clear hO hx hp hxx
        go_wp2
        go_roundw
        case rel => exact ⟨k + 1, by omega, by go_num, hO'.out.step HXX.out⟩
        case measure => simp [intOf]; omega
      · obtain rfl : k = xs.length := by omega
        go_wp2
        go_ret
        exact ⟨_, rfl, its_row hO.done, hO.grow⟩

/-- What zzRest hands back. -/
def RetRest (w w' : World) (xs : List It) (e : Ending) : Prop := ∃ rb, e = .returned (rvOf rb xs.length) ∧ w'.rowIs rb 2 (xs.length + 1) (fun j => .int .i64 (restOf (xs.drop j))) ∧ Grow w w' ∧ w.heap.size ≤ rb

theorem make2 (n : Nat) (hn : n ≤ 65536) (w : World) :
    (Instr.makeSlice 34 (.int .i64 (n : Int)) (.int .i64 (n : Int))).run Try.prog w = .ok (.slice (some ⟨w.heap.size, 0, none⟩) n n) (w.alloc (.cells (madeCells #[.int .i64 0] n) 2)) :=
  run_make_row' 34 2 _ 8 Try.underlying34 info2 rfl .i64 .i64 n (by omega) (by omega) w

theorem restOf_in : ∀ (l : List It), (∀ x ∈ l, InR x.size) → InR (restOf l)
  | [], _ => ⟨by simp [restOf], by simp [restOf, maxI]⟩
  | x :: r, h => by
    have h1 := restOf_in r (fun y hy => h y (by simp [hy]))
    have h2 := h x (by simp)
    unfold InR maxI at *
    unfold restOf
    split <;> (unfold maxI at *; constructor <;> omega)

end Go.Proofs.Qxb6602155a
