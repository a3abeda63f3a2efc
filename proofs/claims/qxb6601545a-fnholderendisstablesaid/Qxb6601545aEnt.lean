/-
  The walks of book.ZZMakeEntry (12) and toEntries (8).
-/
import Derived.Test.Qxb6601545aHe
import Derived.Deep.RegionHeld3
import Derived.Deep.MidRow
import Derived.Deep.DrawnRows
namespace Go.Proofs.Qxb6601545a
open Go.RowKit

set_option maxHeartbeats 400000 in
theorem ZZMakeEntry_any (h : ByteArray) (c d k : Int) (r : Bool) (w : World) :
    Calls Try.prog 12 #[.string h, .int .i64 c, .int .i32 d, .int .u16 k, .bool r] w fun e w' =>
      e = .returned (.agg #[.string h, .int .i64 c, .int .i32 d, .int .u16 k, .bool r]) ∧ w' = w.alloc (.cells #[.string h, .int .i64 c, .int .i32 d, .int .u16 k, .bool r] 33) := by
  go_enter Try.func12, Try.ntmps12
  go_wp2
  exact bodyPost_ret (v := .agg #[.string h, .int .i64 c, .int .i32 d, .int .u16 k, .bool r]) (by simp [results, Try.results12, go_sem]) rfl ⟨rfl, rfl⟩

/-- All five fields of the lots in memory. -/
structure Lots (w : World) (b o n : Nat) (hs : Nat → ByteArray) (cs ds ks : Nat → Int) (rs : Nat → Bool) : Prop where
  h : ∀ i, i < n → w.cell? ⟨b, o + i * 5, none⟩ = some (.string (hs i))
  c : ∀ i, i < n → w.cell? ⟨b, o + i * 5 + 1, none⟩ = some (.int .i64 (cs i))
  d : ∀ i, i < n → w.cell? ⟨b, o + i * 5 + 2, none⟩ = some (.int .i32 (ds i))
  k : ∀ i, i < n → w.cell? ⟨b, o + i * 5 + 3, none⟩ = some (.int .u16 (ks i))
  r : ∀ i, i < n → w.cell? ⟨b, o + i * 5 + 4, none⟩ = some (.bool (rs i))

/-- How the world stands when k entries have been laid. -/
structure Out (w wr : World) (n k : Nat) (hs : Nat → ByteArray) : Prop where
  bel : Below w.heap.size w wr
  sz : w.heap.size < wr.heap.size
  done : ∀ i, i < k → wr.cell? ⟨w.heap.size, i * 5, none⟩ = some (.string (hs i))
  there : wr.there w.heap.size 0 (n * 5)

theorem Out.at {w wr : World} {n k : Nat} {hs : Nat → ByteArray} (h : Out w wr n k hs) (j : Nat) (hj : j < n * 5) : ∃ v, wr.cell? ⟨w.heap.size, j, none⟩ = some v ∧ wr.frozen? ⟨w.heap.size, j, none⟩ = false := by
  obtain ⟨h1, h2⟩ := h.there j hj
  simp only [Nat.zero_add] at h1 h2
  obtain ⟨v, hv⟩ := Option.isSome_iff_exists.1 h1
  exact ⟨v, hv, h2⟩

/-- toEntries hands back a slice of n entries, whose holders are hs. -/
def RetEnt (w : World) (n : Nat) (hs : Nat → ByteArray) (e : Ending) : Prop := ∃ a, Holders w a n hs ∧ (a = none → n = 0) ∧ e = .returned (.slice a n n)

def Z33 : Array Value := #[.string ByteArray.empty, .int .i64 0, .int .i32 0, .int .u16 0, .bool false]
theorem info33 : (Try.prog.info? 33).map (fun i => (i.zero, i.size, i.bytes)) = some (some (.agg Z33), 5, 32) := by kernel_rfl

theorem make33 (n : Nat) (hn : n ≤ 65536) (w : World) :
    (Instr.makeSlice 25 (.int .i64 n) (.int .i64 n)).run Try.prog w = .ok (.slice (some ⟨w.heap.size, 0, none⟩) n n) (w.alloc (.cells (madeCells Z33 (n * 5)) 33)) := by
  obtain ⟨i, hi, hzz⟩ := Option.map_eq_some_iff.1 info33
  simp only [Prod.mk.injEq] at hzz
  obtain ⟨hz, hs, hb⟩ := hzz
  have := run_make (P := Try.prog) w 25 33 i _ Try.underlying25 hi hz .i64 .i64 n n (by omega) (by omega) (by rw [hb]; omega) (by omega)
  rw [this, hs]
  rfl

theorem out_start (w : World) (n : Nat) (hs : Nat → ByteArray) : Out w (w.alloc (.cells (madeCells Z33 (n * 5)) 33)) n 0 hs := by
  refine ⟨(Below.refl _ _).alloc (Nat.le_refl _) _, by simp, fun i hi => by omega, fun j hj => ?_⟩
  constructor
  · rw [World.cell?_alloc_new]
    simp [size_madeCells]
    omega
  · exact World.frozen?_alloc_new ..

theorem Out.store {w wr : World} {n k : Nat} {hs : Nat → ByteArray} (h : Out w wr n k hs) (j : Nat) (hj : k * 5 ≤ j) (v : Value) : Out w (wr.setCell ⟨w.heap.size, j, none⟩ v) n k hs := by
  refine ⟨h.bel.setCell (Nat.le_refl _) _, by simpa [World.setCell] using h.sz, fun i hi => ?_, fun i hi => ?_⟩
  · have hne : (⟨w.heap.size, j, none⟩ : Addr) ≠ ⟨w.heap.size, i * 5, none⟩ := fun e => by injection e; omega
    rw [World.cell?_setCell_other _ _ _ _ hne]
    exact h.done i hi
  · obtain ⟨h1, h2⟩ := h.there i hi
    refine ⟨?_, by rw [World.frozen?_setCell]; exact h2⟩
    obtain ⟨u, hu⟩ := Option.isSome_iff_exists.1 h1
    obtain ⟨u', hu'⟩ := cell?_setCell_some (p := ⟨w.heap.size, j, none⟩) (x := v) hu
    rw [hu']
    rfl

theorem Out.last {w wr : World} {n k : Nat} {hs : Nat → ByteArray} (h : Out w wr n k hs) (hc : wr.cell? ⟨w.heap.size, k * 5, none⟩ = some (.string (hs k))) : Out w wr n (k + 1) hs := by
  refine ⟨h.bel, h.sz, fun i hi => ?_, h.there⟩
  by_cases hik : i < k
  · exact h.done i hik
  · rw [show i = k by omega]; exact hc

theorem Out.more {w wr : World} {n k : Nat} {hs : Nat → ByteArray} (h : Out w wr n k hs) (o : Obj) : Out w (wr.alloc o).drew n k hs := by
  refine ⟨(h.bel.alloc (Nat.le_of_lt h.sz) _).drew, ?_, fun i hi => ?_, ?_⟩
  · have := h.sz
    simp
    omega
  · have := h.sz
    simp only [World.cell?_drew]
    rw [World.cell?_alloc_past _ _ _ this]
    exact h.done i hi
  · rw [World.there_drew]
    exact World.there_alloc h.there _

theorem out_step {w wr : World} {n k : Nat} {hs : Nat → ByteArray} (h : Out w wr n k hs) (hk : k < n) (v1 v2 v3 v4 : Value) (o : Obj) :
    Out w ((((((wr.setCell ⟨w.heap.size, k * 5, none⟩ (.string (hs k))).setCell ⟨w.heap.size, k * 5 + 1, none⟩ v1).setCell ⟨w.heap.size, k * 5 + 2, none⟩ v2).setCell ⟨w.heap.size, k * 5 + 3, none⟩ v3).setCell ⟨w.heap.size, k * 5 + 4, none⟩ v4).alloc o).drew n (k + 1) hs := by
  refine Out.more (Out.last (Out.store (Out.store (Out.store (Out.store (Out.store h _ (by omega) _) _ (by omega) _) _ (by omega) _) _ (by omega) _) _ (by omega) _) ?_) o
  obtain ⟨v, hv, _⟩ := h.at (k * 5) (by omega)
  rw [World.cell?_setCell_other _ _ _ _ (by simp), World.cell?_setCell_other _ _ _ _ (by simp), World.cell?_setCell_other _ _ _ _ (by simp), World.cell?_setCell_other _ _ _ _ (by simp), World.cell?_setCell_same _ _ _ hv]

set_option maxRecDepth 100000 in
set_option maxHeartbeats 800000 in
theorem toEntries_any (a : Option Addr) (n cap : Nat) (hs : Nat → ByteArray) (cs ds ks : Nat → Int) (rs : Nat → Bool) (w : World) (hn : n ≤ 65536)
    (ha : a = none → n = 0) (hc : n = 0 ∨ ∃ b o, a = some ⟨b, o, none⟩ ∧ Lots w b o n hs cs ds ks rs) :
    Calls Try.prog 8 #[.slice a n cap] w fun e w' => RetEnt w' n hs e ∧ Below w.heap.size w w' := by
  have hnil := fun (w : World) (a : Option Addr) (n c : Nat) => Lib.run_eql_slice_nil (P := Try.prog) w 22 30 a n c 0 0 Try.underlying22
  cases a with
  | none =>
    obtain rfl := ha rfl
    go_enter Try.func8, Try.ntmps8
    go_wp2
    go_ret
    exact ⟨⟨none, .inl rfl, fun _ => rfl, rfl⟩, Below.refl _ _⟩
  | some x =>
    have hmk := make33 n hn
    go_enter Try.func8, Try.ntmps8
    go_wp2
    clear hmk hnil
    go_loopw [4] (fun i wr => ∃ k : Nat, k ≤ n ∧ i = .int .i64 k ∧ Out w wr n k hs) (fun i _ => n - (intOf i).toNat)
    case atStart => exact ⟨0, Nat.zero_le _, rfl, out_start w n hs⟩
    case round =>
      obtain ⟨k, hk, rfl, hO⟩ := hrel
      by_cases hlt : k < n
      · rcases hc with hc | ⟨b, o, hx, hc⟩
        · omega
        obtain rfl : x = ⟨b, o, none⟩ := by simpa using hx
        have hb : b < w.heap.size := World.block_lt_of_cell? w _ (hc.h k hlt)
        have c0 := (hO.bel.cell (p := ⟨b, o + k * 5, none⟩) hb).trans (hc.h k hlt)
        have c1 := (hO.bel.cell (p := ⟨b, o + k * 5 + 1, none⟩) hb).trans (hc.c k hlt)
        have c2 := (hO.bel.cell (p := ⟨b, o + k * 5 + 2, none⟩) hb).trans (hc.d k hlt)
        have c3 := (hO.bel.cell (p := ⟨b, o + k * 5 + 3, none⟩) hb).trans (hc.k k hlt)
        have c4 := (hO.bel.cell (p := ⟨b, o + k * 5 + 4, none⟩) hb).trans (hc.r k hlt)
        obtain ⟨v0, e0, f0⟩ := hO.at (k * 5) (by omega)
        obtain ⟨v1, e1, f1⟩ := hO.at (k * 5 + 1) (by omega)
        obtain ⟨v2, e2, f2⟩ := hO.at (k * 5 + 2) (by omega)
        obtain ⟨v3, e3, f3⟩ := hO.at (k * 5 + 3) (by omega)
        obtain ⟨v4, e4, f4⟩ := hO.at (k * 5 + 4) (by omega)
        have hO' : Hid (Out w wr n k hs) := hO
        have hbw : b < wr.heap.size := Nat.lt_trans hb hO.sz
        have hsz := hO.sz
        have hne : ¬ w.heap.size = b := by omega
        have hne2 : ¬ b = w.heap.size := by omega
        clear hO hc hx
        have hk0 : (0 : Int) ≤ (k : Int) := Int.natCast_nonneg _
        have hkn : (k : Int) < (n : Int) := by omega
        go_wp2_with fail
        go_region_held3 (fun w' => w'.cell? ⟨b, o + k * 5, none⟩ = some (.string (hs k)) ∧ w'.cell? ⟨b, o + k * 5 + 1, none⟩ = some (.int .i64 (cs k)) ∧ w'.cell? ⟨b, o + k * 5 + 2, none⟩ = some (.int .i32 (ds k))
            ∧ w'.cell? ⟨b, o + k * 5 + 3, none⟩ = some (.int .u16 (ks k)) ∧ w'.cell? ⟨b, o + k * 5 + 4, none⟩ = some (.bool (rs k))) (go_keep)
          ((go_at_call 12; refine (ZZMakeEntry_any _ _ _ _ _ _).mono ?_; rintro e w' ⟨rfl, rfl⟩))
        go_wp2
        go_roundw
        case rel => exact ⟨k + 1, by omega, by go_num, out_step hO'.out hlt _ _ _ _ _⟩
        case measure => simp [intOf]; omega
      · go_wp2
        go_ret
        exact ⟨⟨_, .inr ⟨_, 0, rfl, fun i hi => by simpa using hO.done i (by omega)⟩, by simp, rfl⟩, hO.bel⟩

end Go.Proofs.Qxb6601545a
