/-
  zzB1StrBytes (9), zzB1CloneStrs (12), zzB1HasStr (30).
-/
import Derived.Test.Qxb6601698aKa
namespace Go.Proofs.Qxb6601698a
open Go.RowKit

def noS : ByteArray := ByteArray.empty
theorem Strs.at {w : World} {a : Option Addr} {xs : List ByteArray} (h : Strs w a xs) {i : Nat} (hi : i < xs.length) : ∃ b o, a = some ⟨b, o, none⟩ ∧ w.cell? ⟨b, o + i, none⟩ = some (.string (xs.getD i noS)) := h.2 i hi

/-- What zzB1StrBytes answers. -/
def RetBytes (xs : List ByteArray) (e : Ending) : Prop := ∃ z : Int, e = .returned (.int .i64 z) ∧ 0 ≤ z ∧ z ≤ 1048577 ∧ (z ≤ 1048576 → 8 * (xs.length : Int) ≤ z ∧ ∀ i, i < xs.length → (xs.getD i noS).size ≤ 1048576)

set_option maxRecDepth 100000 in
set_option maxHeartbeats 1600000 in
theorem strBytes_any (a : Option Addr) (xs : List ByteArray) (d : Nat) (w : World) (h : Strs w a xs) :
    Calls Try.prog 9 #[.slice a xs.length d] w fun e w' => RetBytes xs e ∧ w' = w := by
  by_cases hn : xs.length ≤ 1048576
  · by_cases hn8 : 8 * (xs.length : Int) ≤ 1048576
    · go_enter Try.func9, Try.ntmps9
      go_wp2
      go_loop [3, 4] (fun t i => ∃ (k : Nat) (z : Int), k ≤ xs.length ∧ 8 * (xs.length : Int) ≤ z ∧ z ≤ 1048576 ∧ t = .int .i64 z ∧ i = .int .i64 k ∧ ∀ j, j < k → (xs.getD j noS).size ≤ 1048576) (fun _ i => xs.length - (intOf i).toNat)
      case atStart => exact ⟨0, _, Nat.zero_le _, Int.le_refl _, hn8, rfl, rfl, fun j hj => by omega⟩
      case round =>
        obtain ⟨k, z, hk, hz, hz2, rfl, rfl, hall⟩ := hrel
        have HA : Hid _ := hall
        clear hall
        by_cases hlt : k < xs.length
        · obtain ⟨b, o, rfl, hcell⟩ := h.at hlt
          clear h
          generalize hnm : xs.getD k noS = nm at hcell
          have HNM : Hid _ := hnm
          clear hnm
          by_cases hl : nm.size ≤ 1048576
          · by_cases hz3 : z + nm.size ≤ 1048576
            · go_wp2
              go_round
              case rel => exact ⟨k + 1, _, by omega, by omega, hz3, rfl, by go_num, fun j hj => by
                by_cases e : j = k
                · subst e; rw [HNM.out]; exact hl
                · exact HA.out j (by omega)⟩
              case measure => simp [intOf]; omega
            · go_wp2
              go_ret
              exact ⟨⟨_, rfl, by omega, by omega, fun h => by omega⟩, rfl⟩
          · go_wp2
            go_ret
            exact ⟨⟨_, rfl, by omega, by omega, fun h => by omega⟩, rfl⟩
        · go_wp2
          go_ret
          exact ⟨⟨z, rfl, by omega, by omega, fun _ => ⟨hz, fun i hi => HA.out i (by omega)⟩⟩, rfl⟩
    · go_enter Try.func9, Try.ntmps9
      go_wp2
      go_ret
      exact ⟨⟨_, rfl, by omega, by omega, fun h => by omega⟩, rfl⟩
  · go_enter Try.func9, Try.ntmps9
    go_wp2
    go_ret
    exact ⟨⟨_, rfl, by omega, by omega, fun h => by omega⟩, rfl⟩

theorem info9 : (Try.prog.info? 9).map (fun i => (i.zero, i.size, i.bytes)) = some (some (.string ByteArray.empty), 1, 16) := by kernel_rfl
theorem make9 (n : Nat) (hn : n ≤ 1048576) (w : World) :
    (Instr.makeSlice 23 (.int .i64 (n : Int)) (.int .i64 (n : Int))).run Try.prog w = .ok (.slice (some ⟨w.heap.size, 0, none⟩) n n) (w.alloc (.cells (madeCells #[.string ByteArray.empty] n) 9)) :=
  run_make_row' 23 9 _ 16 Try.underlying23 info9 rfl .i64 .i64 n (by omega) (by omega) w

/-- A row of strings of which k are laid. -/
structure FillS (w wr : World) (g k : Nat) (xs : List ByteArray) : Prop where
  row : ∃ f, wr.rowIs g 9 xs.length f ∧ ∀ j, j < k → f j = .string (xs.getD j noS)
  grow : Grow w wr
  new : w.heap.size ≤ g
theorem FillS.start (w : World) (xs : List ByteArray) : FillS w (w.alloc (.cells (madeCells #[.string ByteArray.empty] xs.length) 9)) w.heap.size 0 xs :=
  ⟨⟨_, World.rowIs_made w _ _ _, fun j hj => by omega⟩, (Grow.refl w).alloc _, Nat.le_refl _⟩
theorem FillS.step {w wr : World} {g k : Nat} {xs : List ByteArray} (h : FillS w wr g k xs) {x : ByteArray} (hx : xs.getD k noS = x) : FillS w (wr.setCell ⟨g, k, none⟩ (.string x)) g (k + 1) xs := by
  obtain ⟨⟨f, hr, hf⟩, hg, hn⟩ := h
  refine ⟨⟨_, hr.set k _, fun j hj => ?_⟩, hg.setCell hn _, hn⟩
  by_cases e : j = k
  · subst e; rw [hx]; simp
  · simp only [if_neg e]; exact hf j (by omega)
theorem FillS.strs {w wr : World} {g : Nat} {xs : List ByteArray} (h : FillS w wr g xs.length xs) : Strs wr (some ⟨g, 0, none⟩) xs := by
  obtain ⟨⟨f, hr, hf⟩, hg, hn⟩ := h
  refine ⟨(fun e => by cases e), fun i hi => ⟨g, 0, rfl, ?_⟩⟩
  rw [Nat.zero_add, hr.cell hi, hf i hi]
  rfl

/-- What zzB1CloneStrs hands back. -/
def RetStrs (w w' : World) (xs : List ByteArray) (nil : Bool) (e : Ending) : Prop := ∃ a, e = .returned (.slice a xs.length xs.length) ∧ Strs w' a xs ∧ Grow w w' ∧ a.isNone = nil ∧ (∀ p, a = some p → w.heap.size ≤ p.block)

set_option maxRecDepth 100000 in
set_option maxHeartbeats 1600000 in
theorem cloneStrs_any (a : Option Addr) (xs : List ByteArray) (d : Nat) (w : World) (hn : xs.length ≤ 1048576) (h : Strs w a xs) :
    Calls Try.prog 12 #[.slice a xs.length d] w fun e w' => RetStrs w w' xs a.isNone e := by
  have hnil := fun (w : World) (a : Option Addr) (n c : Nat) => Lib.run_eql_slice_nil (P := Try.prog) w 23 9 a n c 0 0 Try.underlying23
  cases a with
  | none =>
    obtain rfl := h.1 rfl
    go_enter Try.func12, Try.ntmps12
    go_wp2
    go_ret
    exact ⟨none, rfl, h, Grow.refl _, rfl, fun p hp => by cases hp⟩
  | some p =>
    have hmk := make9 xs.length hn
    go_enter Try.func12, Try.ntmps12
    go_wp2
    clear hmk hnil
    go_loopw [4] (fun i wr => ∃ k : Nat, k ≤ xs.length ∧ i = .int .i64 k ∧ FillS w wr w.heap.size k xs) (fun i _ => xs.length - (intOf i).toNat)
    case atStart => exact ⟨0, Nat.zero_le _, rfl, FillS.start w xs⟩
    case round =>
      obtain ⟨k, hk, rfl, hO⟩ := hrel
      by_cases hlt : k < xs.length
      · obtain ⟨b, o, hp, c0⟩ := (h.grow hO.grow).at hlt
        obtain rfl : p = ⟨b, o, none⟩ := by simpa using hp
        obtain ⟨⟨f, hr, _⟩, _, _⟩ := id hO
        have e0 := hr.cell (i := k) hlt
        have f0 := hr.frozen k
        have hO' : Hid _ := hO
        have HX : Hid _ := h
        generalize hxx : xs.getD k noS = x at *
        have HXX : Hid _ := hxx
        generalize f k = v0 at *
        clear hO h hp hxx hr
        go_wp2
        go_roundw
        case rel => exact ⟨k + 1, by omega, by go_num, hO'.out.step HXX.out⟩
        case measure => simp [intOf]; omega
      · obtain rfl : k = xs.length := by omega
        go_wp2
        go_ret
        exact ⟨_, rfl, hO.strs, hO.grow, rfl, fun p hp => by cases hp; exact Nat.le_refl _⟩

theorem beqL_true {a b : ByteArray} (h : a = b) : (a.toList == b.toList) = true := by subst h; simp
theorem beqL_false {a b : ByteArray} (h : ¬ a = b) : (a.toList == b.toList) = false := by
  rw [ByteArray.toList_eq, ByteArray.toList_eq, beq_eq_false_iff_ne]
  intro e
  exact h (Go.WideShapes.bytes_inj e)

def RetTrue (e : Ending) : Prop := e = .returned (.bool true)

set_option maxRecDepth 100000 in
set_option maxHeartbeats 1600000 in
theorem hasStr_any (a : Option Addr) (xs : List ByteArray) (d : Nat) (x : ByteArray) (w : World) (hn : xs.length ≤ 1048576) (h : Strs w a xs) (j0 : Nat) (hj : j0 < xs.length) (hx : xs.getD j0 noS = x) :
    Calls Try.prog 30 #[.slice a xs.length d, .string x] w fun e w' => RetTrue e ∧ w' = w := by
  have HX : Hid _ := hx
  clear hx
  go_enter Try.func30, Try.ntmps30
  go_wp2
  go_loop [5] (fun i => ∃ k : Nat, k ≤ j0 ∧ i = .int .i64 k) (fun i => xs.length - (intOf i).toNat)
  case atStart => exact ⟨0, Nat.zero_le _, rfl⟩
  case round =>
    obtain ⟨k, hk, rfl⟩ := hrel
    obtain ⟨b, o, rfl, c0⟩ := h.at (i := k) (by omega)
    generalize hxx : xs.getD k noS = y at *
    have HXX : Hid _ := hxx
    have HH : Hid _ := h
    clear hxx h
    by_cases he : y = x
    · have hb := beqL_true he
      clear he
      go_wp2
      go_ret
      exact ⟨rfl, rfl⟩
    · have hb := beqL_false he
      have hne : k ≠ j0 := fun e => he (by rw [← HXX.out, e]; exact HX.out)
      clear he
      go_wp2
      go_round
      case rel => exact ⟨k + 1, by omega, by go_num⟩
      case measure => simp [intOf]; omega

end Go.Proofs.Qxb6601698a
