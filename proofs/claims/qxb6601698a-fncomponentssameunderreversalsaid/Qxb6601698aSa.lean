/-
  zzB1IntsBytes (10), zzB1CloneInts (15), zzB1CloneInts2 (14), zzB1DepsInRange (22), zzBytes (21, 25).
-/
import Derived.Test.Qxb6601698aTd
namespace Go.Proofs.Qxb6601698a
open Go.RowKit

/-- A slice of numbers in memory, to be read. -/
def Ints (w : World) (a : Option Addr) (xs : List Int) : Prop :=
  (a = none → xs = []) ∧ ∀ i, i < xs.length → ∃ b o, a = some ⟨b, o, none⟩ ∧ w.cell? ⟨b, o + i, none⟩ = some (.int .i64 (xs.getD i 0))
theorem Ints.grow {w w' : World} {a : Option Addr} {xs : List Int} (h : Ints w a xs) (g : Grow w w') : Ints w' a xs :=
  ⟨h.1, fun i hi => by
    obtain ⟨b, o, ha, hc⟩ := h.2 i hi
    exact ⟨b, o, ha, g.cell hc⟩⟩
def rowOf (xss : List (List Int)) (v : Nat) : List Int := xss.getD v []
/-- A slice of slices of numbers in memory, to be read. -/
def Ints2 (w : World) (a : Option Addr) (xss : List (List Int)) : Prop :=
  (a = none → xss = []) ∧ ∀ v, v < xss.length → ∃ b o, a = some ⟨b, o, none⟩ ∧ ∃ av cap, w.cell? ⟨b, o + v, none⟩ = some (.slice av (rowOf xss v).length cap) ∧ Ints w av (rowOf xss v)
theorem Ints2.grow {w w' : World} {a : Option Addr} {xss : List (List Int)} (h : Ints2 w a xss) (g : Grow w w') : Ints2 w' a xss :=
  ⟨h.1, fun v hv => by
    obtain ⟨b, o, ha, av, cap, hc, hn⟩ := h.2 v hv
    exact ⟨b, o, ha, av, cap, g.cell hc, hn.grow g⟩⟩

def tot (xss : List (List Int)) : Nat → Nat
  | 0 => 0
  | k + 1 => tot xss k + (rowOf xss k).length

/-- What zzB1IntsBytes answers. -/
def RetInts (xss : List (List Int)) (e : Ending) : Prop := ∃ z : Int, e = .returned (.int .i64 z) ∧ 0 ≤ z ∧ z ≤ 1048577 ∧ (z ≤ 1048576 → 8 * (xss.length : Int) + 8 * (tot xss xss.length : Int) ≤ z)

set_option maxRecDepth 100000 in
set_option maxHeartbeats 1600000 in
theorem intsBytes_any (a : Option Addr) (xss : List (List Int)) (d : Nat) (w : World) (h : Ints2 w a xss) :
    Calls Try.prog 10 #[.slice a xss.length d] w fun e w' => RetInts xss e ∧ w' = w := by
  by_cases hn : xss.length ≤ 1048576
  · by_cases hn8 : 8 * (xss.length : Int) ≤ 1048576
    · have H : Hid (Ints2 w a xss) := h
      clear h
      go_enter Try.func10, Try.ntmps10
      go_wp2
      go_loop [3, 4] (fun t i => ∃ (k : Nat) (z : Int), k ≤ xss.length ∧ 8 * (xss.length : Int) + 8 * (tot xss k : Int) ≤ z ∧ z ≤ 1048576 ∧ t = .int .i64 z ∧ i = .int .i64 k) (fun _ i => xss.length - (intOf i).toNat)
      case atStart => exact ⟨0, _, Nat.zero_le _, by simp [tot], hn8, rfl, rfl⟩
      case round =>
        obtain ⟨k, z, hk, hz, hz2, rfl, rfl⟩ := hrel
        by_cases hlt : k < xss.length
        · obtain ⟨b, o, rfl, av, cap, hcell, _⟩ := H.out.2 k hlt
          have HT : Hid (tot xss (k + 1) = tot xss k + (rowOf xss k).length) := rfl
          generalize (rowOf xss k).length = lk at *
          by_cases hl : lk ≤ 1048576
          · by_cases hz3 : z + 8 * (lk : Int) ≤ 1048576
            · go_wp2
              go_round
              case rel => exact ⟨k + 1, _, by omega, by rw [HT.out]; omega, hz3, by first | rfl | go_num, by go_num⟩
              case measure => simp [intOf]; omega
            · go_wp2
              go_ret
              exact ⟨⟨_, rfl, by omega, by omega, fun h => by omega⟩, rfl⟩
          · go_wp2
            go_ret
            exact ⟨⟨_, rfl, by omega, by omega, fun h => by omega⟩, rfl⟩
        · go_wp2
          go_ret
          obtain rfl : k = xss.length := by omega
          exact ⟨⟨z, rfl, by omega, by omega, fun _ => hz⟩, rfl⟩
    · go_enter Try.func10, Try.ntmps10
      go_wp2
      go_ret
      exact ⟨⟨_, rfl, by omega, by omega, fun h => by omega⟩, rfl⟩
  · go_enter Try.func10, Try.ntmps10
    go_wp2
    go_ret
    exact ⟨⟨_, rfl, by omega, by omega, fun h => by omega⟩, rfl⟩

/-- A row of numbers of which k are laid. -/
structure FillI (w wr : World) (g k : Nat) (xs : List Int) : Prop where
  row : ∃ f, wr.rowIs g 3 xs.length f ∧ ∀ j, j < k → f j = .int .i64 (xs.getD j 0)
  grow : Grow w wr
  new : w.heap.size ≤ g
theorem FillI.start (w : World) (xs : List Int) : FillI w (w.alloc (.cells (madeCells #[.int .i64 0] xs.length) 3)) w.heap.size 0 xs :=
  ⟨⟨_, World.rowIs_made w _ _ _, fun j hj => by omega⟩, (Grow.refl w).alloc _, Nat.le_refl _⟩
theorem FillI.step {w wr : World} {g k : Nat} {xs : List Int} (h : FillI w wr g k xs) {x : Int} (hx : xs.getD k 0 = x) : FillI w (wr.setCell ⟨g, k, none⟩ (.int .i64 x)) g (k + 1) xs := by
  obtain ⟨⟨f, hr, hf⟩, hg, hn⟩ := h
  refine ⟨⟨_, hr.set k _, fun j hj => ?_⟩, hg.setCell hn _, hn⟩
  by_cases e : j = k
  · subst e; rw [hx]; simp
  · simp only [if_neg e]; exact hf j (by omega)
theorem FillI.ints {w wr : World} {g : Nat} {xs : List Int} (h : FillI w wr g xs.length xs) : Ints wr (some ⟨g, 0, none⟩) xs := by
  obtain ⟨⟨f, hr, hf⟩, hg, hn⟩ := h
  refine ⟨(fun e => by cases e), fun i hi => ⟨g, 0, rfl, ?_⟩⟩
  rw [Nat.zero_add, hr.cell hi, hf i hi]

/-- What zzB1CloneInts hands back. -/
def RetIs (w w' : World) (xs : List Int) (e : Ending) : Prop := ∃ a, e = .returned (.slice a xs.length xs.length) ∧ Ints w' a xs ∧ Grow w w'

set_option maxRecDepth 100000 in
set_option maxHeartbeats 1600000 in
theorem cloneInts_any (a : Option Addr) (xs : List Int) (d : Nat) (w : World) (hn : xs.length ≤ 1048576) (h : Ints w a xs) :
    Calls Try.prog 15 #[.slice a xs.length d] w fun e w' => RetIs w w' xs e := by
  have hnil := fun (w : World) (a : Option Addr) (n c : Nat) => Lib.run_eql_slice_nil (P := Try.prog) w 25 3 a n c 0 0 Try.underlying25
  cases a with
  | none =>
    obtain rfl := h.1 rfl
    go_enter Try.func15, Try.ntmps15
    go_wp2
    go_ret
    exact ⟨none, rfl, h, Grow.refl _⟩
  | some p =>
    have hmk := make3 xs.length hn
    go_enter Try.func15, Try.ntmps15
    go_wp2
    clear hmk hnil
    go_loopw [4] (fun i wr => ∃ k : Nat, k ≤ xs.length ∧ i = .int .i64 k ∧ FillI w wr w.heap.size k xs) (fun i _ => xs.length - (intOf i).toNat)
    case atStart => exact ⟨0, Nat.zero_le _, rfl, FillI.start w xs⟩
    case round =>
      obtain ⟨k, hk, rfl, hO⟩ := hrel
      by_cases hlt : k < xs.length
      · obtain ⟨b, o, hp, c0⟩ := (h.grow hO.grow).2 k hlt
        obtain rfl : p = ⟨b, o, none⟩ := by simpa using hp
        obtain ⟨⟨f, hr, _⟩, _, _⟩ := id hO
        have e0 := hr.cell (i := k) hlt
        have f0 := hr.frozen k
        have hO' : Hid _ := hO
        have HX : Hid _ := h
        generalize hxx : xs.getD k 0 = x at *
        have HXX : Hid _ := hxx
        generalize f k = v0 at *
        clear hO h hp hxx hr
        go_wp2
        go_roundw
        case rel => exact ⟨k + 1, by omega, by go_num, hO'.out.step HXX.out⟩
        case measure => simp [intOf]; omega
      · obtain rfl : k = xs.length := by omega
        go_wp2
        go_ret
        exact ⟨_, rfl, hO.ints, hO.grow⟩

/-- What another kind of value lies in is another block. -/
theorem ne_block {w : World} {g : Nat} {t : TypeId} {n : Nat} {f : Nat → Value} {b o : Nat} {v : Value} (hr : w.rowIs g t n f) (hne : ∀ j, j < n → f j ≠ v) (hc : w.cell? ⟨b, o, none⟩ = some v) : b ≠ g := by
  intro e
  subst e
  obtain ⟨c, hb, hs, hf⟩ := hr
  by_cases ho : o < n
  · simp [World.cell?, hb, hf o ho] at hc
    exact hne o ho hc
  · simp [World.cell?, hb] at hc
    have : c[o]? = none := by rw [Array.getElem?_eq_none]; omega
    rw [this] at hc
    cases hc
def isSl : Value → Prop
  | .slice _ _ _ => True
  | _ => False
theorem Ints.by {w w' : World} {g : Nat} {t : TypeId} {n : Nat} {f : Nat → Value} {a : Option Addr} {xs : List Int} (h : Ints w a xs) (hr : w.rowIs g t n f) (hf : ∀ j, j < n → isSl (f j)) (hg : w.grownBy w' (some g)) : Ints w' a xs :=
  ⟨h.1, fun i hi => by
    obtain ⟨b, o, ha, hc⟩ := h.2 i hi
    refine ⟨b, o, ha, cell_by hg hc (sne (ne_block hr (fun j hj e => ?_) hc))⟩
    have := hf j hj
    rw [e] at this
    exact this⟩

/-- A row of slices of which k are laid. -/
structure Fill2 (w wr : World) (g k : Nat) (xss : List (List Int)) : Prop where
  row : ∃ f, wr.rowIs g 25 xss.length f ∧ (∀ j, j < xss.length → isSl (f j)) ∧ ∀ j, j < k → ∃ av cap, f j = .slice av (rowOf xss j).length cap ∧ Ints wr av (rowOf xss j)
  grow : Grow w wr
  new : w.heap.size ≤ g
theorem Fill2.start (w : World) (xss : List (List Int)) : Fill2 w (w.alloc (.cells (madeCells #[.slice none 0 0] xss.length) 25)) w.heap.size 0 xss :=
  ⟨⟨_, World.rowIs_made w _ _ _, fun j hj => trivial, fun j hj => by omega⟩, (Grow.refl w).alloc _, Nat.le_refl _⟩
theorem Fill2.more {w wr wr' : World} {g k : Nat} {xss : List (List Int)} (h : Fill2 w wr g k xss) (hg : Grow wr wr') : Fill2 w wr' g k xss := by
  obtain ⟨⟨f, hr, hs, hf⟩, hg0, hn⟩ := h
  exact ⟨⟨f, row_by hr hg.grew (by simp), hs, fun j hj => by
    obtain ⟨av, cap, e, h2⟩ := hf j hj
    exact ⟨av, cap, e, h2.grow hg⟩⟩, hg0.trans hg, hn⟩
theorem Fill2.step {w wr : World} {g k : Nat} {xss : List (List Int)} (h : Fill2 w wr g k xss) {av : Option Addr} {cap : Nat} (hx : Ints wr av (rowOf xss k)) : Fill2 w (wr.setCell ⟨g, k, none⟩ (.slice av (rowOf xss k).length cap)) g (k + 1) xss := by
  obtain ⟨⟨f, hr, hs, hf⟩, hg, hn⟩ := h
  have hby : wr.grownBy (wr.setCell ⟨g, k, none⟩ (.slice av (rowOf xss k).length cap)) (some g) := ⟨rfl, rfl, rfl, by simp [World.setCell], fun j _ hn => Below.heap_setCell _ _ _ _ (fun e => hn (by rw [e]))⟩
  refine ⟨⟨_, hr.set k _, fun j hj => ?_, fun j hj => ?_⟩, hg.setCell hn _, hn⟩
  · by_cases e : j = k
    · subst e; simp [isSl]
    · simp only [if_neg e]; exact hs j hj
  · by_cases e : j = k
    · subst e; exact ⟨av, cap, by simp, hx.by hr hs hby⟩
    · simp only [if_neg e]
      obtain ⟨a2, c2, e2, h2⟩ := hf j (by omega)
      exact ⟨a2, c2, e2, h2.by hr hs hby⟩
theorem Fill2.ints {w wr : World} {g : Nat} {xss : List (List Int)} (h : Fill2 w wr g xss.length xss) : Ints2 wr (some ⟨g, 0, none⟩) xss := by
  obtain ⟨⟨f, hr, _, hf⟩, hg, hn⟩ := h
  refine ⟨(fun e => by cases e), fun i hi => ⟨g, 0, rfl, ?_⟩⟩
  obtain ⟨av, cap, e, h2⟩ := hf i hi
  exact ⟨av, cap, by rw [Nat.zero_add, hr.cell hi, e], h2⟩

theorem infoRow : (Try.prog.info? 25).map (fun i => (i.zero, i.size, i.bytes)) = some (some (.slice none 0 0), 1, 24) := by kernel_rfl
theorem make25 (n : Nat) (hn : n ≤ 1048576) (w : World) :
    (Instr.makeSlice 24 (.int .i64 (n : Int)) (.int .i64 (n : Int))).run Try.prog w = .ok (.slice (some ⟨w.heap.size, 0, none⟩) n n) (w.alloc (.cells (madeCells #[.slice none 0 0] n) 25)) :=
  run_make_row' 24 25 _ 24 Try.underlying24 infoRow rfl .i64 .i64 n (by omega) (by omega) w

/-- What zzB1CloneInts2 hands back. -/
def RetIs2 (w w' : World) (xss : List (List Int)) (e : Ending) : Prop := ∃ a, e = .returned (.slice a xss.length xss.length) ∧ Ints2 w' a xss ∧ Grow w w'

set_option maxRecDepth 100000 in
set_option maxHeartbeats 1600000 in
theorem cloneInts2_any (a : Option Addr) (xss : List (List Int)) (d : Nat) (w : World) (hn : xss.length ≤ 1048576) (hl : ∀ v, v < xss.length → (rowOf xss v).length ≤ 1048576) (h : Ints2 w a xss) :
    Calls Try.prog 14 #[.slice a xss.length d] w fun e w' => RetIs2 w w' xss e := by
  have hnil := fun (w : World) (a : Option Addr) (n c : Nat) => Lib.run_eql_slice_nil (P := Try.prog) w 24 25 a n c 0 0 Try.underlying24
  cases a with
  | none =>
    obtain rfl := h.1 rfl
    go_enter Try.func14, Try.ntmps14
    go_wp2
    go_ret
    exact ⟨none, rfl, h, Grow.refl _⟩
  | some p =>
    have H : Hid (Ints2 w (some p) xss) := h
    have HL : Hid (∀ v, v < xss.length → (rowOf xss v).length ≤ 1048576) := hl
    clear h hl
    have hmk := make25 xss.length hn
    go_enter Try.func14, Try.ntmps14
    go_wp2
    clear hmk hnil
    go_loopw [4] (fun i wr => ∃ k : Nat, k ≤ xss.length ∧ i = .int .i64 k ∧ Fill2 w wr w.heap.size k xss) (fun i _ => xss.length - (intOf i).toNat)
    case atStart => exact ⟨0, Nat.zero_le _, rfl, Fill2.start w xss⟩
    case round =>
      obtain ⟨k, hk, rfl, hO⟩ := hrel
      by_cases hlt : k < xss.length
      · obtain ⟨b, o, hp, av, cap, c0, hin⟩ := (H.out.grow hO.grow).2 k hlt
        obtain rfl : p = ⟨b, o, none⟩ := by simpa using hp
        have HO : Hid (Fill2 w wr w.heap.size k xss) := hO
        have HI : Hid (Ints wr av (rowOf xss k)) := hin
        clear hO hp hin
        go_wp2_with fail
        refine (cloneInts_any av (rowOf xss k) cap wr (HL.out k hlt) HI.out).mono ?_
        rintro e w1 ⟨a1, rfl, hi1, hg1⟩
        have hO1 := HO.out.more hg1
        obtain ⟨⟨f, hr, _⟩, _, _⟩ := id hO1
        have e0 := hr.cell (i := k) hlt
        have f0 := hr.frozen k
        have HO1 : Hid (Fill2 w (w1.setCell ⟨w.heap.size, k, none⟩ (.slice a1 (rowOf xss k).length (rowOf xss k).length)) w.heap.size (k + 1) xss) := hO1.step hi1
        generalize f k = v0 at *
        clear hO1 hr hi1 hg1 c0 HO HI
        go_wp2
        go_roundw
        case rel => exact ⟨k + 1, by omega, by go_num, HO1.out⟩
        case measure => simp [intOf]; omega
      · obtain rfl : k = xss.length := by omega
        go_wp2
        go_ret
        exact ⟨_, rfl, hO.ints, hO.grow⟩

/-- All of the first n rows' numbers lie below n. -/
def InRange (n : Nat) (xss : List (List Int)) : Prop := n ≤ xss.length ∧ ∀ v, v < n → ∀ j, j < (rowOf xss v).length → 0 ≤ (rowOf xss v).getD j 0 ∧ (rowOf xss v).getD j 0 < n
/-- What zzB1DepsInRange answers. -/
def RetRange (n : Nat) (xss : List (List Int)) (e : Ending) : Prop := ∃ b : Bool, e = .returned (.bool b) ∧ (b = true → InRange n xss)

set_option maxRecDepth 100000 in
set_option maxHeartbeats 1600000 in
theorem range_any (n : Nat) (a : Option Addr) (xss : List (List Int)) (d : Nat) (w : World) (_hn : n ≤ 1048576) (hxl : xss.length ≤ 1048576) (hl : ∀ v, v < xss.length → (rowOf xss v).length ≤ 1048576) (h : Ints2 w a xss) :
    Calls Try.prog 22 #[.int .i64 n, .slice a xss.length d] w fun e w' => RetRange n xss e ∧ w' = w := by
  by_cases hlen : n ≤ xss.length
  · have H : Hid (Ints2 w a xss) := h
    have HL : Hid (∀ v, v < xss.length → (rowOf xss v).length ≤ 1048576) := hl
    clear h hl
    go_enter Try.func22, Try.ntmps22
    go_wp2
    go_loop [5] (fun i => ∃ k : Nat, k ≤ n ∧ i = .int .i64 k ∧ ∀ v, v < k → ∀ j, j < (rowOf xss v).length → 0 ≤ (rowOf xss v).getD j 0 ∧ (rowOf xss v).getD j 0 < n) (fun i => n - (intOf i).toNat)
    case atStart => exact ⟨0, Nat.zero_le _, rfl, fun v hv => by omega⟩
    case round =>
      obtain ⟨k, hk, rfl, hall⟩ := hrel
      have HA : Hid (∀ v, v < k → ∀ j, j < (rowOf xss v).length → 0 ≤ (rowOf xss v).getD j 0 ∧ (rowOf xss v).getD j 0 < n) := hall
      clear hall
      by_cases hlt : k < n
      · obtain ⟨b, o, rfl, av, cap, c0, hin⟩ := H.out.2 k (by omega)
        have hlk := HL.out k (by omega)
        have HI : Hid (Ints w av (rowOf xss k)) := hin
        clear hin
        generalize hrk : rowOf xss k = rk at *
        have HRK : Hid (rowOf xss k = rk) := hrk
        clear hrk
        go_wp2
        go_loop [7] (fun i => ∃ j : Nat, j ≤ rk.length ∧ i = .int .i64 j ∧ ∀ j', j' < j → 0 ≤ rk.getD j' 0 ∧ rk.getD j' 0 < n) (fun i => rk.length - (intOf i).toNat)
        case atStart => exact ⟨0, Nat.zero_le _, rfl, fun v hv => by omega⟩
        case round =>
          obtain ⟨j, hj, rfl, hall⟩ := hrel
          have HB : Hid (∀ j', j' < j → 0 ≤ rk.getD j' 0 ∧ rk.getD j' 0 < n) := hall
          clear hall
          by_cases hjl : j < rk.length
          · obtain ⟨b2, o2, rfl, c1⟩ := HI.out.2 j hjl
            generalize hx : rk.getD j 0 = x at *
            have HX : Hid (rk.getD j 0 = x) := hx
            clear hx
            by_cases hx0 : x < 0
            · go_wp2
              go_ret
              exact ⟨⟨false, rfl, fun e => by cases e⟩, rfl⟩
            · by_cases hxn : x < n
              · have hge : ¬ ((n : Int) ≤ x) := by omega
                go_wp2
                go_round
                case rel => exact ⟨j + 1, by omega, by go_num, fun j' hj' => by
                  by_cases e : j' = j
                  · rw [e, HX.out]; omega
                  · exact HB.out j' (by omega)⟩
                case measure => simp [intOf]; omega
              · have hge : ((n : Int) ≤ x) := by omega
                go_wp2
                go_ret
                exact ⟨⟨false, rfl, fun e => by cases e⟩, rfl⟩
          · go_wp2
            go_round
            case rel => exact ⟨k + 1, by omega, by go_num, fun v hv => by
              by_cases e : v = k
              · rw [e, HRK.out]; exact fun j' hj' => HB.out j' (by omega)
              · exact HA.out v (by omega)⟩
            case measure => simp [intOf]; omega
      · go_wp2
        go_ret
        exact ⟨⟨true, rfl, fun _ => ⟨hlen, fun v hv => HA.out v (by omega)⟩⟩, rfl⟩
  · go_enter Try.func22, Try.ntmps22
    go_wp2
    go_ret
    exact ⟨⟨false, rfl, fun e => by cases e⟩, rfl⟩

def RetAny (e : Ending) : Prop := ∃ b : Bool, e = .returned (.bool b)

set_option maxRecDepth 100000 in
set_option maxHeartbeats 1600000 in
theorem bytes21_any (a : Option Addr) (xs : List ByteArray) (d : Nat) (a2 : Option Addr) (xss : List (List Int)) (d2 : Nat) (w : World) (hs : Strs w a xs) (h : Ints2 w a2 xss) :
    Calls Try.prog 21 #[.slice a xs.length d, .slice a2 xss.length d2] w fun e w' => RetAny e ∧ w' = w := by
  have HS : Hid (Strs w a xs) := hs
  have H : Hid (Ints2 w a2 xss) := h
  clear hs h
  by_cases hn : xs.length ≤ 1048576
  case neg =>
    go_enter Try.func21, Try.ntmps21
    go_wp2
    go_ret
    exact ⟨⟨_, rfl⟩, rfl⟩
  go_enter Try.func21, Try.ntmps21
  go_wp2
  go_loop [5, 6] (fun t i => ∃ (k : Nat) (z : Int), k ≤ xs.length ∧ 0 ≤ z ∧ z ≤ 1048576 ∧ t = .int .i64 z ∧ i = .int .i64 k) (fun _ i => xs.length - (intOf i).toNat)
  case atStart => exact ⟨0, _, Nat.zero_le _, by omega, by omega, rfl, rfl⟩
  case round =>
    obtain ⟨k, z, hk, hz, hz2, rfl, rfl⟩ := hrel
    by_cases hlt : k < xs.length
    · obtain ⟨b, o, rfl, hcell⟩ := HS.out.at hlt
      generalize hnm : xs.getD k noS = nm at hcell
      clear hnm
      by_cases hl : nm.size ≤ 1048576
      · by_cases hz3 : z + nm.size ≤ 1048576
        · go_wp2
          go_round
          case rel => exact ⟨k + 1, _, by omega, by omega, hz3, rfl, by go_num⟩
          case measure => simp [intOf]; omega
        · go_wp2
          go_ret
          exact ⟨⟨_, rfl⟩, rfl⟩
      · go_wp2
        go_ret
        exact ⟨⟨_, rfl⟩, rfl⟩
    · by_cases hn2 : xss.length ≤ 1048576
      case neg =>
        go_wp2
        go_ret
        exact ⟨⟨_, rfl⟩, rfl⟩
      by_cases hz4 : z + xss.length ≤ 1048576
      case neg =>
        go_wp2
        go_ret
        exact ⟨⟨_, rfl⟩, rfl⟩
      go_wp2
      go_loop [5, 7] (fun t i => ∃ (k : Nat) (z : Int), k ≤ xss.length ∧ 0 ≤ z ∧ z ≤ 1048576 ∧ t = .int .i64 z ∧ i = .int .i64 k) (fun _ i => xss.length - (intOf i).toNat)
      case atStart => exact ⟨0, _, Nat.zero_le _, by omega, hz4, rfl, rfl⟩
      case round =>
        obtain ⟨k2, z2, hk2, hz5, hz6, rfl, rfl⟩ := hrel
        by_cases hlt2 : k2 < xss.length
        · obtain ⟨b, o, rfl, av, cap, hcell, _⟩ := H.out.2 k2 hlt2
          generalize (rowOf xss k2).length = lk at *
          by_cases hl : lk ≤ 1048576
          · by_cases hz3 : z2 + (lk : Int) ≤ 1048576
            · go_wp2
              go_round
              case rel => exact ⟨k2 + 1, _, by omega, by omega, hz3, rfl, by go_num⟩
              case measure => simp [intOf]; omega
            · go_wp2
              go_ret
              exact ⟨⟨_, rfl⟩, rfl⟩
          · go_wp2
            go_ret
            exact ⟨⟨_, rfl⟩, rfl⟩
        · go_wp2
          go_ret
          exact ⟨⟨_, rfl⟩, rfl⟩

set_option maxRecDepth 100000 in
set_option maxHeartbeats 1600000 in
theorem bytes25_any (a : Option Addr) (xs : List ByteArray) (d : Nat) (a2 : Option Addr) (xss : List (List Int)) (d2 : Nat) (w : World) (hs : Strs w a xs) (h : Ints2 w a2 xss) :
    Calls Try.prog 25 #[.slice a xs.length d, .slice a2 xss.length d2] w fun e w' => RetAny e ∧ w' = w := by
  have HS : Hid (Strs w a xs) := hs
  have H : Hid (Ints2 w a2 xss) := h
  clear hs h
  by_cases hn : xs.length ≤ 1048576
  case neg =>
    go_enter Try.func25, Try.ntmps25
    go_wp2
    go_ret
    exact ⟨⟨_, rfl⟩, rfl⟩
  go_enter Try.func25, Try.ntmps25
  go_wp2
  go_loop [5, 6] (fun t i => ∃ (k : Nat) (z : Int), k ≤ xs.length ∧ 0 ≤ z ∧ z ≤ 1048576 ∧ t = .int .i64 z ∧ i = .int .i64 k) (fun _ i => xs.length - (intOf i).toNat)
  case atStart => exact ⟨0, _, Nat.zero_le _, by omega, by omega, rfl, rfl⟩
  case round =>
    obtain ⟨k, z, hk, hz, hz2, rfl, rfl⟩ := hrel
    by_cases hlt : k < xs.length
    · obtain ⟨b, o, rfl, hcell⟩ := HS.out.at hlt
      generalize hnm : xs.getD k noS = nm at hcell
      clear hnm
      by_cases hl : nm.size ≤ 1048576
      · by_cases hz3 : z + nm.size ≤ 1048576
        · go_wp2
          go_round
          case rel => exact ⟨k + 1, _, by omega, by omega, hz3, rfl, by go_num⟩
          case measure => simp [intOf]; omega
        · go_wp2
          go_ret
          exact ⟨⟨_, rfl⟩, rfl⟩
      · go_wp2
        go_ret
        exact ⟨⟨_, rfl⟩, rfl⟩
    · by_cases hn2 : xss.length ≤ 1048576
      case neg =>
        go_wp2
        go_ret
        exact ⟨⟨_, rfl⟩, rfl⟩
      by_cases hz4 : z + xss.length ≤ 1048576
      case neg =>
        go_wp2
        go_ret
        exact ⟨⟨_, rfl⟩, rfl⟩
      go_wp2
      go_loop [5, 7] (fun t i => ∃ (k : Nat) (z : Int), k ≤ xss.length ∧ 0 ≤ z ∧ z ≤ 1048576 ∧ t = .int .i64 z ∧ i = .int .i64 k) (fun _ i => xss.length - (intOf i).toNat)
      case atStart => exact ⟨0, _, Nat.zero_le _, by omega, hz4, rfl, rfl⟩
      case round =>
        obtain ⟨k2, z2, hk2, hz5, hz6, rfl, rfl⟩ := hrel
        by_cases hlt2 : k2 < xss.length
        · obtain ⟨b, o, rfl, av, cap, hcell, _⟩ := H.out.2 k2 hlt2
          generalize (rowOf xss k2).length = lk at *
          by_cases hl : lk ≤ 1048576
          · by_cases hz3 : z2 + (lk : Int) ≤ 1048576
            · go_wp2
              go_round
              case rel => exact ⟨k2 + 1, _, by omega, by omega, hz3, rfl, by go_num⟩
              case measure => simp [intOf]; omega
            · go_wp2
              go_ret
              exact ⟨⟨_, rfl⟩, rfl⟩
          · go_wp2
            go_ret
            exact ⟨⟨_, rfl⟩, rfl⟩
        · go_wp2
          go_ret
          exact ⟨⟨_, rfl⟩, rfl⟩


end Go.Proofs.Qxb6601698a
