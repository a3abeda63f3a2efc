/-
  The walks of book.holderEnd (13) and book.ZZHolderEnd (9), and of the guards on sizes: lotsTooBig (7), zzBytes_.. (6, 10, 11).
-/
import Derived.Test.Qxb6601545aRows
import Derived.WalkKit
import Derived.WalkSpells
import Derived.WalkLawsBesides
namespace Go.Proofs.Qxb6601545a
open Go.RowKit

/-- What holderEnd answers: the end of the run of h's lots that starts at 'first'. -/
structure IsEnd (hs : Nat → ByteArray) (n : Nat) (h : ByteArray) (first r : Nat) : Prop where
  lo : first ≤ r
  hi : r ≤ n ∨ r = first
  run : ∀ k, first ≤ k → k < r → hs k = h
  stop : r < n → hs r ≠ h

theorem IsEnd.uniq {hs : Nat → ByteArray} {n : Nat} {h : ByteArray} {first r s : Nat} (a : IsEnd hs n h first r) (b : IsEnd hs n h first s) : r = s := by
  rcases Nat.lt_trichotomy r s with hlt | rfl | hlt
  · exfalso
    have := b.hi
    have := a.lo
    exact a.stop (by omega) (b.run r a.lo hlt)
  · rfl
  · exfalso
    have := a.hi
    have := b.lo
    exact b.stop (by omega) (a.run s b.lo hlt)

/-- The holders of the entries in memory, five cells an entry, the first the holder. -/
def Holders (w : World) (a : Option Addr) (n : Nat) (hs : Nat → ByteArray) : Prop :=
  n = 0 ∨ ∃ b o, a = some ⟨b, o, none⟩ ∧ ∀ i, i < n → w.cell? ⟨b, o + i * 5, none⟩ = some (.string (hs i))

theorem beqL_true {a b : ByteArray} (h : a = b) : (a.toList == b.toList) = true := by subst h; simp
theorem beqL_false {a b : ByteArray} (h : ¬ a = b) : (a.toList == b.toList) = false := by
  rw [ByteArray.toList_eq, ByteArray.toList_eq, beq_eq_false_iff_ne]
  intro e
  exact h (Go.WideShapes.bytes_inj e)

set_option maxHeartbeats 400000 in
theorem holderEnd_any (a : Option Addr) (n cap : Nat) (first : Nat) (h : ByteArray) (hs : Nat → ByteArray) (w : World)
    (hn : n ≤ 1048576) (hc : Holders w a n hs) :
    Calls Try.prog 13 #[.slice a n cap, .int .i64 first, .string h] w fun e w' => (∃ r : Nat, IsEnd hs n h first r ∧ e = .returned (.int .i64 r)) ∧ w' = w := by
  go_enter Try.func13, Try.ntmps13
  go_wp2
  go_loop [7] (fun t => ∃ k : Nat, first ≤ k ∧ (k ≤ n ∨ k = first) ∧ (∀ j, first ≤ j → j < k → hs j = h) ∧ t = .int .i64 k) (fun t => n - (intOf t).toNat)
  case atStart => exact ⟨first, Nat.le_refl _, .inr rfl, fun j h1 h2 => by omega, rfl⟩
  case round =>
    obtain ⟨k, hk, hk2, hrun, rfl⟩ := hrel
    have HR : Hid (∀ j, first ≤ j → j < k → hs j = h) := hrun
    clear hrun
    by_cases hlt : k < n
    · rcases hc with hc | ⟨b, o, rfl, hc⟩
      · omega
      have hcell := hc k hlt
      clear hc
      by_cases he : hs k = h
      · have hb := beqL_true he
        have HE : Hid (hs k = h) := he
        clear he
        go_wp2
        go_round
        case rel =>
          refine ⟨k + 1, by omega, by omega, fun j h1 h2 => ?_, by go_num⟩
          by_cases hj : j < k
          · exact HR.out j h1 hj
          · rw [show j = k by omega]; exact HE.out
        case measure => simp [intOf]; omega
      · have hb := beqL_false he
        go_wp2
        go_ret
        exact ⟨⟨k, ⟨hk, hk2, HR.out, fun _ => he⟩, rfl⟩, rfl⟩
    · go_wp2
      go_ret
      exact ⟨⟨k, ⟨hk, hk2, HR.out, fun h' => absurd h' hlt⟩, rfl⟩, rfl⟩

set_option maxHeartbeats 400000 in
theorem ZZHolderEnd_any (a : Option Addr) (n cap : Nat) (first : Nat) (h : ByteArray) (hs : Nat → ByteArray) (w : World)
    (hn : n ≤ 1048576) (hc : Holders w a n hs) :
    Calls Try.prog 9 #[.slice a n cap, .int .i64 first, .string h] w fun e w' => (∃ r : Nat, IsEnd hs n h first r ∧ e = .returned (.int .i64 r)) ∧ w' = w := by
  go_enter Try.func9, Try.ntmps9
  go_wp2_with (go_at_call 13; refine (holderEnd_any _ _ _ _ _ hs _ hn hc).mono ?_; rintro e w' ⟨⟨r, hr, rfl⟩, rfl⟩)
  go_ret
  exact ⟨⟨r, hr, rfl⟩, rfl⟩

/-- A bool is returned; where it is false there are few lots. (A plain def: the walk's simp does not take it apart.) -/
def RetBig (n : Nat) (e : Ending) : Prop := ∃ b : Bool, (b = false → n ≤ 65536) ∧ e = .returned (.bool b)
/-- A bool is returned. -/
def RetAny (e : Ending) : Prop := ∃ b : Bool, e = .returned (.bool b)

set_option maxHeartbeats 400000 in
theorem lotsTooBig_any (a : Option Addr) (n cap : Nat) (h : ByteArray) (hs : Nat → ByteArray) (w : World) (hc : Holders w a n hs) :
    Calls Try.prog 7 #[.slice a n cap, .string h] w fun e w' => RetBig n e ∧ w' = w := by
  by_cases hn : n ≤ 65536
  · by_cases hh : h.size ≤ 1048576
    · go_enter Try.func7, Try.ntmps7
      go_wp2
      go_loop [5, 6] (fun t i => ∃ (k : Nat) (z : Int), k ≤ n ∧ 0 ≤ z ∧ z ≤ 1048576 ∧ t = .int .i64 z ∧ i = .int .i64 k) (fun _ i => n - (intOf i).toNat)
      case atStart => exact ⟨0, _, Nat.zero_le _, by omega, by omega, rfl, rfl⟩
      case round =>
        obtain ⟨k, z, hk, hz, hz2, rfl, rfl⟩ := hrel
        by_cases hlt : k < n
        · rcases hc with hc | ⟨b, o, rfl, hc⟩
          · omega
          have hcell := hc k hlt
          clear hc
          by_cases hl : (hs k).size ≤ 1048576
          · go_wp2
            · go_ret
              exact ⟨⟨true, by simp, rfl⟩, rfl⟩
            · go_round
              case rel => exact ⟨k + 1, _, by omega, by omega, by omega, rfl, by go_num⟩
              case measure => simp [intOf]; omega
          · go_wp2
            go_ret
            exact ⟨⟨true, by simp, rfl⟩, rfl⟩
        · go_wp2
          go_ret
          exact ⟨⟨false, fun _ => hn, rfl⟩, rfl⟩
    · go_enter Try.func7, Try.ntmps7
      go_wp2
      go_ret
      exact ⟨⟨true, by simp, rfl⟩, rfl⟩
  · go_enter Try.func7, Try.ntmps7
    go_wp2
    go_ret
    exact ⟨⟨true, by simp, rfl⟩, rfl⟩

set_option maxHeartbeats 400000 in
theorem zzBytes_A (a : Option Addr) (n cap : Nat) (first : Int) (h : ByteArray) (hs : Nat → ByteArray) (w : World) (hc : Holders w a n hs) :
    Calls Try.prog 6 #[.slice a n cap, .int .i64 first, .string h] w fun e w' => RetAny e ∧ w' = w := by
  by_cases hn : n ≤ 1048576
  · go_enter Try.func6, Try.ntmps6
    go_wp2
    go_loop [7, 8] (fun t i => ∃ (k : Nat) (z : Int), k ≤ n ∧ 0 ≤ z ∧ z ≤ 1048576 ∧ t = .int .i64 z ∧ i = .int .i64 k) (fun _ i => n - (intOf i).toNat)
    case atStart => exact ⟨0, _, Nat.zero_le _, by omega, by omega, rfl, rfl⟩
    case round =>
      obtain ⟨k, z, hk, hz, hz2, rfl, rfl⟩ := hrel
      by_cases hlt : k < n
      · rcases hc with hc | ⟨b, o, rfl, hc⟩
        · omega
        have hcell := hc k hlt
        clear hc
        by_cases hl : (hs k).size ≤ 1048576
        · go_wp2
          · go_ret
            exact ⟨⟨_, rfl⟩, rfl⟩
          · go_round
            case rel => exact ⟨k + 1, _, by omega, by omega, by omega, rfl, by go_num⟩
            case measure => simp [intOf]; omega
        · go_wp2
          go_ret
          exact ⟨⟨_, rfl⟩, rfl⟩
      · by_cases hh : h.size ≤ 1048576
        · go_wp2
          all_goals
            go_ret
            exact ⟨⟨_, rfl⟩, rfl⟩
        · go_wp2
          go_ret
          exact ⟨⟨_, rfl⟩, rfl⟩
  · go_enter Try.func6, Try.ntmps6
    go_wp2
    go_ret
    exact ⟨⟨_, rfl⟩, rfl⟩

set_option maxHeartbeats 400000 in
theorem zzBytes_B (a : Option Addr) (n cap : Nat) (first : Int) (h : ByteArray) (hs : Nat → ByteArray) (w : World) (hc : Holders w a n hs) :
    Calls Try.prog 10 #[.slice a n cap, .int .i64 first, .string h] w fun e w' => RetAny e ∧ w' = w := by
  by_cases hn : n ≤ 1048576
  · go_enter Try.func10, Try.ntmps10
    go_wp2
    go_loop [7, 8] (fun t i => ∃ (k : Nat) (z : Int), k ≤ n ∧ 0 ≤ z ∧ z ≤ 1048576 ∧ t = .int .i64 z ∧ i = .int .i64 k) (fun _ i => n - (intOf i).toNat)
    case atStart => exact ⟨0, _, Nat.zero_le _, by omega, by omega, rfl, rfl⟩
    case round =>
      obtain ⟨k, z, hk, hz, hz2, rfl, rfl⟩ := hrel
      by_cases hlt : k < n
      · rcases hc with hc | ⟨b, o, rfl, hc⟩
        · omega
        have hcell := hc k hlt
        clear hc
        by_cases hl : (hs k).size ≤ 1048576
        · go_wp2
          · go_ret
            exact ⟨⟨_, rfl⟩, rfl⟩
          · go_round
            case rel => exact ⟨k + 1, _, by omega, by omega, by omega, rfl, by go_num⟩
            case measure => simp [intOf]; omega
        · go_wp2
          go_ret
          exact ⟨⟨_, rfl⟩, rfl⟩
      · by_cases hh : h.size ≤ 1048576
        · go_wp2
          all_goals
            go_ret
            exact ⟨⟨_, rfl⟩, rfl⟩
        · go_wp2
          go_ret
          exact ⟨⟨_, rfl⟩, rfl⟩
  · go_enter Try.func10, Try.ntmps10
    go_wp2
    go_ret
    exact ⟨⟨_, rfl⟩, rfl⟩

set_option maxHeartbeats 400000 in
theorem zzBytes_C (a : Option Addr) (n cap : Nat) (first m : Int) (h : ByteArray) (hs : Nat → ByteArray) (w : World) (hc : Holders w a n hs) :
    Calls Try.prog 11 #[.slice a n cap, .int .i64 first, .int .i64 m, .string h] w fun e w' => RetAny e ∧ w' = w := by
  by_cases hn : n ≤ 1048576
  · go_enter Try.func11, Try.ntmps11
    go_wp2
    go_loop [9, 10] (fun t i => ∃ (k : Nat) (z : Int), k ≤ n ∧ 0 ≤ z ∧ z ≤ 1048576 ∧ t = .int .i64 z ∧ i = .int .i64 k) (fun _ i => n - (intOf i).toNat)
    case atStart => exact ⟨0, _, Nat.zero_le _, by omega, by omega, rfl, rfl⟩
    case round =>
      obtain ⟨k, z, hk, hz, hz2, rfl, rfl⟩ := hrel
      by_cases hlt : k < n
      · rcases hc with hc | ⟨b, o, rfl, hc⟩
        · omega
        have hcell := hc k hlt
        clear hc
        by_cases hl : (hs k).size ≤ 1048576
        · go_wp2
          · go_ret
            exact ⟨⟨_, rfl⟩, rfl⟩
          · go_round
            case rel => exact ⟨k + 1, _, by omega, by omega, by omega, rfl, by go_num⟩
            case measure => simp [intOf]; omega
        · go_wp2
          go_ret
          exact ⟨⟨_, rfl⟩, rfl⟩
      · by_cases hh : h.size ≤ 1048576
        · go_wp2
          all_goals
            go_ret
            exact ⟨⟨_, rfl⟩, rfl⟩
        · go_wp2
          go_ret
          exact ⟨⟨_, rfl⟩, rfl⟩
  · go_enter Try.func11, Try.ntmps11
    go_wp2
    go_ret
    exact ⟨⟨_, rfl⟩, rfl⟩

end Go.Proofs.Qxb6601545a
