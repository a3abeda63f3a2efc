/-
  The law's helpers: zzBytes (4), zzCloneIn (5), zzRest (7).
-/
import Derived.Test.Qxb6602155aHa
namespace Go.Proofs.Qxb6602155a
open Go.RowKit

def RetAny (e : Ending) : Prop := ∃ b : Bool, e = .returned (.bool b)

set_option maxRecDepth 100000 in
set_option maxHeartbeats 1600000 in
theorem bytes_any (a1 a2 : Option Addr) (xs ss : List It) (d1 d2 : Nat) (lo hi i sum : Int) (least : Bool) (w : World) (h1 : Its w a1 xs) (h2 : Its w a2 ss) :
    Calls Try.prog 4 #[.slice a1 xs.length d1, .slice a2 ss.length d2, .int .i64 lo, .int .i64 hi, .bool least, .int .i64 i, .int .i64 sum] w fun e w' => RetAny e ∧ w' = w := by
  by_cases hn : xs.length ≤ 1048576
  · go_enter Try.func4, Try.ntmps4
    go_wp2
    go_loop [15, 16] (fun t i => ∃ (k : Nat) (z : Int), k ≤ xs.length ∧ 0 ≤ z ∧ z ≤ 1048576 ∧ t = .int .i64 z ∧ i = .int .i64 k) (fun _ i => xs.length - (intOf i).toNat)
    case atStart => exact ⟨0, _, Nat.zero_le _, by omega, by omega, rfl, rfl⟩
    case round =>
      obtain ⟨k, z, hk, hz, hz2, rfl, rfl⟩ := hrel
      by_cases hlt : k < xs.length
      · obtain ⟨b, o, rfl, hA⟩ := h1.at hlt
        have hcell := hA.c0
        clear hA h1 h2
        generalize (xs.getD k noIt).name = nm at hcell
        by_cases hl : nm.size ≤ 1048576
        · go_wp2
          · go_ret
            exact ⟨⟨_, rfl⟩, rfl⟩
          · go_round
            case rel => exact ⟨k + 1, _, by omega, by omega, by omega, rfl, by go_num⟩
            case measure => simp [intOf]; omega
        · go_wp2
          go_ret
          exact ⟨⟨_, rfl⟩, rfl⟩
      · by_cases hn2 : ss.length ≤ 1048576
        · by_cases hz3 : z + ss.length ≤ 1048576
          · go_wp2
            go_loop [15, 17] (fun t i => ∃ (k : Nat) (z : Int), k ≤ ss.length ∧ 0 ≤ z ∧ z ≤ 1048576 ∧ t = .int .i64 z ∧ i = .int .i64 k) (fun _ i => ss.length - (intOf i).toNat)
            case atStart => exact ⟨0, _, Nat.zero_le _, by omega, by omega, rfl, rfl⟩
            case round =>
              obtain ⟨k2, z2, hk2, hz2, hz22, rfl, rfl⟩ := hrel
              by_cases hlt2 : k2 < ss.length
              · obtain ⟨b, o, rfl, hA⟩ := h2.at hlt2
                have hcell := hA.c0
                clear hA h1 h2
                generalize (ss.getD k2 noIt).name = nm at hcell
                by_cases hl : nm.size ≤ 1048576
                · go_wp2
                  · go_ret
                    exact ⟨⟨_, rfl⟩, rfl⟩
                  · go_round
                    case rel => exact ⟨k2 + 1, _, by omega, by omega, by omega, rfl, by go_num⟩
                    case measure => simp [intOf]; omega
                · go_wp2
                  go_ret
                  exact ⟨⟨_, rfl⟩, rfl⟩
              · go_wp2
                go_ret
                exact ⟨⟨_, rfl⟩, rfl⟩
          · go_wp2
            go_ret
            exact ⟨⟨_, rfl⟩, rfl⟩
        · go_wp2
          go_ret
          exact ⟨⟨_, rfl⟩, rfl⟩
  · go_enter Try.func4, Try.ntmps4
    go_wp2
    go_ret
    exact ⟨⟨_, rfl⟩, rfl⟩

end Go.Proofs.Qxb6602155a
