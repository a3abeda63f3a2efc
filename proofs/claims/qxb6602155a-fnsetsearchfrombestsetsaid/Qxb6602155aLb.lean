/-
  The law (3): its guards (statements 4 to 6).
-/
import Derived.Test.Qxb6602155aLa
namespace Go.Proofs.Qxb6602155a
open Go.RowKit

set_option maxRecDepth 100000 in
set_option maxHeartbeats 8000000 in
theorem secA4 (R c : Code) (hc : segOf 4 1 R Try.f3.body = some c) (w0 : World) (a1 a2 : Option Addr) (d1 d2 : Nat) (xs ss : List It) (lo hi i sum : Int) (least : Bool) (t : Array Value)
    (hF : Fr (.slice a1 xs.length d1) (.slice a2 ss.length d2) lo hi least i sum t) (hx : Its w0 a1 xs) (_hs : Its w0 a2 ss) (nx : xs.length ≤ 4096) (_ns : ss.length ≤ 4096) (z : Int) (s15 : slotAt t 15 = .int .i64 z)
    (hn : ∀ t', Fr (.slice a1 xs.length d1) (.slice a2 ss.length d2) lo hi least i sum t' → (∃ z : Int, slotAt t' 15 = .int .i64 z) → Code.wp Try.prog R (bodyPost Try.prog Try.f3 (LawEnd w0)) ⟨t', []⟩ w0) :
    Code.wp Try.prog c (bodyPost Try.prog Try.f3 (LawEnd w0)) ⟨t, []⟩ w0 := by
  have ec := Option.some.inj hc
  clear hc
  subst ec
  simp only [dropC, segC]
  have HN : Hid _ := hn
  clear hn
  rw [arr_open t hF.size, hF.s0, hF.s1, hF.s2, hF.s3, hF.s4, hF.s5, hF.s6, s15]
  clear hF s15
  go_wp2
  go_loop [15, 16] (fun t i => ∃ (k : Nat) (z : Int), k ≤ xs.length ∧ t = .int .i64 z ∧ i = .int .i64 k) (fun _ i => xs.length - (intOf i).toNat)
  case atStart => exact ⟨0, _, Nat.zero_le _, rfl, rfl⟩
  case round =>
    obtain ⟨k, z, hk, rfl, rfl⟩ := hrel
    by_cases hlt : k < xs.length
    · by_cases hz : z ≤ 1048576
      · obtain ⟨b, o, rfl, hA⟩ := hx.at hlt
        have hcell := hA.c0
        clear hA
        generalize (xs.getD k noIt).name = nm at hcell
        go_wp2
        go_round
        case rel => exact ⟨k + 1, _, by omega, rfl, by go_num⟩
        case measure => simp [intOf]; omega
      · go_wp2
        exact HN.out _ ⟨rfl, rfl, rfl, rfl, rfl, rfl, rfl, rfl⟩ ⟨_, rfl⟩
    · go_wp2
      exact HN.out _ ⟨rfl, rfl, rfl, rfl, rfl, rfl, rfl, rfl⟩ ⟨_, rfl⟩

set_option maxRecDepth 100000 in
set_option maxHeartbeats 8000000 in
theorem secA5 (R c : Code) (hc : segOf 5 1 R Try.f3.body = some c) (w0 : World) (a1 a2 : Option Addr) (d1 d2 : Nat) (xs ss : List It) (lo hi i sum : Int) (least : Bool) (t : Array Value)
    (hF : Fr (.slice a1 xs.length d1) (.slice a2 ss.length d2) lo hi least i sum t) (_hx : Its w0 a1 xs) (hs : Its w0 a2 ss) (_nx : xs.length ≤ 4096) (ns : ss.length ≤ 4096) (z : Int) (s15 : slotAt t 15 = .int .i64 z)
    (hn : ∀ t', Fr (.slice a1 xs.length d1) (.slice a2 ss.length d2) lo hi least i sum t' → (∃ z : Int, slotAt t' 15 = .int .i64 z) → Code.wp Try.prog R (bodyPost Try.prog Try.f3 (LawEnd w0)) ⟨t', []⟩ w0) :
    Code.wp Try.prog c (bodyPost Try.prog Try.f3 (LawEnd w0)) ⟨t, []⟩ w0 := by
  have ec := Option.some.inj hc
  clear hc
  subst ec
  simp only [dropC, segC]
  have HN : Hid _ := hn
  clear hn
  rw [arr_open t hF.size, hF.s0, hF.s1, hF.s2, hF.s3, hF.s4, hF.s5, hF.s6, s15]
  clear hF s15
  go_wp2
  go_loop [15, 17] (fun t i => ∃ (k : Nat) (z : Int), k ≤ ss.length ∧ t = .int .i64 z ∧ i = .int .i64 k) (fun _ i => ss.length - (intOf i).toNat)
  case atStart => exact ⟨0, _, Nat.zero_le _, rfl, rfl⟩
  case round =>
    obtain ⟨k, z, hk, rfl, rfl⟩ := hrel
    by_cases hlt : k < ss.length
    · by_cases hz : z ≤ 1048576
      · obtain ⟨b, o, rfl, hA⟩ := hs.at hlt
        have hcell := hA.c0
        clear hA
        generalize (ss.getD k noIt).name = nm at hcell
        go_wp2
        go_round
        case rel => exact ⟨k + 1, _, by omega, rfl, by go_num⟩
        case measure => simp [intOf]; omega
      · go_wp2
        exact HN.out _ ⟨rfl, rfl, rfl, rfl, rfl, rfl, rfl, rfl⟩ ⟨_, rfl⟩
    · go_wp2
      exact HN.out _ ⟨rfl, rfl, rfl, rfl, rfl, rfl, rfl, rfl⟩ ⟨_, rfl⟩

set_option maxRecDepth 100000 in
set_option maxHeartbeats 8000000 in
theorem secA6 (R c : Code) (hc : segOf 6 1 R Try.f3.body = some c) (w0 : World) (a1 a2 : Option Addr) (d1 d2 : Nat) (xs ss : List It) (lo hi i sum : Int) (least : Bool) (t : Array Value)
    (hF : Fr (.slice a1 xs.length d1) (.slice a2 ss.length d2) lo hi least i sum t) (_hx : Its w0 a1 xs) (_hs : Its w0 a2 ss) (z : Int) (s15 : slotAt t 15 = .int .i64 z)
    (hn : ∀ t', Fr (.slice a1 xs.length d1) (.slice a2 ss.length d2) lo hi least i sum t' → True → Code.wp Try.prog R (bodyPost Try.prog Try.f3 (LawEnd w0)) ⟨t', []⟩ w0) :
    Code.wp Try.prog c (bodyPost Try.prog Try.f3 (LawEnd w0)) ⟨t, []⟩ w0 := by
  have ec := Option.some.inj hc
  clear hc
  subst ec
  simp only [dropC, segC]
  have HN : Hid _ := hn
  clear hn
  rw [arr_open t hF.size, hF.s0, hF.s1, hF.s2, hF.s3, hF.s4, hF.s5, hF.s6, s15]
  clear hF s15
  go_wp2
  · go_ret
    exact ⟨rfl, Grow.refl _⟩
  · exact HN.out _ ⟨rfl, rfl, rfl, rfl, rfl, rfl, rfl, rfl⟩ trivial

end Go.Proofs.Qxb6602155a
