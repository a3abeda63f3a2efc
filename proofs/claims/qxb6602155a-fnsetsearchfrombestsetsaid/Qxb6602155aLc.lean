/-
  The law (3): its guards (statements 7 to 10).
-/
import Derived.Test.Qxb6602155aLa
namespace Go.Proofs.Qxb6602155a
open Go.RowKit

set_option maxRecDepth 100000 in
set_option maxHeartbeats 8000000 in
theorem secA7 (R c : Code) (hc : segOf 7 1 R Try.f3.body = some c) (w0 : World) (a1 a2 : Option Addr) (d1 d2 : Nat) (xs ss : List It) (lo hi i sum : Int) (least : Bool) (t : Array Value)
    (hF : Fr (.slice a1 xs.length d1) (.slice a2 ss.length d2) lo hi least i sum t) (hx : Its w0 a1 xs) (_hs : Its w0 a2 ss) (nx : xs.length ≤ 4096)
    (hn : ∀ t', Fr (.slice a1 xs.length d1) (.slice a2 ss.length d2) lo hi least i sum t' → (∀ x ∈ xs, 0 ≤ x.size) → Code.wp Try.prog R (bodyPost Try.prog Try.f3 (LawEnd w0)) ⟨t', []⟩ w0) :
    Code.wp Try.prog c (bodyPost Try.prog Try.f3 (LawEnd w0)) ⟨t, []⟩ w0 := by
  have ec := Option.some.inj hc
  clear hc
  subst ec
  simp only [dropC, segC]
  have HN : Hid _ := hn
  clear hn
  rw [arr_open t hF.size, hF.s0, hF.s1, hF.s2, hF.s3, hF.s4, hF.s5, hF.s6]
  clear hF
  go_wp2
  go_loop [18] (fun i => ∃ (k : Nat), k ≤ xs.length ∧ i = .int .i64 k ∧ ∀ j, j < k → 0 ≤ (xs.getD j noIt).size) (fun i => xs.length - (intOf i).toNat)
  case atStart => exact ⟨0, Nat.zero_le _, rfl, fun j hj => by omega⟩
  case round =>
    obtain ⟨k, hk, rfl, hall⟩ := hrel
    have HA : Hid _ := hall
    clear hall
    by_cases hlt : k < xs.length
    · obtain ⟨b, o, rfl, hA⟩ := hx.at hlt
      have hcell := hA.c4
      clear hA
      generalize hsz : (xs.getD k noIt).size = sz at hcell
      have HS : Hid _ := hsz
      clear hsz
      by_cases hneg : sz < 0
      · go_wp2
        go_ret
        exact ⟨rfl, Grow.refl _⟩
      · go_wp2
        go_round
        case rel =>
          refine ⟨k + 1, by omega, by go_num, fun j hj => ?_⟩
          by_cases e : j = k
          · subst e; rw [HS.out]; omega
          · exact HA.out j (by omega)
        case measure => simp [intOf]; omega
    · go_wp2
      refine HN.out _ ⟨rfl, rfl, rfl, rfl, rfl, rfl, rfl, rfl⟩ (fun x hx => ?_)
      obtain ⟨j, hj, rfl⟩ := List.getElem_of_mem hx
      have := HA.out j (by omega)
      simpa [List.getD, hj] using this

set_option maxRecDepth 100000 in
set_option maxHeartbeats 8000000 in
theorem secA8 (R c : Code) (hc : segOf 8 3 R Try.f3.body = some c) (w0 : World) (a1 a2 : Option Addr) (d1 d2 : Nat) (xs ss : List It) (lo hi i sum : Int) (least : Bool) (t : Array Value)
    (hF : Fr (.slice a1 xs.length d1) (.slice a2 ss.length d2) lo hi least i sum t) (_hx : Its w0 a1 xs) (_hs : Its w0 a2 ss) (hlo : InI lo) (hhi : InI hi) (hsum : InI sum) (nx : xs.length ≤ 4096) (ns : ss.length ≤ 4096) (hz : ∀ x ∈ xs, 0 ≤ x.size)
    (hn : ∀ t', Fr (.slice a1 xs.length d1) (.slice a2 ss.length d2) lo hi least i sum t' → Guarded xs ss lo hi i sum → Code.wp Try.prog R (bodyPost Try.prog Try.f3 (LawEnd w0)) ⟨t', []⟩ w0) :
    Code.wp Try.prog c (bodyPost Try.prog Try.f3 (LawEnd w0)) ⟨t, []⟩ w0 := by
  have ec := Option.some.inj hc
  clear hc
  subst ec
  simp only [dropC, segC]
  have HN : Hid _ := hn
  clear hn
  rw [arr_open t hF.size, hF.s0, hF.s1, hF.s2, hF.s3, hF.s4, hF.s5, hF.s6]
  clear hF
  have HZ : Hid _ := hz
  clear hz
  by_cases i0 : i < 0
  · go_wp2
    go_ret
    exact ⟨rfl, Grow.refl _⟩
  by_cases i1 : i > xs.length
  · go_wp2
    go_ret
    exact ⟨rfl, Grow.refl _⟩
  by_cases s0 : sum < 0
  · go_wp2
    go_ret
    exact ⟨rfl, Grow.refl _⟩
  obtain ⟨l1, l2⟩ := hlo
  obtain ⟨h1, h2⟩ := hhi
  obtain ⟨q1, q2⟩ := hsum
  by_cases hl : lo < 0
  · have hw1 : IntKind.i64.wrap (lo + 9223372036854775807) = lo + 9223372036854775807 := by rw [IntKind.wrap_i64]; omega
    have hw2 : IntKind.i64.wrap (lo + 9223372036854775807 + 1) = lo + 9223372036854775807 + 1 := by rw [IntKind.wrap_i64]; omega
    by_cases c1 : lo + 9223372036854775807 + 1 < hi
    · go_wp2
      go_ret
      exact ⟨rfl, Grow.refl _⟩
    by_cases c2 : lo + 9223372036854775807 + 1 < sum
    · go_wp2
      go_ret
      exact ⟨rfl, Grow.refl _⟩
    by_cases hh : hi < 0
    · have hw3 : IntKind.i64.wrap (hi + 9223372036854775807) = hi + 9223372036854775807 := by rw [IntKind.wrap_i64]; omega
      have hw4 : IntKind.i64.wrap (hi + 9223372036854775807 + 1) = hi + 9223372036854775807 + 1 := by rw [IntKind.wrap_i64]; omega
      by_cases c3 : hi + 9223372036854775807 + 1 < sum
      · go_wp2
        go_ret
        exact ⟨rfl, Grow.refl _⟩
      · go_wp2
        exact HN.out _ ⟨rfl, rfl, rfl, rfl, rfl, rfl, rfl, rfl⟩ ⟨nx, ns, HZ.out, by omega, by omega, by omega, fun _ => by omega, fun _ => by omega⟩
    · go_wp2
      exact HN.out _ ⟨rfl, rfl, rfl, rfl, rfl, rfl, rfl, rfl⟩ ⟨nx, ns, HZ.out, by omega, by omega, by omega, fun _ => by omega, fun _ => by omega⟩
  · by_cases hh : hi < 0
    · have hw3 : IntKind.i64.wrap (hi + 9223372036854775807) = hi + 9223372036854775807 := by rw [IntKind.wrap_i64]; omega
      have hw4 : IntKind.i64.wrap (hi + 9223372036854775807 + 1) = hi + 9223372036854775807 + 1 := by rw [IntKind.wrap_i64]; omega
      by_cases c3 : hi + 9223372036854775807 + 1 < sum
      · go_wp2
        go_ret
        exact ⟨rfl, Grow.refl _⟩
      · go_wp2
        exact HN.out _ ⟨rfl, rfl, rfl, rfl, rfl, rfl, rfl, rfl⟩ ⟨nx, ns, HZ.out, by omega, by omega, by omega, fun _ => by omega, fun _ => by omega⟩
    · go_wp2
      exact HN.out _ ⟨rfl, rfl, rfl, rfl, rfl, rfl, rfl, rfl⟩ ⟨nx, ns, HZ.out, by omega, by omega, by omega, fun _ => by omega, fun _ => by omega⟩

end Go.Proofs.Qxb6602155a
