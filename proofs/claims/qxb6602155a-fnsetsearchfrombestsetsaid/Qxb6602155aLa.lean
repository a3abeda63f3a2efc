/-
  The law (3): its guards (statements 0 to 3).
-/
import Derived.Test.Qxb6602155aHb
import Derived.Test.Qxb6602155aFb
namespace Go.Proofs.Qxb6602155a
open Go.RowKit

/-- The law's arguments in their slots. -/
structure Fr (v0 v1 : Value) (lo hi : Int) (least : Bool) (i sum : Int) (t : Array Value) : Prop where
  size : t.size = 547
  s0 : slotAt t 0 = v0
  s1 : slotAt t 1 = v1
  s2 : slotAt t 2 = .int .i64 lo
  s3 : slotAt t 3 = .int .i64 hi
  s4 : slotAt t 4 = .bool least
  s5 : slotAt t 5 = .int .i64 i
  s6 : slotAt t 6 = .int .i64 sum

/-- What the law owes. -/
def LawEnd (w0 : World) (e : Ending) (w' : World) : Prop := e = .returned (.bool true) ∧ Grow w0 w'

/-- What is known behind the guards. -/
structure Guarded (xs ss : List It) (lo hi : Int) (i sum : Int) : Prop where
  nx : xs.length ≤ 4096
  ns : ss.length ≤ 4096
  sz : ∀ x ∈ xs, 0 ≤ x.size
  i0 : 0 ≤ i
  i1 : i ≤ xs.length
  s0 : 0 ≤ sum
  lh : lo < 0 → hi ≤ lo + 9223372036854775808 ∧ sum ≤ lo + 9223372036854775808
  hh : hi < 0 → sum ≤ hi + 9223372036854775808

structure InI (x : Int) : Prop where
  a : -9223372036854775808 ≤ x
  b : x ≤ 9223372036854775807

set_option maxRecDepth 100000 in
set_option maxHeartbeats 8000000 in
theorem secA1 (R c : Code) (hc : segOf 0 4 R Try.f3.body = some c) (w0 : World) (a1 a2 : Option Addr) (d1 d2 : Nat) (xs ss : List It) (lo hi i sum : Int) (least : Bool) (t : Array Value)
    (hF : Fr (.slice a1 xs.length d1) (.slice a2 ss.length d2) lo hi least i sum t) (hx : Its w0 a1 xs) (hs : Its w0 a2 ss) 
    (hn : ∀ t', Fr (.slice a1 xs.length d1) (.slice a2 ss.length d2) lo hi least i sum t' → (xs.length ≤ 4096 ∧ ss.length ≤ 4096 ∧ ∃ z : Int, slotAt t' 15 = .int .i64 z) → Code.wp Try.prog R (bodyPost Try.prog Try.f3 (LawEnd w0)) ⟨t', []⟩ w0) :
    Code.wp Try.prog c (bodyPost Try.prog Try.f3 (LawEnd w0)) ⟨t, []⟩ w0 := by
  have ec := Option.some.inj hc
  clear hc
  subst ec
  simp only [dropC, segC]
  have HN : Hid _ := hn
  clear hn
  rw [arr_open t hF.size, hF.s0, hF.s1, hF.s2, hF.s3, hF.s4, hF.s5, hF.s6]
  clear hF
  go_wp2_with fail
  refine (bytes_any _ _ _ _ _ _ _ _ _ _ _ _ hx hs).mono ?_
  rintro e w' ⟨⟨b1, rfl⟩, rfl⟩
  cases b1 with
  | false =>
    go_wp2
    go_ret
    exact ⟨rfl, Grow.refl _⟩
  | true =>
  by_cases nx : xs.length ≤ 4096
  case neg =>
    go_wp2
    go_ret
    exact ⟨rfl, Grow.refl _⟩
  by_cases ns : ss.length ≤ 4096
  case neg =>
    go_wp2
    go_ret
    exact ⟨rfl, Grow.refl _⟩
  go_wp2
  exact HN.out _ ⟨rfl, rfl, rfl, rfl, rfl, rfl, rfl, rfl⟩ ⟨nx, ns, _, rfl⟩

end Go.Proofs.Qxb6602155a
