/-
  The law (3): statements 29 to 34.
-/
import Derived.Test.Qxb6602155aLe
import Derived.Test.Qxb6602155aPi
import Derived.Test.Qxb6602155aHs
import Derived.Test.Qxb6602155aLx
namespace Go.Proofs.Qxb6602155a
open Go.RowKit

/-- The brute force's cells. -/
structure BF (m : Nat) (h b tt : Value) (t : Array Value) : Prop where
  s41 : slotAt t 41 = .int .i64 m
  s42 : slotAt t 42 = h
  s43 : slotAt t 43 = b
  s44 : slotAt t 44 = tt

set_option maxRecDepth 100000 in
set_option maxHeartbeats 8000000 in
theorem secE29 (R c : Code) (hc : segOf 29 1 R Try.f3.body = some c) (w0 w : World) (c1 c2 : Option Addr) (xs ss : List It) (lo hi sum : Int) (i : Nat) (least : Bool) (ib rb : Nat) (ba na : Option Addr) (bc nc : Nat) (s : St) (t : Array Value)
    (hF : Fr (.slice c1 xs.length xs.length) (.slice c2 ss.length ss.length) lo hi least i sum t) (hL : Sl xs.length ib rb ba na bc nc s ss.length t) (hM : Mem w0 w xs ss c1 c2 ib rb ba na s) (_nx : xs.length ≤ 4096) (_ns : ss.length ≤ 4096) (h1 : lo ≤ sum → sum ≤ hi → s.found = true ∧ (least = true → s.sum = sum ∧ s.best.length = ss.length ∧ s.steps = 1))
    (hn : ∀ t' w', Fr (.slice c1 xs.length xs.length) (.slice c2 ss.length ss.length) lo hi least i sum t' → Sl xs.length ib rb ba na bc nc s ss.length t' → Mem w0 w' xs ss c1 c2 ib rb ba na s → Code.wp Try.prog R (bodyPost Try.prog Try.f3 (LawEnd w0)) ⟨t', []⟩ w') :
    Code.wp Try.prog c (bodyPost Try.prog Try.f3 (LawEnd w0)) ⟨t, []⟩ w := by
  have ec := Option.some.inj hc
  clear hc
  subst ec
  simp only [dropC, segC]
  have HN : Hid _ := hn
  clear hn
  have HM : Hid _ := hM
  clear hM
  by_cases a1 : lo ≤ sum
  · by_cases a2 : sum ≤ hi
    · obtain ⟨hf, hl⟩ := h1 a1 a2
      rw [arr_open t hF.size, hF.s0, hF.s1, hF.s2, hF.s3, hF.s4, hF.s5, hF.s6, hL.s19, hL.s20, hL.s24, hL.s26, hL.s27, hL.s28, hL.s29, hL.s30]
      clear hF hL h1
      cases least with
      | false =>
        have HF : Hid _ := hf
        rw [hf]
        clear hf hl
        go_wp2
        exact HN.out _ _ ⟨rfl, rfl, rfl, rfl, rfl, rfl, rfl, rfl⟩ ⟨rfl, rfl, rfl, rfl, rfl, by rw [HF.out]; rfl, rfl, rfl⟩ HM.out
      | true =>
        obtain ⟨e1, e2, e3⟩ := hl rfl
        have HF : Hid _ := hf
        have H1 : Hid _ := e1
        have H2 : Hid _ := e2
        have H3 : Hid _ := e3
        rw [hf, e1, e2, e3]
        clear hf hl e1 e2 e3
        go_wp2
        exact HN.out _ _ ⟨rfl, rfl, rfl, rfl, rfl, rfl, rfl, rfl⟩ ⟨rfl, rfl, rfl, by rw [H2.out]; rfl, by rw [H1.out]; rfl, by rw [HF.out]; rfl, by rw [H3.out]; rfl, rfl⟩ HM.out
    · rw [arr_open t hF.size, hF.s0, hF.s1, hF.s2, hF.s3, hF.s4, hF.s5, hF.s6, hL.s19, hL.s20, hL.s24, hL.s26, hL.s27, hL.s28, hL.s29, hL.s30]
      clear hF hL h1
      go_wp2
      exact HN.out _ _ ⟨rfl, rfl, rfl, rfl, rfl, rfl, rfl, rfl⟩ ⟨rfl, rfl, rfl, rfl, rfl, rfl, rfl, rfl⟩ HM.out
  · rw [arr_open t hF.size, hF.s0, hF.s1, hF.s2, hF.s3, hF.s4, hF.s5, hF.s6, hL.s19, hL.s20, hL.s24, hL.s26, hL.s27, hL.s28, hL.s29, hL.s30]
    clear hF hL h1
    go_wp2
    exact HN.out _ _ ⟨rfl, rfl, rfl, rfl, rfl, rfl, rfl, rfl⟩ ⟨rfl, rfl, rfl, rfl, rfl, rfl, rfl, rfl⟩ HM.out

set_option maxRecDepth 100000 in
set_option maxHeartbeats 8000000 in
theorem secE30 (R c : Code) (hc : segOf 30 5 R Try.f3.body = some c) (w0 w : World) (c1 c2 : Option Addr) (xs ss : List It) (lo hi sum : Int) (i : Nat) (least : Bool) (ib rb : Nat) (ba na : Option Addr) (bc nc : Nat) (s : St) (t : Array Value)
    (hF : Fr (.slice c1 xs.length xs.length) (.slice c2 ss.length ss.length) lo hi least i sum t) (hL : Sl xs.length ib rb ba na bc nc s ss.length t) (hM : Mem w0 w xs ss c1 c2 ib rb ba na s) (nx : xs.length ≤ 4096) (_ns : ss.length ≤ 4096) (m : Nat) (him : i + m = xs.length)
    (hn : m ≤ 11 → ∀ t' w', Fr (.slice c1 xs.length xs.length) (.slice c2 ss.length ss.length) lo hi least i sum t' → Sl xs.length ib rb ba na bc nc s ss.length t' → BF m (.bool false) (.int .i64 0) (.int .i64 0) t' → Mem w0 w' xs ss c1 c2 ib rb ba na s → Code.wp Try.prog R (bodyPost Try.prog Try.f3 (LawEnd w0)) ⟨t', []⟩ w') :
    Code.wp Try.prog c (bodyPost Try.prog Try.f3 (LawEnd w0)) ⟨t, []⟩ w := by
  have ec := Option.some.inj hc
  clear hc
  subst ec
  simp only [dropC, segC]
  have HN : Hid _ := hn
  clear hn
  rw [arr_open t hF.size, hF.s0, hF.s1, hF.s2, hF.s3, hF.s4, hF.s5, hF.s6, hL.s19, hL.s20, hL.s24, hL.s26, hL.s27, hL.s28, hL.s29, hL.s30]
  clear hF hL
  have hm1 : (xs.length : Int) - (i : Int) = (m : Int) := by omega
  have hw1 : IntKind.i64.wrap ((xs.length : Int) - (i : Int)) = (m : Int) := by rw [IntKind.wrap_i64]; omega
  have HM : Hid _ := hM
  clear hM
  by_cases h11 : m ≤ 11
  · go_wp2
    exact HN.out h11 _ _ ⟨rfl, rfl, rfl, rfl, rfl, rfl, rfl, rfl⟩ ⟨rfl, rfl, rfl, rfl, rfl, rfl, rfl, rfl⟩ ⟨rfl, rfl, rfl, rfl⟩ HM.out
  · go_wp2
    go_ret
    exact ⟨rfl, HM.out.grow⟩

end Go.Proofs.Qxb6602155a
