/-
  The law (3): statements 36 to 42.
-/
import Derived.Test.Qxb6602155aLj
import Derived.Test.Qxb6602155aHs
import Derived.Test.Qxb6602155aLx
namespace Go.Proofs.Qxb6602155a
open Go.RowKit

/-- What the search and the brute force have in common at the end. -/
def Agree (xs ss : List It) (i m : Nat) (s : St) (h b tt : Value) : Prop :=
  (h = .bool false ∧ s.found = false) ∨ ∃ c : Nat, h = .bool true ∧ b = .int .i64 c ∧ tt = .int .i64 s.sum ∧ s.found = true ∧ c < 2 ^ m ∧ s.best = ss ++ pick (xs.drop i) (maskOf m c)

set_option maxRecDepth 100000 in
set_option maxHeartbeats 8000000 in
theorem secF36 (R c : Code) (hc : segOf 36 4 R Try.f3.body = some c) (w0 w : World) (c1 c2 : Option Addr) (xs ss : List It) (lo hi sum : Int) (i : Nat) (least : Bool) (ib rb : Nat) (ba na : Option Addr) (bc nc : Nat) (s : St) (t : Array Value)
    (hF : Fr (.slice c1 xs.length xs.length) (.slice c2 ss.length ss.length) lo hi least i sum t) (hL : Sl xs.length ib rb ba na bc nc s ss.length t) (hM : Mem w0 w xs ss c1 c2 ib rb ba na s) (_nx : xs.length ≤ 4096) (_ns : ss.length ≤ 4096) (m : Nat) (hm : m ≤ 11) (h b tt : Value) (hB : BF m h b tt t) (hA : Agree xs ss i m s h b tt) (hst : s.steps + 1 ≤ 2 ^ (m + 1))
    (hn : ∀ t' w' (c : Nat), Fr (.slice c1 xs.length xs.length) (.slice c2 ss.length ss.length) lo hi least i sum t' → Sl xs.length ib rb ba na bc nc s ss.length t' → BF m (.bool true) (.int .i64 c) (.int .i64 s.sum) t' → c < 2 ^ m → s.best = ss ++ pick (xs.drop i) (maskOf m c) → Mem w0 w' xs ss c1 c2 ib rb ba na s → Code.wp Try.prog R (bodyPost Try.prog Try.f3 (LawEnd w0)) ⟨t', []⟩ w') :
    Code.wp Try.prog c (bodyPost Try.prog Try.f3 (LawEnd w0)) ⟨t, []⟩ w := by
  have ec := Option.some.inj hc
  clear hc
  subst ec
  simp only [dropC, segC]
  have HN : Hid _ := hn
  clear hn
  rw [arr_open t hF.size, hF.s0, hF.s1, hF.s2, hF.s3, hF.s4, hF.s5, hF.s6, hL.s19, hL.s20, hL.s24, hL.s26, hL.s27, hL.s28, hL.s29, hL.s30, hB.s41, hB.s42, hB.s43, hB.s44]
  clear hF hL hB
  have HM : Hid _ := hM
  clear hM
  have hpow : (2 ^ (m + 1) : Nat) ≤ 4096 := (Nat.pow_le_pow_right (by omega) (by omega) : 2 ^ (m + 1) ≤ 2 ^ 12)
  have hpe : ((2 ^ (m + 1) : Nat) : Int) = (2 : Int) ^ (m + 1) := by simp
  have hwm : IntKind.i64.wrap ((m : Int) + 1) = (m : Int) + 1 := by rw [IntKind.wrap_i64]; omega
  have hw1 : IntKind.i64.wrap ((2 : Int) ^ (m + 1)) = (2 : Int) ^ (m + 1) := by rw [← hpe]; generalize (2 ^ (m + 1) : Nat) = P at *; rw [IntKind.wrap_i64]; omega
  have hw2 : IntKind.i64.wrap ((2 : Int) ^ (m + 1) - 1) = (2 : Int) ^ (m + 1) - 1 := by rw [← hpe]; generalize (2 ^ (m + 1) : Nat) = P at *; rw [IntKind.wrap_i64]; omega
  have hd1 : decide ((2 : Int) ^ (m + 1) - 1 < (s.steps : Int)) = false := by rw [← hpe]; generalize (2 ^ (m + 1) : Nat) = P at *; exact decide_eq_false (by omega)
  clear hpow hpe
  have HST : Hid _ := hst
  clear hst
  rcases hA with ⟨rfl, hf⟩ | ⟨c, rfl, rfl, rfl, hf, hc, hbest⟩
  · rw [hf]
    clear hf
    go_wp2
    go_ret
    exact ⟨rfl, HM.out.grow⟩
  · have HF : Hid _ := hf
    have HC : Hid _ := hc
    have HB : Hid _ := hbest
    rw [hf]
    clear hf hc hbest
    go_wp2
    exact HN.out _ _ c ⟨rfl, rfl, rfl, rfl, rfl, rfl, rfl, rfl⟩ ⟨rfl, rfl, rfl, rfl, rfl, by rw [HF.out]; rfl, rfl, rfl⟩ ⟨rfl, rfl, rfl, rfl⟩ HC.out HB.out HM.out

set_option maxRecDepth 100000 in
set_option maxHeartbeats 8000000 in
theorem secF40 (R c : Code) (hc : segOf 40 3 R Try.f3.body = some c) (w0 w : World) (c1 c2 : Option Addr) (xs ss : List It) (lo hi sum : Int) (i : Nat) (least : Bool) (ib rb : Nat) (ba na : Option Addr) (bc nc : Nat) (s : St) (t : Array Value)
    (hF : Fr (.slice c1 xs.length xs.length) (.slice c2 ss.length ss.length) lo hi least i sum t) (hL : Sl xs.length ib rb ba na bc nc s ss.length t) (hM : Mem w0 w xs ss c1 c2 ib rb ba na s) (_nx : xs.length ≤ 4096) (ns : ss.length ≤ 4096) (m cm : Nat) (hm : m ≤ 11) (him : (xs.drop i).length = m) (hB : BF m (.bool true) (.int .i64 cm) (.int .i64 s.sum) t) (hcm : cm < 2 ^ m) (hbest : s.best = ss ++ pick (xs.drop i) (maskOf m cm))
    (hn : ∀ t' w', Fr (.slice c1 xs.length xs.length) (.slice c2 ss.length ss.length) lo hi least i sum t' → Sl xs.length ib rb ba na bc nc s ss.length t' → BF m (.bool true) (.int .i64 cm) (.int .i64 s.sum) t' → Mem w0 w' xs ss c1 c2 ib rb ba na s → Code.wp Try.prog R (bodyPost Try.prog Try.f3 (LawEnd w0)) ⟨t', []⟩ w') :
    Code.wp Try.prog c (bodyPost Try.prog Try.f3 (LawEnd w0)) ⟨t, []⟩ w := by
  have ec := Option.some.inj hc
  clear hc
  subst ec
  simp only [dropC, segC]
  have HN : Hid _ := hn
  clear hn
  rw [arr_open t hF.size, hF.s0, hF.s1, hF.s2, hF.s3, hF.s4, hF.s5, hF.s6, hL.s19, hL.s20, hL.s24, hL.s26, hL.s27, hL.s28, hL.s29, hL.s30, hB.s41, hB.s42, hB.s43, hB.s44]
  clear hF hL hB
  have HM : Hid _ := hM
  have hc' := small_mask hm hcm
  have hbl : s.best.length = ss.length + cntOf (xs.drop i) cm m := by rw [hbest, List.length_append, ← him, cnt_all]
  have HBL : Hid _ := hbl
  have HIM : Hid _ := him
  clear hM hcm hbest hbl him
  go_wp2
  go_loop [51, 52] (fun n b => ∃ b' : Nat, b' ≤ m ∧ n = .int .i64 (cntOf (xs.drop i) cm b') ∧ b = .int .i64 b') (fun _ b => m - (intOf b).toNat)
  case atStart => exact ⟨0, Nat.zero_le _, by rw [cnt_zero]; rfl, rfl⟩
  case round =>
    obtain ⟨b', hb', rfl, rfl⟩ := hrel
    have hle := cnt_le (l := xs.drop i) (M := cm) (b := b')
    by_cases hlt : b' < m
    · have ba := bit_at cm b' (by omega)
      have hltl : b' < (xs.drop i).length := by rw [HIM.out]; exact hlt
      cases hbit : cm.testBit b' with
      | false =>
        rw [hbit] at ba
        have hx : (bits .and .i64 ((cm : Int) / 2 ^ b') 1 == 1) = false := by rw [ba]; rfl
        have hn := cnt_no hltl hbit
        have HNn : Hid _ := hn
        clear ba hbit hn hltl
        go_wp2
        go_round
        case rel => exact ⟨b' + 1, by omega, by rw [HNn.out], by go_num⟩
        case measure => simp [intOf]; omega
      | true =>
        rw [hbit] at ba
        have hx : (bits .and .i64 ((cm : Int) / 2 ^ b') 1 == 1) = true := by rw [ba]; rfl
        have hn := cnt_yes hltl hbit
        have HNn : Hid _ := hn
        clear ba hbit hn hltl
        generalize cntOf (xs.drop i) cm b' = q at *
        go_wp2
        go_round
        case rel => exact ⟨b' + 1, by omega, by rw [HNn.out]; go_num, by go_num⟩
        case measure => simp [intOf]; omega
    · obtain rfl : b' = m := by omega
      have hq := HBL.out
      clear HBL
      generalize cntOf (xs.drop i) cm b' = q at *
      have HQ : Hid _ := hq
      have hb1 : ((s.best.length : Int) != (ss.length : Int) + (q : Int)) = false := by rw [hq]; simp
      have hb2 : (s.best.length == ss.length + q) = true := by rw [hq]; simp
      clear hq
      go_wp2
      exact HN.out _ _ ⟨rfl, rfl, rfl, rfl, rfl, rfl, rfl, rfl⟩ ⟨rfl, rfl, rfl, rfl, rfl, rfl, rfl, rfl⟩ ⟨rfl, rfl, rfl, rfl⟩ HM.out

end Go.Proofs.Qxb6602155a
