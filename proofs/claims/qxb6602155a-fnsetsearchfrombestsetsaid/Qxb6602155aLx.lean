/-
  The walk of zzLexLess (12).
-/
import Derived.Test.Qxb6602155aSd
namespace Go.Proofs.Qxb6602155a
open Go.RowKit

theorem abv_start (d : Nat) : ∀ e, e ≤ d + 1 → abv d e = 0
  | 0, _ => rfl
  | e + 1, h => by unfold abv; rw [if_neg (by omega)]; exact abv_start d e (by omega)
theorem abv_lt (d e : Nat) (he : e ≤ 11) : abv d e < 2048 := by
  show abv d e < 2 ^ 11
  refine Nat.lt_pow_two_of_testBit _ (fun j hj => ?_)
  rw [abv_bit]; simp; omega
theorem abv_next {d e : Nat} (h : d < e) : abv d (e + 1) = abv d e ||| 2 ^ e := by conv => lhs; unfold abv
                                                                                   rw [if_pos h]

theorem masks_eq {m a b : Nat} (h : ∀ j, j < m → a.testBit j = b.testBit j) : maskOf m a = maskOf m b := by
  unfold maskOf
  refine List.map_congr_left fun i hi => h i (by simpa using hi)

theorem lex_bits {m a b d : Nat} (hd : d < m) (hall : ∀ j, j < d → a.testBit j = b.testBit j) (hne : a.testBit d ≠ b.testBit d) :
    lex (maskOf m a) (maskOf m b) = if a.testBit d = true then !decide ((b &&& abv d m) = 0) else decide ((a &&& abv d m) = 0) := by
  rw [lex_at d (maskOf m a) (maskOf m b) _ _ (maskOf_getElem? m a d hd) (maskOf_getElem? m b d hd) hne (fun j hj => by rw [maskOf_getElem? m a j (by omega), maskOf_getElem? m b j (by omega), hall j hj])]
  have h1 := and_abv_zero a d m
  have h2 := and_abv_zero b d m
  split
  · cases hq : ((maskOf m b).drop (d + 1)).any id
    · simp [h2.2 hq]
    · have : ¬ (b &&& abv d m) = 0 := fun e => by rw [h2.1 e] at hq; cases hq
      simp [this]
  · cases hq : ((maskOf m a).drop (d + 1)).any id
    · simp [h1.2 hq]
    · have : ¬ (a &&& abv d m) = 0 := fun e => by rw [h1.1 e] at hq; cases hq
      simp [this]

theorem and_small (a b : Nat) (ha : a < 2048) (hb : b < 2048) : bits .and .i64 (a : Int) (b : Int) = ((a &&& b : Nat) : Int) := bits_and_i64_nat a b (by omega) (by omega)

def RetLex (m a b : Nat) (w : World) (e : Ending) (w' : World) : Prop := e = .returned (.bool (lex (maskOf m a) (maskOf m b))) ∧ ∃ n, w' = w.drewN n

set_option maxRecDepth 100000 in
set_option maxHeartbeats 1600000 in
theorem lexLess_any (m a b : Nat) (hm : m ≤ 11) (ha : a < 2 ^ m) (hb : b < 2 ^ m) (w : World) :
    Calls Try.prog 12 #[.int .i64 a, .int .i64 b, .int .i64 m] w fun e w' => RetLex m a b w e w' := by
  have ha' := small_mask hm ha
  have hb' := small_mask hm hb
  clear ha hb
  go_enter Try.func12, Try.ntmps12
  go_wp2
  go_loopw [7] (fun i wr => ∃ d n : Nat, d ≤ m ∧ i = .int .i64 d ∧ wr = w.drewN n ∧ ∀ j, j < d → a.testBit j = b.testBit j) (fun i _ => m - (intOf i).toNat)
  case atStart => exact ⟨0, 0, by omega, rfl, rfl, fun j hj => by omega⟩
  case round =>
    obtain ⟨d, n, hd, rfl, rfl, hall⟩ := hrel
    have HA : Hid _ := hall
    clear hall
    by_cases hlt : d < m
    · have ba := bit_at a d (by omega)
      have bb := bit_at b d (by omega)
      by_cases heq : a.testBit d = b.testBit d
      · have he : (bits .and .i64 ((a : Int) / 2 ^ d) 1 == bits .and .i64 ((b : Int) / 2 ^ d) 1) = true := by rw [ba, bb, heq]; simp
        have HE : Hid _ := heq
        clear ba bb heq
        go_wp2_with fail
        go_quiet (fail)
        go_wp2
        go_roundw
        case rel => exact ⟨d + 1, n + nq, by omega, by go_num, rfl, fun j hj => by
          by_cases e : j = d
          · subst e; exact HE.out
          · exact HA.out j (by omega)⟩
        case measure => simp [intOf]; omega
      · have he : (bits .and .i64 ((a : Int) / 2 ^ d) 1 == bits .and .i64 ((b : Int) / 2 ^ d) 1) = false := by
          rw [ba, bb]; cases h1 : a.testBit d <;> cases h2 : b.testBit d <;> simp_all
        have hL := lex_bits hlt HA.out heq
        have HL : Hid _ := hL
        have BA : Hid _ := ba
        clear hL ba bb heq
        go_wp2_with fail
        go_quiet (fail)
        go_wp2
        clear he
        go_loop [8, 9] (fun t i => ∃ e : Nat, d < e ∧ e ≤ m ∧ i = .int .i64 e ∧ t = .int .i64 (abv d e)) (fun _ i => m - (intOf i).toNat)
        case atStart => exact ⟨d + 1, by omega, by omega, by go_num, by rw [abv_start d (d + 1) (by omega)]; rfl⟩
        case round =>
          obtain ⟨e, hde, hem, rfl, rfl⟩ := hrel
          by_cases hlte : e < m
          · have hor : bits .or .i64 (abv d e : Int) (2 ^ e) = (abv d (e + 1) : Int) := by
              have := bits_or_i64_nat (abv d e) (2 ^ e) (by have := abv_lt d e (by omega); omega) (by have := small_mask (m := e + 1) (a := 2 ^ e) (by omega) (by rw [Nat.pow_succ]; have := Nat.two_pow_pos e; omega); omega)
              rw [abv_next hde, ← this]
              simp
            have hw : IntKind.i64.wrap ((2 : Int) ^ e) = 2 ^ e := by
              have h2 := small_mask (m := e + 1) (a := 2 ^ e) (by omega) (by rw [Nat.pow_succ]; have := Nat.two_pow_pos e; omega)
              have h3 : ((2 : Int) ^ e) = ((2 ^ e : Nat) : Int) := by simp
              rw [h3]
              generalize (2 ^ e : Nat) = P at *
              rw [IntKind.wrap_i64]
              omega
            go_wp2
            go_round
            case rel => exact ⟨e + 1, by omega, by omega, by go_num, by simp⟩
            case measure => simp [intOf]; omega
          · obtain rfl : e = m := by omega
            have hA := abv_lt d e hm
            have la := and_small a _ ha' hA
            have lb := and_small b _ hb' hA
            have hL := HL.out
            have ba := BA.out
            clear HL BA hA
            generalize abv d e = A at *
            cases hq : a.testBit d with
            | true =>
              rw [hq] at hL ba
              simp only [if_true] at hL ba
              have hx : (bits .and .i64 ((a : Int) / 2 ^ d) 1 == 1) = true := by rw [ba]; rfl
              have hy : (bits .and .i64 (b : Int) (A : Int) != 0) = !decide ((b &&& A) = 0) := by
                rw [lb]; by_cases h0 : (b &&& A) = 0
                · simp [h0]
                · have : ¬ (((b &&& A : Nat)) : Int) = 0 := by omega
                  simp [h0]
              have HL : Hid _ := hL
              clear la lb hL
              go_wp2
              go_ret
              exact ⟨by rw [HL.out]; rfl, _, rfl⟩
            | false =>
              rw [hq] at hL ba
              simp only [Bool.false_eq_true, if_false] at hL ba
              have hx : (bits .and .i64 ((a : Int) / 2 ^ d) 1 == 1) = false := by rw [ba]; rfl
              have hy : (bits .and .i64 (a : Int) (A : Int) == 0) = decide ((a &&& A) = 0) := by
                rw [la]; by_cases h0 : (a &&& A) = 0
                · simp [h0]
                · have : ¬ (((a &&& A : Nat)) : Int) = 0 := by omega
                  simp [h0]
              have HL : Hid _ := hL
              clear la lb hL
              go_wp2
              go_ret
              exact ⟨by rw [HL.out]; rfl, _, rfl⟩
    · obtain rfl : d = m := by omega
      have hmm := masks_eq HA.out
      go_wp2_with fail
      go_quiet (fail)
      go_wp2
      go_ret
      exact ⟨by rw [hmm, lex_refl]; rfl, _, rfl⟩

end Go.Proofs.Qxb6602155a
