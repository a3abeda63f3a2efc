/-
  The walk of FnHolderEndMatchesBackwardScan (3).
-/
import Derived.Test.Qxb6601545aEnt
namespace Go.Proofs.Qxb6601545a
open Go.RowKit

/-- What the walks are told of the lots. -/
structure LotsArg (w : World) (a : Option Addr) (n : Nat) (hs : Nat → ByteArray) (cs ds ks : Nat → Int) (rs : Nat → Bool) : Prop where
  nil : a = none → n = 0
  lots : n = 0 ∨ ∃ b o, a = some ⟨b, o, none⟩ ∧ Lots w b o n hs cs ds ks rs

theorem LotsArg.holders {w : World} {a : Option Addr} {n : Nat} {hs : Nat → ByteArray} {cs ds ks : Nat → Int} {rs : Nat → Bool} (h : LotsArg w a n hs cs ds ks rs) : Holders w a n hs := by
  rcases h.lots with h0 | ⟨b, o, rfl, hl⟩
  · exact .inl h0
  · exact .inr ⟨b, o, rfl, hl.h⟩

theorem Holders.later {w w' : World} {a : Option Addr} {n : Nat} {hs : Nat → ByteArray} (h : Holders w a n hs) (hb : Below w.heap.size w w') : Holders w' a n hs := by
  rcases h with h0 | ⟨b, o, rfl, hl⟩
  · exact .inl h0
  · refine .inr ⟨b, o, rfl, fun i hi => ?_⟩
    rw [hb.cell (World.block_lt_of_cell? w _ (hl i hi))]
    exact hl i hi

/-- One step of the scan from the back. -/
theorem IsEnd.back_no {hs : Nat → ByteArray} {n : Nat} {h : ByteArray} {k : Nat} (hk : k < n) (hne : ¬ hs k = h) : IsEnd hs n h k k :=
  ⟨Nat.le_refl _, .inl (Nat.le_of_lt hk), fun j h1 h2 => by omega, fun _ => hne⟩
theorem IsEnd.back_yes {hs : Nat → ByteArray} {n : Nat} {h : ByteArray} {k r : Nat} (e : IsEnd hs n h (k + 1) r) (hk : k < n) (he : hs k = h) : IsEnd hs n h k r := by
  refine ⟨by have := e.lo; omega, .inl (by have := e.hi; omega), fun j h1 h2 => ?_, e.stop⟩
  by_cases hj : j = k
  · rw [hj]; exact he
  · exact e.run j (by omega) h2
theorem IsEnd.at_end (hs : Nat → ByteArray) (n : Nat) (h : ByteArray) : IsEnd hs n h n n :=
  ⟨Nat.le_refl _, .inl (Nat.le_refl _), fun j h1 h2 => by omega, fun hn => absurd hn (Nat.lt_irrefl _)⟩
theorem IsEnd.past {hs : Nat → ByteArray} {n : Nat} {h : ByteArray} {k r : Nat} (e : IsEnd hs n h k r) (hk : n ≤ k) : r = k := by
  have := e.lo; have := e.hi; omega

set_option maxRecDepth 100000 in
set_option maxHeartbeats 800000 in
theorem scan_any (a : Option Addr) (n cap : Nat) (first : Int) (h : ByteArray) (hs : Nat → ByteArray) (cs ds ks : Nat → Int) (rs : Nat → Bool) (w : World)
    (hL : LotsArg w a n hs cs ds ks rs) :
    Calls Try.prog 3 #[.slice a n cap, .int .i64 first, .string h] w fun e w' => e = .returned (.bool true) ∧ Below w.heap.size w w' := by
  go_enter Try.func3, Try.ntmps3
  go_wp2_with (go_at_call 6; refine (zzBytes_A _ _ _ _ _ hs _ hL.holders).mono ?_; rintro e w' ⟨⟨b1, rfl⟩, rfl⟩)
  · go_ret
    exact ⟨rfl, Below.refl _ _⟩
  cases b1 with
  | false => contradiction
  | true =>
  refine (lotsTooBig_any _ _ _ _ hs _ hL.holders).mono ?_
  rintro e w' ⟨⟨b2, hb2, rfl⟩, rfl⟩
  cases b2 with
  | true =>
    go_wp2
    go_ret
    exact ⟨rfl, Below.refl _ _⟩
  | false =>
    have hn := hb2 rfl
    clear hb2
    by_cases hf : first < 0
    · go_wp2
      go_ret
      exact ⟨rfl, Below.refl _ _⟩
    · obtain ⟨f, rfl⟩ := Int.eq_ofNat_of_zero_le (Int.not_lt.1 hf)
      go_wp2_with fail
      refine (toEntries_any _ _ _ hs cs ds ks rs _ hn hL.nil hL.lots).mono ?_
      rintro e w1 ⟨⟨a1, hh1, hz1, rfl⟩, hbel⟩
      go_wp2_with fail
      refine (ZZHolderEnd_any _ _ _ _ _ hs _ (by omega) hh1).mono ?_
      rintro e w' ⟨⟨r, hr, rfl⟩, rfl⟩
      have HR : Hid (IsEnd hs n h f r) := hr
      have hH := hL.holders.later hbel
      clear hr hL hh1 hz1
      by_cases hfn : f < n
      · go_wp2
        go_loop [9, 10] (fun t i => ∃ k r' : Nat, f ≤ k ∧ k ≤ n ∧ IsEnd hs n h k r' ∧ t = .int .i64 r' ∧ i = .int .i64 (k - 1)) (fun _ i => (intOf i + 1).toNat)
        case atStart => exact ⟨n, n, by omega, by omega, IsEnd.at_end _ _ _, rfl, rfl⟩
        case round =>
          obtain ⟨k, r', hk, hkn, hr', rfl, rfl⟩ := hrel
          have HR' : Hid (IsEnd hs n h k r') := hr'
          clear hr'
          by_cases hlt : f < k
          · obtain ⟨k, rfl⟩ : ∃ j, k = j + 1 := ⟨k - 1, by omega⟩
            rcases hH with hH | ⟨b, o, rfl, hH⟩
            · omega
            have hcell := hH k (by omega)
            clear hH
            have e1 : ((k + 1 : Nat) : Int) - 1 = (k : Int) := by omega
            rw [e1]
            clear e1
            by_cases he : hs k = h
            · have hb := beqL_true he
              have HE : Hid (hs k = h) := he
              clear he
              go_wp2
              go_round
              case rel => exact ⟨k, r', by omega, by omega, HR'.out.back_yes (by omega) HE.out, rfl, rfl⟩
              case measure => simp [intOf]
            · have hb := beqL_false he
              go_wp2
              go_round
              case rel => exact ⟨k, k, by omega, by omega, IsEnd.back_no (by omega) he, rfl, rfl⟩
              case measure => simp [intOf]
          · obtain rfl : k = f := by omega
            have hrr := HR.out.uniq HR'.out
            subst hrr
            go_wp2
            go_ret
            exact ⟨by simp, hbel⟩
      · have hrf := HR.out.past (by omega)
        subst hrf
        go_wp2
        go_ret
        exact ⟨by simp, hbel⟩

end Go.Proofs.Qxb6601545a
