/-
  The walks of FnHolderEndIsStable (4) and FnHolderEndUnderTruncation (5).
-/
import Derived.Test.Qxb6601545aScan
namespace Go.Proofs.Qxb6601545a
open Go.RowKit

theorem IsEnd.inside {hs : Nat → ByteArray} {n : Nat} {h : ByteArray} {f m r : Nat} (e : IsEnd hs n h f r) (h1 : f ≤ m) (h2 : m ≤ r) : IsEnd hs n h m r := by
  refine ⟨h2, ?_, fun k a b => e.run k (by omega) b, e.stop⟩
  have := e.hi
  have := e.lo
  omega

theorem mid_fits (f r : Nat) (h : f ≤ r) : ∃ m : Nat, (f : Int) + ((r : Int) - f) / 2 = m ∧ f ≤ m ∧ m ≤ r := ⟨f + (r - f) / 2, by omega, by omega, by omega⟩

set_option maxRecDepth 100000 in
set_option maxHeartbeats 800000 in
theorem stab_any (a : Option Addr) (n cap : Nat) (first : Int) (h : ByteArray) (hs : Nat → ByteArray) (cs ds ks : Nat → Int) (rs : Nat → Bool) (w : World)
    (hL : LotsArg w a n hs cs ds ks rs) (hmax : first ≤ 9223372036854775807) :
    Calls Try.prog 4 #[.slice a n cap, .int .i64 first, .string h] w fun e w' => e = .returned (.bool true) ∧ Below w.heap.size w w' := by
  go_enter Try.func4, Try.ntmps4
  go_wp2_with (go_at_call 10; refine (zzBytes_B _ _ _ _ _ hs _ hL.holders).mono ?_; rintro e w' ⟨⟨b1, rfl⟩, rfl⟩)
  · go_ret
    exact ⟨rfl, Below.refl _ _⟩
  cases b1 with
  | false => contradiction
  | true =>
  refine (lotsTooBig_any _ _ _ _ hs _ hL.holders).mono ?_
  rintro e w' ⟨⟨b2, hb2, rfl⟩, rfl⟩
  cases b2 with
  | true =>
    go_wp2
    go_ret
    exact ⟨rfl, Below.refl _ _⟩
  | false =>
    have hn := hb2 rfl
    clear hb2
    by_cases hf : first < 0
    · go_wp2
      go_ret
      exact ⟨rfl, Below.refl _ _⟩
    · obtain ⟨f, rfl⟩ := Int.eq_ofNat_of_zero_le (Int.not_lt.1 hf)
      go_wp2_with fail
      refine (toEntries_any _ _ _ hs cs ds ks rs _ hn hL.nil hL.lots).mono ?_
      rintro e w1 ⟨⟨a1, hh1, hz1, rfl⟩, hbel⟩
      go_wp2_with fail
      refine (ZZHolderEnd_any _ _ _ _ _ hs _ (by omega) hh1).mono ?_
      rintro e w' ⟨⟨r, hr, rfl⟩, rfl⟩
      have HR : Hid (IsEnd hs n h f r) := hr
      have hH := hL.holders.later hbel
      have hlo := hr.lo
      have hhi := hr.hi
      have hrmax : (r : Int) ≤ 9223372036854775807 := by omega
      have HH1 : Hid (Holders _ a1 n hs) := hh1
      clear hr hL hz1 hh1
      have fin : f < n ∧ r ≤ n ∨ ¬ f < n ∧ r ≤ f := by omega
      rcases fin with ⟨hfn, hrn⟩ | ⟨hfn, hrn⟩
      all_goals
        go_wp2
        go_loop [9] (fun i => ∃ k : Nat, f ≤ k ∧ k ≤ r ∧ i = .int .i64 k) (fun i => r - (intOf i).toNat)
        case atStart => exact ⟨f, by omega, by omega, rfl⟩
        case round =>
          obtain ⟨k, hk, hkr, rfl⟩ := hrel
          by_cases hlt : k < r
          · first
              | (exfalso; omega)
              | (rcases hH with hH | ⟨b, o, rfl, hH⟩
                 · omega
                 have hcell := hH k (by omega)
                 have hb := beqL_true (HR.out.run k hk hlt)
                 clear hH
                 go_wp2
                 go_round
                 case rel => exact ⟨k + 1, by omega, by omega, by go_num⟩
                 case measure => simp [intOf]; omega)
          · go_wp2_with fail
            refine (ZZHolderEnd_any _ _ _ _ _ hs _ (by omega) HH1.out).mono ?_
            rintro e w' ⟨⟨r2, hr2, rfl⟩, rfl⟩
            obtain rfl := hr2.uniq (HR.out.inside hlo (Nat.le_refl _))
            clear hr2
            go_wp2_with fail
            obtain ⟨m, hm, hm1, hm2⟩ := mid_fits f r2 hlo
            rw [hm]
            refine (ZZHolderEnd_any _ _ _ _ _ hs _ (by omega) HH1.out).mono ?_
            rintro e w' ⟨⟨r3, hr3, rfl⟩, rfl⟩
            obtain rfl := hr3.uniq (HR.out.inside hm1 hm2)
            clear hr3 hm
            go_wp2
            go_ret
            exact ⟨by simp, hbel⟩

end Go.Proofs.Qxb6601545a
