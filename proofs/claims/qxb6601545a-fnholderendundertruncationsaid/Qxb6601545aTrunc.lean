/-
  The walk of FnHolderEndUnderTruncation (5).
-/
import Derived.Test.Qxb6601545aScan
namespace Go.Proofs.Qxb6601545a
open Go.RowKit

theorem Holders.cut {w : World} {a : Option Addr} {n m : Nat} {hs : Nat → ByteArray} (h : Holders w a n hs) (hm : m ≤ n) : Holders w a m hs := by
  rcases h with h0 | ⟨b, o, rfl, hl⟩
  · exact .inl (by omega)
  · exact .inr ⟨b, o, rfl, fun i hi => hl i (by omega)⟩

/-- The end over the first m lots. -/
theorem IsEnd.cut {hs : Nat → ByteArray} {n m : Nat} {h : ByteArray} {f r g : Nat} (e : IsEnd hs n h f r) (c : IsEnd hs m h f g) (hm : m ≤ n) (hf : f < m) : g = if m < r then m else r := by
  have a1 := e.lo; have a2 := e.hi; have b1 := c.lo; have b2 := c.hi
  split
  · rename_i hlt
    rcases Nat.lt_or_ge g m with hg | hg
    · exact absurd (e.run g b1 (by omega)) (c.stop hg)
    · omega
  · rename_i hge
    rcases Nat.lt_trichotomy g r with hg | hg | hg
    · exact absurd (e.run g b1 hg) (c.stop (by omega))
    · exact hg
    · exact absurd (c.run r a1 hg) (e.stop (by omega))

set_option maxRecDepth 100000 in
set_option maxHeartbeats 800000 in
theorem trunc_any (a : Option Addr) (n cap : Nat) (first m : Int) (h : ByteArray) (hs : Nat → ByteArray) (cs ds ks : Nat → Int) (rs : Nat → Bool) (w : World)
    (hL : LotsArg w a n hs cs ds ks rs) :
    Calls Try.prog 5 #[.slice a n cap, .int .i64 first, .int .i64 m, .string h] w fun e w' => e = .returned (.bool true) ∧ Below w.heap.size w w' := by
  go_enter Try.func5, Try.ntmps5
  go_wp2_with (go_at_call 11; refine (zzBytes_C _ _ _ _ _ _ hs _ hL.holders).mono ?_; rintro e w' ⟨⟨b1, rfl⟩, rfl⟩)
  · go_ret
    exact ⟨rfl, Below.refl _ _⟩
  cases b1 with
  | false => contradiction
  | true =>
  refine (lotsTooBig_any _ _ _ _ hs _ hL.holders).mono ?_
  rintro e w' ⟨⟨b2, hb2, rfl⟩, rfl⟩
  cases b2 with
  | true =>
    go_wp2
    go_ret
    exact ⟨rfl, Below.refl _ _⟩
  | false =>
    have hn := hb2 rfl
    clear hb2
    by_cases hf : first < 0
    · go_wp2
      go_ret
      exact ⟨rfl, Below.refl _ _⟩
    by_cases hm0 : m < 0
    · go_wp2
      go_ret
      exact ⟨rfl, Below.refl _ _⟩
    by_cases hmn : (n : Int) < m
    · go_wp2
      go_ret
      exact ⟨rfl, Below.refl _ _⟩
    obtain ⟨f, rfl⟩ := Int.eq_ofNat_of_zero_le (Int.not_lt.1 hf)
    obtain ⟨m, rfl⟩ := Int.eq_ofNat_of_zero_le (Int.not_lt.1 hm0)
    have hmn' : m ≤ n := by omega
    go_wp2_with fail
    refine (toEntries_any _ _ _ hs cs ds ks rs _ hn hL.nil hL.lots).mono ?_
    rintro e w1 ⟨⟨a1, hh1, hz1, rfl⟩, hbel⟩
    go_wp2_with fail
    refine (ZZHolderEnd_any _ _ _ _ _ hs _ (by omega) hh1).mono ?_
    rintro e w' ⟨⟨r, hr, rfl⟩, rfl⟩
    have HR : Hid (IsEnd hs n h f r) := hr
    have HH1 : Hid (Holders _ a1 n hs) := hh1
    clear hr hL hh1
    have hlen : (m : Int) ≤ (n : Int) := by omega
    have hpos : (0 : Int) ≤ (m : Int) := by omega
    go_wp2_with fail
    refine (ZZHolderEnd_any _ _ _ _ _ hs _ (by omega) (HH1.out.cut hmn')).mono ?_
    rintro e w' ⟨⟨g, hg, rfl⟩, rfl⟩
    by_cases hfm : f < m
    · have hgr := HR.out.cut hg hmn' hfm
      clear hg
      by_cases hmr : m < r
      · rw [if_pos hmr] at hgr
        subst hgr
        go_wp2
        go_ret
        exact ⟨by simp, hbel⟩
      · rw [if_neg hmr] at hgr
        subst hgr
        go_wp2
        go_ret
        exact ⟨by simp, hbel⟩
    · obtain rfl := hg.past (by omega)
      clear hg
      go_wp2
      go_ret
      exact ⟨by simp, hbel⟩

end Go.Proofs.Qxb6601545a
