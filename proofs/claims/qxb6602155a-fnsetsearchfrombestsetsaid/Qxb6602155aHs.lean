/-
  zzSame (11), its world told.
-/
import Derived.Test.Qxb6602155aHa
namespace Go.Proofs.Qxb6602155a
open Go.RowKit

/-- zzSame lays its two arguments in memory. -/
def sameW (x y : It) (w : World) : World :=
  (w.alloc (.cells #[.string x.name, .int .u64 x.ver, .int .i64 x.num, .int .u64 x.ctr, .int .i64 x.size] 32)).alloc (.cells #[.string y.name, .int .u64 y.ver, .int .i64 y.num, .int .u64 y.ctr, .int .i64 y.size] 26)
def RetS (x y : It) (b : Bool) (w : World) (e : Ending) (w' : World) : Prop := e = .returned (.bool b) ∧ w' = sameW x y w

set_option maxRecDepth 100000 in
set_option maxHeartbeats 1600000 in
theorem same_w (x y : It) (w : World) : Calls Try.prog 11 #[.agg #[.string x.name, .int .u64 x.ver, .int .i64 x.num, .int .u64 x.ctr, .int .i64 x.size], .agg #[.string y.name, .int .u64 y.ver, .int .i64 y.num, .int .u64 y.ctr, .int .i64 y.size]] w fun e w' => RetS x y (same x y) w e w' := by
  obtain ⟨xn, xv, xu, xc, xs⟩ := x
  obtain ⟨yn, yv, yu, yc, ys⟩ := y
  by_cases h1 : xn = yn
  · subst h1
    by_cases h2 : xv = yv
    · subst h2
      by_cases h3 : xu = yu
      · subst h3
        by_cases h4 : xc = yc
        · subst h4
          by_cases h5 : xs = ys
          · subst h5
            rw [(same_iff _ _).2 rfl]
            go_enter Try.func11, Try.ntmps11
            go_wp2
            go_ret
            exact ⟨rfl, rfl⟩
          · rw [same_s (by exact h5)]
            have hs : (xs == ys) = false := by simpa using h5
            clear h5
            go_enter Try.func11, Try.ntmps11
            go_wp2
            go_ret
            exact ⟨rfl, rfl⟩
        · rw [same_c (by exact h4)]
          have hs : (xc == yc) = false := by simpa using h4
          clear h4
          go_enter Try.func11, Try.ntmps11
          go_wp2
          go_ret
          exact ⟨rfl, rfl⟩
      · rw [same_u (by exact h3)]
        have hs : (xu == yu) = false := by simpa using h3
        clear h3
        go_enter Try.func11, Try.ntmps11
        go_wp2
        go_ret
        exact ⟨rfl, rfl⟩
    · rw [same_v (by exact h2)]
      have hs : (xv == yv) = false := by simpa using h2
      clear h2
      go_enter Try.func11, Try.ntmps11
      go_wp2
      go_ret
      exact ⟨rfl, rfl⟩
  · rw [same_n (by exact h1)]
    have hs := beqL_false h1
    clear h1
    go_enter Try.func11, Try.ntmps11
    go_wp2
    go_ret
    exact ⟨rfl, rfl⟩
theorem sameW_grow (x y : It) (w : World) : Grow w (sameW x y w) := ((Grow.refl w).alloc _).alloc _

end Go.Proofs.Qxb6602155a
