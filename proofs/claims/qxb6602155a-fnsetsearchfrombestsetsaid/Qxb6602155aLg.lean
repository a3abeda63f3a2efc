/-
  The law (3): statements 23 to 25.
-/
import Derived.Test.Qxb6602155aLe
import Derived.Test.Qxb6602155aHs
import Derived.Test.Qxb6602155aLx
namespace Go.Proofs.Qxb6602155a
open Go.RowKit

set_option maxRecDepth 100000 in
set_option maxHeartbeats 8000000 in
theorem secC23 (R c : Code) (hc : segOf 23 2 R Try.f3.body = some c) (w0 w : World) (c1 c2 : Option Addr) (xs ss : List It) (lo hi sum : Int) (i : Nat) (least : Bool) (ib rb : Nat) (ba na : Option Addr) (bc nc : Nat) (s : St) (t : Array Value)
    (hF : Fr (.slice c1 xs.length xs.length) (.slice c2 ss.length ss.length) lo hi least i sum t) (hL : Sl xs.length ib rb ba na bc nc s ss.length t) (hM : Mem w0 w xs ss c1 c2 ib rb ba na s) (nx : xs.length ≤ 4096) (_ns : ss.length ≤ 4096) (hsz : ∀ x ∈ xs, InR x.size)
    (hn : ∀ t' w', Fr (.slice c1 xs.length xs.length) (.slice c2 ss.length ss.length) lo hi least i sum t' → Sl xs.length ib rb ba na bc nc s ss.length t' → Mem w0 w' xs ss c1 c2 ib rb ba na s → Code.wp Try.prog R (bodyPost Try.prog Try.f3 (LawEnd w0)) ⟨t', []⟩ w') :
    Code.wp Try.prog c (bodyPost Try.prog Try.f3 (LawEnd w0)) ⟨t, []⟩ w := by
  have ec := Option.some.inj hc
  clear hc
  subst ec
  simp only [dropC, segC]
  have HN : Hid _ := hn
  clear hn
  rw [arr_open t hF.size, hF.s0, hF.s1, hF.s2, hF.s3, hF.s4, hF.s5, hF.s6, hL.s19, hL.s20, hL.s24, hL.s26, hL.s27, hL.s28, hL.s29, hL.s30]
  clear hF hL
  have hIx := hM.ix
  have HM : Hid _ := hM
  clear hM
  go_wp2_with fail
  refine (rest_any _ _ _ _ nx hsz hIx).mono ?_
  rintro e w1 ⟨rb2, rfl, hrr, g2, _⟩
  have hM := HM.out.more g2
  clear hIx hsz HM
  unfold rvOf
  go_wp2
  go_loopw [33] (fun i wr => ∃ k n : Nat, k ≤ xs.length + 1 ∧ i = .int .i64 k ∧ wr = w1.drewN n) (fun i _ => xs.length + 1 - (intOf i).toNat)
  case atStart => exact ⟨0, 0, Nat.zero_le _, rfl, rfl⟩
  case round =>
    obtain ⟨k, n, hk, rfl, rfl⟩ := hrel
    by_cases hlt : k ≤ xs.length
    · have r1 := hM.rr.cell (i := k) (by omega)
      have r2 := hrr.cell (i := k) (by omega)
      generalize restOf (xs.drop k) = v at r1 r2
      have HM : Hid _ := hM
      have HR : Hid _ := hrr
      clear hM hrr
      have hk0 : (0 : Int) ≤ (k : Int) := Int.natCast_nonneg _
      have hkn : (k : Int) < ((xs.length + 1 : Nat) : Int) := by omega
      have hkn' : (k : Int) < (xs.length : Int) + 1 := by omega
      go_wp2_with fail
      go_quiet (fail)
      go_wp2
      go_roundw
      case rel => exact ⟨k + 1, _, by omega, by go_num, rfl⟩
      case measure => simp [intOf]; omega
    · go_wp2
      exact HN.out _ _ ⟨rfl, rfl, rfl, rfl, rfl, rfl, rfl, rfl⟩ ⟨rfl, rfl, rfl, rfl, rfl, rfl, rfl, rfl⟩ (hM.more ((Grow.refl _).drewN _))

set_option maxRecDepth 100000 in
set_option maxHeartbeats 8000000 in
theorem secC25 (R c : Code) (hc : segOf 25 1 R Try.f3.body = some c) (w0 w : World) (c1 c2 : Option Addr) (xs ss : List It) (lo hi sum : Int) (i : Nat) (least : Bool) (ib rb : Nat) (ba na : Option Addr) (bc nc : Nat) (s : St) (t : Array Value)
    (hF : Fr (.slice c1 xs.length xs.length) (.slice c2 ss.length ss.length) lo hi least i sum t) (hL : Sl xs.length ib rb ba na bc nc s ss.length t) (hM : Mem w0 w xs ss c1 c2 ib rb ba na s) (_nx : xs.length ≤ 4096) (_ns : ss.length ≤ 4096)
    (hn : ∀ t' w', Fr (.slice c1 xs.length xs.length) (.slice c2 ss.length ss.length) lo hi least i sum t' → Sl xs.length ib rb ba na bc nc s ss.length t' → Mem w0 w' xs ss c1 c2 ib rb ba na s → Code.wp Try.prog R (bodyPost Try.prog Try.f3 (LawEnd w0)) ⟨t', []⟩ w') :
    Code.wp Try.prog c (bodyPost Try.prog Try.f3 (LawEnd w0)) ⟨t, []⟩ w := by
  have ec := Option.some.inj hc
  clear hc
  subst ec
  simp only [dropC, segC]
  have HN : Hid _ := hn
  clear hn
  rw [arr_open t hF.size, hF.s0, hF.s1, hF.s2, hF.s3, hF.s4, hF.s5, hF.s6, hL.s19, hL.s20, hL.s24, hL.s26, hL.s27, hL.s28, hL.s29, hL.s30]
  clear hF hL
  go_wp2
  exact HN.out _ _ ⟨rfl, rfl, rfl, rfl, rfl, rfl, rfl, rfl⟩ ⟨rfl, rfl, rfl, rfl, rfl, rfl, rfl, rfl⟩ hM

end Go.Proofs.Qxb6602155a
