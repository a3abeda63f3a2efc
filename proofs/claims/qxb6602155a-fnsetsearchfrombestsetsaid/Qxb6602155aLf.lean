/-
  The law (3): statements 22.
-/
import Derived.Test.Qxb6602155aLe
import Derived.Test.Qxb6602155aHs
import Derived.Test.Qxb6602155aLx
namespace Go.Proofs.Qxb6602155a
open Go.RowKit

set_option maxRecDepth 100000 in
set_option maxHeartbeats 8000000 in
theorem secC22 (R c : Code) (hc : segOf 22 1 R Try.f3.body = some c) (w0 w : World) (c1 c2 : Option Addr) (xs ss : List It) (lo hi sum : Int) (i : Nat) (least : Bool) (ib rb : Nat) (ba na : Option Addr) (bc nc : Nat) (s : St) (t : Array Value)
    (hF : Fr (.slice c1 xs.length xs.length) (.slice c2 ss.length ss.length) lo hi least i sum t) (hL : Sl xs.length ib rb ba na bc nc s ss.length t) (hM : Mem w0 w xs ss c1 c2 ib rb ba na s) (nx : xs.length ≤ 4096) (_ns : ss.length ≤ 4096)
    (hn : ∀ t' w', Fr (.slice c1 xs.length xs.length) (.slice c2 ss.length ss.length) lo hi least i sum t' → Sl xs.length ib rb ba na bc nc s ss.length t' → Mem w0 w' xs ss c1 c2 ib rb ba na s → Code.wp Try.prog R (bodyPost Try.prog Try.f3 (LawEnd w0)) ⟨t', []⟩ w') :
    Code.wp Try.prog c (bodyPost Try.prog Try.f3 (LawEnd w0)) ⟨t, []⟩ w := by
  have ec := Option.some.inj hc
  clear hc
  subst ec
  simp only [dropC, segC]
  have HN : Hid _ := hn
  clear hn
  rw [arr_open t hF.size, hF.s0, hF.s1, hF.s2, hF.s3, hF.s4, hF.s5, hF.s6, hL.s19, hL.s20, hL.s24, hL.s26, hL.s27, hL.s28, hL.s29, hL.s30]
  clear hF hL
  go_wp2
  go_loopw [31] (fun i wr => ∃ k : Nat, k ≤ xs.length ∧ i = .int .i64 k ∧ Mem w0 wr xs ss c1 c2 ib rb ba na s) (fun i _ => xs.length - (intOf i).toNat)
  case atStart => exact ⟨0, Nat.zero_le _, rfl, hM⟩
  case round =>
    clear hM
    obtain ⟨k, hk, rfl, hM⟩ := hrel
    by_cases hlt : k < xs.length
    · obtain ⟨b, o, rfl, hA⟩ := hM.ix.at hlt
      obtain ⟨b', o', hb', hA'⟩ := hM.io.at hlt
      cases hb'
      have hx := (same_iff (xs.getD k noIt) _).2 rfl
      generalize xs.getD k noIt = x at *
      obtain ⟨q0, q1, q2, q3, q4⟩ := hA
      obtain ⟨p0, p1, p2, p3, p4⟩ := hA'
      simp only [Nat.zero_add] at p0 p1 p2 p3 p4
      have HM : Hid _ := hM
      have hbl := World.block_lt_of_cell? _ _ q0
      have hil := World.block_lt_of_cell? _ _ p0
      have hk0 : (0 : Int) ≤ (k : Int) := Int.natCast_nonneg _
      have hkn : (k : Int) < (xs.length : Int) := by omega
      clear hM
      go_wp2_with fail
      go_region_held3 (fun w' => w'.cell? ⟨b, o + k * 5, none⟩ = some (.string x.name) ∧ w'.cell? ⟨b, o + k * 5 + 1, none⟩ = some (.int .u64 x.ver) ∧ w'.cell? ⟨b, o + k * 5 + 2, none⟩ = some (.int .i64 x.num)
            ∧ w'.cell? ⟨b, o + k * 5 + 3, none⟩ = some (.int .u64 x.ctr) ∧ w'.cell? ⟨b, o + k * 5 + 4, none⟩ = some (.int .i64 x.size)
            ∧ w'.cell? ⟨ib, k * 5, none⟩ = some (.string x.name) ∧ w'.cell? ⟨ib, k * 5 + 1, none⟩ = some (.int .u64 x.ver) ∧ w'.cell? ⟨ib, k * 5 + 2, none⟩ = some (.int .i64 x.num)
            ∧ w'.cell? ⟨ib, k * 5 + 3, none⟩ = some (.int .u64 x.ctr) ∧ w'.cell? ⟨ib, k * 5 + 4, none⟩ = some (.int .i64 x.size)) (go_keep)
          ((go_at_call 11; refine (same_w x x _).mono ?_; rintro e w' ⟨rfl, rfl⟩; rw [hx]; unfold sameW))
      go_wp2
      go_roundw
      case rel => exact ⟨k + 1, by omega, by go_num, HM.out.more (((Grow.refl _).alloc _).alloc _).drew⟩
      case measure => simp [intOf]; omega
    · go_wp2
      exact HN.out _ _ ⟨rfl, rfl, rfl, rfl, rfl, rfl, rfl, rfl⟩ ⟨rfl, rfl, rfl, rfl, rfl, rfl, rfl, rfl⟩ hM

end Go.Proofs.Qxb6602155a
