/-
  The law (3): statements 43 to 46.
-/
import Derived.Test.Qxb6602155aLj
import Derived.Test.Qxb6602155aHs
import Derived.Test.Qxb6602155aLx
namespace Go.Proofs.Qxb6602155a
open Go.RowKit

theorem best_at {xs ss best : List It} {i m c b : Nat} (him : (xs.drop i).length = m) (hbest : best = ss ++ pick (xs.drop i) (maskOf m c)) (hb : b < m) (hbit : c.testBit b = true) :
    ss.length + cntOf (xs.drop i) c b < best.length ∧ best.getD (ss.length + cntOf (xs.drop i) c b) noIt = xs.getD (i + b) noIt := by
  have hib : i + b < xs.length := by rw [List.length_drop] at him; omega
  have hx : (xs.drop i)[b]? = some (xs.getD (i + b) noIt) := by rw [List.getElem?_drop]; simp [List.getD, hib]
  have hp := pick_at (M := c) (by omega) hx hbit
  rw [him] at hp
  have he : best[ss.length + cntOf (xs.drop i) c b]? = some (xs.getD (i + b) noIt) := by
    rw [hbest, List.getElem?_append_right (by omega), Nat.add_sub_cancel_left]; exact hp
  refine ⟨?_, ?_⟩
  · obtain ⟨h, _⟩ := List.getElem?_eq_some_iff.1 he; exact h
  · unfold List.getD; rw [he]; rfl

set_option maxRecDepth 100000 in
set_option maxHeartbeats 8000000 in
theorem secF43 (R c : Code) (hc : segOf 43 2 R Try.f3.body = some c) (w0 w : World) (c1 c2 : Option Addr) (xs ss : List It) (lo hi sum : Int) (i : Nat) (least : Bool) (ib rb : Nat) (ba na : Option Addr) (bc nc : Nat) (s : St) (t : Array Value)
    (hF : Fr (.slice c1 xs.length xs.length) (.slice c2 ss.length ss.length) lo hi least i sum t) (hL : Sl xs.length ib rb ba na bc nc s ss.length t) (hM : Mem w0 w xs ss c1 c2 ib rb ba na s) (nx : xs.length ≤ 4096) (ns : ss.length ≤ 4096) (m cm : Nat) (hm : m ≤ 11) (him : (xs.drop i).length = m) (hB : BF m (.bool true) (.int .i64 cm) (.int .i64 s.sum) t) (hcm : cm < 2 ^ m) (hbest : s.best = ss ++ pick (xs.drop i) (maskOf m cm)) (hi' : i ≤ xs.length)
    (hn : ∀ t' w', Fr (.slice c1 xs.length xs.length) (.slice c2 ss.length ss.length) lo hi least i sum t' → Mem w0 w' xs ss c1 c2 ib rb ba na s → Code.wp Try.prog R (bodyPost Try.prog Try.f3 (LawEnd w0)) ⟨t', []⟩ w') :
    Code.wp Try.prog c (bodyPost Try.prog Try.f3 (LawEnd w0)) ⟨t, []⟩ w := by
  have ec := Option.some.inj hc
  clear hc
  subst ec
  simp only [dropC, segC]
  have HN : Hid _ := hn
  clear hn
  rw [arr_open t hF.size, hF.s0, hF.s1, hF.s2, hF.s3, hF.s4, hF.s5, hF.s6, hL.s19, hL.s20, hL.s24, hL.s26, hL.s27, hL.s28, hL.s29, hL.s30, hB.s41, hB.s42, hB.s43, hB.s44]
  clear hF hL hB
  have hc' := small_mask hm hcm
  have hat := fun b => best_at (b := b) him hbest
  have hlen : i + m = xs.length := by rw [← him]; simp; omega
  have HAt : Hid _ := hat
  have HIM : Hid _ := him
  clear hcm hbest him hat
  go_wp2
  go_loopw [53, 54] (fun p b wr => ∃ b' : Nat, b' ≤ m ∧ p = .int .i64 ((ss.length : Int) + (cntOf (xs.drop i) cm b' : Int)) ∧ b = .int .i64 b' ∧ Mem w0 wr xs ss c1 c2 ib rb ba na s) (fun _ b _ => m - (intOf b).toNat)
  case atStart => exact ⟨0, Nat.zero_le _, by rw [cnt_zero]; simp, rfl, hM⟩
  case round =>
    clear hM
    obtain ⟨b', hb', rfl, rfl, hM⟩ := hrel
    have hle := cnt_le (l := xs.drop i) (M := cm) (b := b')
    by_cases hlt : b' < m
    · have ba := bit_at cm b' (by omega)
      have hltl : b' < (xs.drop i).length := by rw [HIM.out]; exact hlt
      cases hbit : cm.testBit b' with
      | false =>
        rw [hbit] at ba
        have hx : (bits .and .i64 ((cm : Int) / 2 ^ b') 1 == 1) = false := by rw [ba]; rfl
        have hn := cnt_no hltl hbit
        have HNn : Hid _ := hn
        have HM : Hid _ := hM
        clear ba hbit hn hltl hM
        go_wp2
        go_roundw
        case rel => exact ⟨b' + 1, by omega, by rw [HNn.out], by go_num, HM.out⟩
        case measure => simp [intOf]; omega
      | true =>
        rw [hbit] at ba
        have hx : (bits .and .i64 ((cm : Int) / 2 ^ b') 1 == 1) = true := by rw [ba]; rfl
        have hn := cnt_yes hltl hbit
        obtain ⟨hpl, hpe⟩ := HAt.out b' hlt hbit
        have hib : i + b' < xs.length := by omega
        obtain ⟨b, o, rfl, hA⟩ := hM.ix.at hib
        obtain ⟨b2, o2, rfl, hA2⟩ := hM.bb.at hpl
        rw [hpe] at hA2
        have HNn : Hid _ := hn
        have HM : Hid _ := hM
        clear ba hbit hn hltl hM hpe
        generalize cntOf (xs.drop i) cm b' = q at *
        generalize xs.getD (i + b') noIt = x at *
        have hsx := (same_iff x _).2 rfl
        obtain ⟨q0, q1, q2, q3, q4⟩ := hA
        obtain ⟨p0, p1, p2, p3, p4⟩ := hA2
        have hbl := World.block_lt_of_cell? _ _ q0
        have hil := World.block_lt_of_cell? _ _ p0
        have hk0 : (0 : Int) ≤ (ss.length : Int) + (q : Int) := by omega
        have hkn : (ss.length : Int) + (q : Int) < (s.best.length : Int) := by omega
        have hj0 : (0 : Int) ≤ (i : Int) + (b' : Int) := by omega
        have hjn : (i : Int) + (b' : Int) < (xs.length : Int) := by omega
        have hw1 : IntKind.i64.wrap ((i : Int) + (b' : Int)) = (i : Int) + (b' : Int) := by rw [IntKind.wrap_i64]; omega
        have ht1 : ((ss.length : Int) + (q : Int)).toNat = ss.length + q := by omega
        have ht2 : ((i : Int) + (b' : Int)).toNat = i + b' := by omega
        go_wp2_with fail
        go_region_held3 (fun w' => w'.cell? ⟨b, o + (i + b') * 5, none⟩ = some (.string x.name) ∧ w'.cell? ⟨b, o + (i + b') * 5 + 1, none⟩ = some (.int .u64 x.ver) ∧ w'.cell? ⟨b, o + (i + b') * 5 + 2, none⟩ = some (.int .i64 x.num) ∧ w'.cell? ⟨b, o + (i + b') * 5 + 3, none⟩ = some (.int .u64 x.ctr) ∧ w'.cell? ⟨b, o + (i + b') * 5 + 4, none⟩ = some (.int .i64 x.size) ∧ w'.cell? ⟨b2, o2 + (ss.length + q) * 5, none⟩ = some (.string x.name) ∧ w'.cell? ⟨b2, o2 + (ss.length + q) * 5 + 1, none⟩ = some (.int .u64 x.ver) ∧ w'.cell? ⟨b2, o2 + (ss.length + q) * 5 + 2, none⟩ = some (.int .i64 x.num) ∧ w'.cell? ⟨b2, o2 + (ss.length + q) * 5 + 3, none⟩ = some (.int .u64 x.ctr) ∧ w'.cell? ⟨b2, o2 + (ss.length + q) * 5 + 4, none⟩ = some (.int .i64 x.size)) (go_keep)
          ((go_at_call 11; refine (same_w x x _).mono ?_; rintro e w' ⟨rfl, rfl⟩; rw [hsx]; unfold sameW))
        go_wp2
        go_roundw
        case rel => exact ⟨b' + 1, by omega, by rw [HNn.out]; go_num, by go_num, HM.out.more (((Grow.refl _).alloc _).alloc _).drew⟩
        case measure => simp [intOf]; omega
    · go_wp2
      exact HN.out _ _ ⟨rfl, rfl, rfl, rfl, rfl, rfl, rfl, rfl⟩ hM

set_option maxRecDepth 100000 in
theorem secF45 (c : Code) (hc : segOf 45 1 .ret Try.f3.body = some c) (w0 w : World) (v0 v1 : Value) (lo hi sum : Int) (i : Int) (least : Bool) (t : Array Value) (hF : Fr v0 v1 lo hi least i sum t) (hg : Grow w0 w) :
    Code.wp Try.prog c (bodyPost Try.prog Try.f3 (LawEnd w0)) ⟨t, []⟩ w := by
  have ec := Option.some.inj hc
  clear hc
  subst ec
  simp only [dropC, segC]
  rw [arr_open t hF.size]
  clear hF
  go_wp2
  go_ret
  exact ⟨rfl, hg⟩

end Go.Proofs.Qxb6602155a
