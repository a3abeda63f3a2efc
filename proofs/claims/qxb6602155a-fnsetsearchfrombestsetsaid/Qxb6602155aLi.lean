/-
  The law (3): statements 28.
-/
import Derived.Test.Qxb6602155aLe
import Derived.Test.Qxb6602155aPb
import Derived.Test.Qxb6602155aHs
import Derived.Test.Qxb6602155aLx
namespace Go.Proofs.Qxb6602155a
open Go.RowKit

theorem sub_skip {x y : It} {T l : List It} (hne : ¬ x = y) (h : List.Sublist (x :: T) (y :: l)) : List.Sublist (x :: T) l := by
  cases h with
  | cons _ h => exact h
  | cons_cons _ h => exact absurd rfl hne
theorem tot_drop {l : List It} {k : Nat} (hk : k < l.length) : tot (l.drop k) = (l.getD k noIt).size + tot (l.drop (k + 1)) := by rw [drop_at hk]; rfl
theorem sub_nonneg {T l : List It} (h : List.Sublist T l) (hl : ∀ x ∈ l, InR x.size) : 0 ≤ tot T := tot_nonneg (fun x hx => (hl x (h.subset hx)).1)

/-- Where the matching stands. -/
structure Match (xs best : List It) (k j : Nat) (acc need : Int) : Prop where
  jn : j ≤ xs.length
  sub : List.Sublist (best.drop k) (xs.drop j)
  sum : acc + tot (best.drop k) = need
  a0 : 0 ≤ acc

theorem Match.more {xs best : List It} {k j : Nat} {acc need : Int} (h : Match xs best k j acc need) (hk : k < best.length) : j < xs.length := by
  by_cases hj : j < xs.length
  · exact hj
  · have := h.sub.length_le
    simp at this
    omega
theorem Match.skip {xs best : List It} {k j : Nat} {acc need : Int} (h : Match xs best k j acc need) (hk : k < best.length) (hne : ¬ best.getD k noIt = xs.getD j noIt) : Match xs best k (j + 1) acc need := by
  have hj := h.more hk
  obtain ⟨_, b, c, d⟩ := h
  refine ⟨by omega, ?_, c, d⟩
  rw [drop_at hk] at b ⊢
  rw [drop_at hj] at b
  exact sub_skip hne b
theorem Match.take {xs best : List It} {k j : Nat} {acc need : Int} (h : Match xs best k j acc need) (hk : k < best.length) (he : best.getD k noIt = xs.getD j noIt) (hsz : ∀ x ∈ xs, InR x.size) :
    (xs.getD j noIt).size ≤ need - acc ∧ Match xs best (k + 1) (j + 1) (acc + (xs.getD j noIt).size) need := by
  have hj := h.more hk
  obtain ⟨_, b, c, d⟩ := h
  have hs := hsz _ (getD_mem hj)
  rw [tot_drop hk, he] at c
  rw [drop_at hk, drop_at hj, he] at b
  have b' := List.cons_sublist_cons.1 b
  have hn := sub_nonneg b' (fun x hx => hsz x (List.mem_of_mem_drop hx))
  exact ⟨by omega, by omega, b', by omega, by have := hs.1; omega⟩
theorem Match.need {xs best : List It} {k j : Nat} {acc need : Int} (h : Match xs best k j acc need) (hk : best.length ≤ k) : acc = need := by
  have := h.sum
  rw [List.drop_eq_nil_of_le hk] at this
  simpa [tot] using this
theorem Match.acc {xs best : List It} {k j : Nat} {acc need : Int} (h : Match xs best k j acc need) (hsz : ∀ x ∈ xs, InR x.size) : 0 ≤ need - acc := by
  have := sub_nonneg h.sub (fun x hx => hsz x (List.mem_of_mem_drop hx))
  have := h.sum
  omega

set_option maxRecDepth 100000 in
set_option maxHeartbeats 8000000 in
theorem secD28 (R c : Code) (hc : segOf 28 1 R Try.f3.body = some c) (w0 w : World) (c1 c2 : Option Addr) (xs ss : List It) (lo hi sum : Int) (i : Nat) (least : Bool) (ib rb : Nat) (ba na : Option Addr) (bc nc : Nat) (s : St) (t : Array Value)
    (hF : Fr (.slice c1 xs.length xs.length) (.slice c2 ss.length ss.length) lo hi least i sum t) (hL : Sl xs.length ib rb ba na bc nc s ss.length t) (hM : Mem w0 w xs ss c1 c2 ib rb ba na s) (nx : xs.length ≤ 4096) (ns : ss.length ≤ 4096) (hsz : ∀ x ∈ xs, InR x.size) (hsnd : Snd lo hi ss (xs.drop i) sum s) (hi' : i ≤ xs.length) (hsum : 0 ≤ sum) (hss : InR s.sum)
    (hn : ∀ t' w', Fr (.slice c1 xs.length xs.length) (.slice c2 ss.length ss.length) lo hi least i sum t' → Sl xs.length ib rb ba na bc nc s ss.length t' → Mem w0 w' xs ss c1 c2 ib rb ba na s → Code.wp Try.prog R (bodyPost Try.prog Try.f3 (LawEnd w0)) ⟨t', []⟩ w') :
    Code.wp Try.prog c (bodyPost Try.prog Try.f3 (LawEnd w0)) ⟨t, []⟩ w := by
  have ec := Option.some.inj hc
  clear hc
  subst ec
  simp only [dropC, segC]
  have HN : Hid _ := hn
  clear hn
  rw [arr_open t hF.size, hF.s0, hF.s1, hF.s2, hF.s3, hF.s4, hF.s5, hF.s6, hL.s19, hL.s20, hL.s24, hL.s26, hL.s27, hL.s28, hL.s29, hL.s30]
  clear hF hL
  have HM : Hid _ := hM
  have HSZ : Hid _ := hsz
  cases hf : s.found with
  | false =>
    obtain ⟨e1, e2⟩ := hsnd.no hf
    have hb0 : s.best.length = 0 := by rw [e1]; rfl
    have HF : Hid _ := hf
    have HB : Hid _ := hb0
    have HS : Hid _ := e2
    rw [hb0, e2]
    clear hsnd hf hM hsz e1 e2 hb0
    go_wp2
    exact HN.out _ _ ⟨rfl, rfl, rfl, rfl, rfl, rfl, rfl, rfl⟩ ⟨rfl, rfl, rfl, by rw [HB.out]; rfl, by rw [HS.out]; rfl, by rw [HF.out]; rfl, rfl, rfl⟩ HM.out
  | true =>
    obtain ⟨l1, l2, T, hT, hbest, hsumT⟩ := hsnd.yes hf
    have htot := sub_nonneg hT (fun x hx => hsz x (List.mem_of_mem_drop hx))
    have hlen : ss.length ≤ s.best.length := by rw [hbest]; simp
    have hlen8 : s.best.length ≤ 8192 := by
      have := hT.length_le
      rw [hbest]
      simp at this ⊢
      omega
    have hM0 : Match xs s.best ss.length i 0 (s.sum - sum) := ⟨hi', by rw [hbest]; simpa using hT, by rw [hbest]; simp; omega, Int.le_refl _⟩
    have hpre : ∀ k, k < ss.length → s.best.getD k noIt = ss.getD k noIt := fun k hk => by rw [hbest]; simp [List.getD, List.getElem?_append_left hk]
    have HF : Hid _ := hf
    have HPre : Hid _ := hpre
    have HM0 : Hid _ := hM0
    have hge : sum ≤ s.sum := by omega
    obtain ⟨z1, z2⟩ := hss
    unfold maxI at z2
    have hww : IntKind.i64.wrap (s.sum - sum) = s.sum - sum := by rw [IntKind.wrap_i64]; omega
    have hd1 : decide (s.sum < lo) = false := by simpa using l1
    have hd2 : decide (hi < s.sum) = false := by simpa using l2
    have hd3 : decide (s.sum < sum) = false := by simpa using hge
    have hd4 : decide (s.best.length < ss.length) = false := by simpa using hlen
    clear hsnd hf hT hbest hsumT hpre hM0 hM htot hsz
    go_wp2
    clear hd1 hd2 hd3 hd4
    go_loopw [35] (fun i wr => ∃ k : Nat, k ≤ ss.length ∧ i = .int .i64 k ∧ Mem w0 wr xs ss c1 c2 ib rb ba na s) (fun i _ => ss.length - (intOf i).toNat)
    case atStart => exact ⟨0, Nat.zero_le _, rfl, HM.out⟩
    case round =>
      clear HM
      obtain ⟨k, hk, rfl, hM⟩ := hrel
      by_cases hlt : k < ss.length
      · obtain ⟨b, o, rfl, hA⟩ := hM.is.at hlt
        obtain ⟨b', o', rfl, hA'⟩ := hM.bb.at (Nat.lt_of_lt_of_le hlt hlen)
        rw [HPre.out k hlt] at hA'
        generalize ss.getD k noIt = x at *
        have hx := (same_iff x _).2 rfl
        obtain ⟨q0, q1, q2, q3, q4⟩ := hA
        obtain ⟨p0, p1, p2, p3, p4⟩ := hA'
        have HM : Hid _ := hM
        have hbl := World.block_lt_of_cell? _ _ q0
        have hil := World.block_lt_of_cell? _ _ p0
        have hk0 : (0 : Int) ≤ (k : Int) := Int.natCast_nonneg _
        have hkn : (k : Int) < (ss.length : Int) := by omega
        have hkn2 : (k : Int) < (s.best.length : Int) := by omega
        clear hM
        go_wp2_with fail
        go_region_held3 (fun w' => w'.cell? ⟨b, o + k * 5, none⟩ = some (.string x.name) ∧ w'.cell? ⟨b, o + k * 5 + 1, none⟩ = some (.int .u64 x.ver) ∧ w'.cell? ⟨b, o + k * 5 + 2, none⟩ = some (.int .i64 x.num) ∧ w'.cell? ⟨b, o + k * 5 + 3, none⟩ = some (.int .u64 x.ctr) ∧ w'.cell? ⟨b, o + k * 5 + 4, none⟩ = some (.int .i64 x.size) ∧ w'.cell? ⟨b', o' + k * 5, none⟩ = some (.string x.name) ∧ w'.cell? ⟨b', o' + k * 5 + 1, none⟩ = some (.int .u64 x.ver) ∧ w'.cell? ⟨b', o' + k * 5 + 2, none⟩ = some (.int .i64 x.num) ∧ w'.cell? ⟨b', o' + k * 5 + 3, none⟩ = some (.int .u64 x.ctr) ∧ w'.cell? ⟨b', o' + k * 5 + 4, none⟩ = some (.int .i64 x.size)) (go_keep)
          ((go_at_call 11; refine (same_w x x _).mono ?_; rintro e w' ⟨rfl, rfl⟩; rw [hx]; unfold sameW))
        go_wp2
        go_roundw
        case rel => exact ⟨k + 1, by omega, by go_num, HM.out.more (((Grow.refl _).alloc _).alloc _).drew⟩
        case measure => simp [intOf]; omega
      · have HMM : Hid _ := hM
        clear hM
        go_wp2
        clear hk hlt
        go_loopw [37, 38, 39] (fun a j p wr => ∃ (k j' : Nat) (acc : Int), ss.length ≤ k ∧ k ≤ s.best.length ∧ a = .int .i64 acc ∧ j = .int .i64 j' ∧ p = .int .i64 k ∧ Match xs s.best k j' acc (s.sum - sum) ∧ Mem w0 wr xs ss c1 c2 ib rb ba na s) (fun _ _ p _ => s.best.length - (intOf p).toNat)
        case atStart => exact ⟨ss.length, i, 0, Nat.le_refl _, hlen, rfl, rfl, rfl, HM0.out, HMM.out⟩
        case round =>
          clear HMM HM0
          obtain ⟨k, j, acc, hk1, hk2, rfl, rfl, rfl, hMa, hM⟩ := hrel
          by_cases hlt : k < s.best.length
          · have HMa : Hid _ := hMa
            have HMM : Hid _ := hM
            clear hMa hM
            go_wp2
            go_loopw [38] (fun j wr => ∃ j' : Nat, j = .int .i64 j' ∧ Match xs s.best k j' acc (s.sum - sum) ∧ Mem w0 wr xs ss c1 c2 ib rb ba na s) (fun j _ => xs.length - (intOf j).toNat)
            case atStart => exact ⟨j, rfl, HMa.out, HMM.out⟩
            case round =>
              clear HMa HMM
              obtain ⟨j, rfl, hMa, hM⟩ := hrel
              have hj := hMa.more hlt
              obtain ⟨b, o, rfl, hA⟩ := hM.ix.at hj
              obtain ⟨b', o', rfl, hA'⟩ := hM.bb.at hlt
              have hmore := fun he => hMa.take hlt he HSZ.out
              have hskip := hMa.skip hlt
              have hacc := hMa.acc HSZ.out
              have ha0 := hMa.a0
              generalize hyy : xs.getD j noIt = y at *
              generalize hxx : s.best.getD k noIt = x at *
              have HMore : Hid _ := hmore
              have HSkip : Hid _ := hskip
              have HY : Hid _ := hyy
              clear hmore hskip hMa hxx hyy
              obtain ⟨q0, q1, q2, q3, q4⟩ := hA
              obtain ⟨p0, p1, p2, p3, p4⟩ := hA'
              have HM : Hid _ := hM
              have hbl := World.block_lt_of_cell? _ _ q0
              have hil := World.block_lt_of_cell? _ _ p0
              have hk0 : (0 : Int) ≤ (k : Int) := Int.natCast_nonneg _
              have hkn : (k : Int) < (s.best.length : Int) := by omega
              have hj0 : (0 : Int) ≤ (j : Int) := Int.natCast_nonneg _
              have hjn : (j : Int) < (xs.length : Int) := by omega
              have hjd : decide ((j : Int) < (xs.length : Int)) = true := by simpa using hj
              clear hM
              cases hx : same x y with
              | false =>
                go_wp2_with fail
                go_region_held3 (fun w' => w'.cell? ⟨b, o + j * 5, none⟩ = some (.string y.name) ∧ w'.cell? ⟨b, o + j * 5 + 1, none⟩ = some (.int .u64 y.ver) ∧ w'.cell? ⟨b, o + j * 5 + 2, none⟩ = some (.int .i64 y.num) ∧ w'.cell? ⟨b, o + j * 5 + 3, none⟩ = some (.int .u64 y.ctr) ∧ w'.cell? ⟨b, o + j * 5 + 4, none⟩ = some (.int .i64 y.size) ∧ w'.cell? ⟨b', o' + k * 5, none⟩ = some (.string x.name) ∧ w'.cell? ⟨b', o' + k * 5 + 1, none⟩ = some (.int .u64 x.ver) ∧ w'.cell? ⟨b', o' + k * 5 + 2, none⟩ = some (.int .i64 x.num) ∧ w'.cell? ⟨b', o' + k * 5 + 3, none⟩ = some (.int .u64 x.ctr) ∧ w'.cell? ⟨b', o' + k * 5 + 4, none⟩ = some (.int .i64 x.size)) (go_keep)
                  ((go_at_call 11; refine (same_w x y _).mono ?_; rintro e w' ⟨rfl, rfl⟩; rw [hx]; unfold sameW))
                go_wp2
                go_roundw
                case rel => exact ⟨j + 1, by go_num, HSkip.out (fun e => by rw [(same_iff x y).2 e] at hx; cases hx), HM.out.more (((Grow.refl _).alloc _).alloc _).drew⟩
                case measure => simp [intOf]; omega
              | true =>
                go_wp2_with fail
                go_region_held3 (fun w' => w'.cell? ⟨b, o + j * 5, none⟩ = some (.string y.name) ∧ w'.cell? ⟨b, o + j * 5 + 1, none⟩ = some (.int .u64 y.ver) ∧ w'.cell? ⟨b, o + j * 5 + 2, none⟩ = some (.int .i64 y.num) ∧ w'.cell? ⟨b, o + j * 5 + 3, none⟩ = some (.int .u64 y.ctr) ∧ w'.cell? ⟨b, o + j * 5 + 4, none⟩ = some (.int .i64 y.size) ∧ w'.cell? ⟨b', o' + k * 5, none⟩ = some (.string x.name) ∧ w'.cell? ⟨b', o' + k * 5 + 1, none⟩ = some (.int .u64 x.ver) ∧ w'.cell? ⟨b', o' + k * 5 + 2, none⟩ = some (.int .i64 x.num) ∧ w'.cell? ⟨b', o' + k * 5 + 3, none⟩ = some (.int .u64 x.ctr) ∧ w'.cell? ⟨b', o' + k * 5 + 4, none⟩ = some (.int .i64 x.size)) (go_keep)
                  ((go_at_call 11; refine (same_w x y _).mono ?_; rintro e w' ⟨rfl, rfl⟩; rw [hx]; unfold sameW))
                obtain ⟨hle, hMt⟩ := HMore.out ((same_iff x y).1 hx)
                have hy0 : 0 ≤ y.size := by rw [← HY.out]; exact (HSZ.out _ (getD_mem hj)).1
                have HMt : Hid _ := hMt
                clear hMt HMore HSkip
                have hb1 : ((j : Int) == (xs.length : Int)) = false := by rw [beq_eq_false_iff_ne]; omega
                have hb2 : (j == xs.length) = false := by rw [beq_eq_false_iff_ne]; omega
                have hw1 : IntKind.i64.wrap (s.sum - sum - acc) = s.sum - sum - acc := by rw [IntKind.wrap_i64]; omega
                have hw2 : IntKind.i64.wrap (acc + y.size) = acc + y.size := by rw [IntKind.wrap_i64]; omega
                have hd1 : decide (s.sum - sum - acc < y.size) = false := by simpa using hle
                go_wp2
                go_roundw
                case rel => exact ⟨k + 1, j + 1, acc + y.size, by omega, by omega, rfl, by go_num, by go_num, by first | exact HMt.out | (rw [HY.out] at HMt; exact HMt.out), HM.out.more (((Grow.refl _).alloc _).alloc _).drew⟩
                case measure => simp [intOf]; omega
          · obtain rfl := hMa.need (by omega)
            have HMM : Hid _ := hM
            clear hMa hM
            go_wp2
            exact HN.out _ _ ⟨rfl, rfl, rfl, rfl, rfl, rfl, rfl, rfl⟩ ⟨rfl, rfl, rfl, rfl, rfl, by rw [HF.out]; rfl, rfl, rfl⟩ HMM.out

end Go.Proofs.Qxb6602155a
