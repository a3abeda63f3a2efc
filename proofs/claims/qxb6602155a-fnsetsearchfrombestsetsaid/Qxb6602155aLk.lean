/-
  The law (3): statements 35 (the brute force).
-/
import Derived.Test.Qxb6602155aLj
import Derived.Test.Qxb6602155aHs
import Derived.Test.Qxb6602155aLx
namespace Go.Proofs.Qxb6602155a
open Go.RowKit

/-- What the brute force holds. -/
def Holds (val : List Bool → Int) (m : Nat) (a : Option Nat) (h b tt : Value) : Prop :=
  (a = none ∧ h = .bool false ∧ b = .int .i64 0 ∧ tt = .int .i64 0) ∨ ∃ c : Nat, a = some c ∧ h = .bool true ∧ b = .int .i64 c ∧ tt = .int .i64 (val (maskOf m c))
/-- The state of the brute force's loop. -/
def Outer (lo hi : Int) (least : Bool) (l : List It) (sum : Int) (M : Nat) (h b tt : Value) : Prop :=
  ∃ a, Brute lo hi least (valOf l sum) l.length M a ∧ Holds (valOf l sum) l.length a h b tt
theorem Outer.start (lo hi : Int) (least : Bool) (l : List It) (sum : Int) : Outer lo hi least l sum 0 (.bool false) (.int .i64 0) (.int .i64 0) :=
  ⟨none, .inl ⟨rfl, fun k hk => by omega⟩, .inl ⟨rfl, rfl, rfl, rfl⟩⟩
theorem Outer.skip {lo hi : Int} {least : Bool} {l : List It} {sum : Int} {M : Nat} {h b tt : Value} (hO : Outer lo hi least l sum M h b tt) (hf : ¬ feas lo hi (valOf l sum) (maskOf l.length M)) : Outer lo hi least l sum (M + 1) h b tt := by
  obtain ⟨a, h1, h2⟩ := hO
  exact ⟨a, h1.skip hf, h2⟩
theorem Outer.takes {lo hi : Int} {least : Bool} {l : List It} {sum : Int} {M : Nat} {T : Int} (hT : T = valOf l sum (maskOf l.length M)) (h : Brute lo hi least (valOf l sum) l.length (M + 1) (some M)) : Outer lo hi least l sum (M + 1) (.bool true) (.int .i64 M) (.int .i64 T) :=
  ⟨some M, h, .inr ⟨M, rfl, rfl, rfl, by rw [hT]⟩⟩
theorem Brute.lt {lo hi : Int} {least : Bool} {val : List Bool → Int} {m M c : Nat} (h : Brute lo hi least val m M (some c)) : c < M := by
  rcases h with ⟨h, _⟩ | ⟨c', h, h1, _⟩
  · cases h
  · cases h; exact h1
theorem Outer.gains {lo hi : Int} {least : Bool} {l : List It} {sum : Int} {M c : Nat} {T bt : Int} (hT : T = valOf l sum (maskOf l.length M)) (hbt : valOf l sum (maskOf l.length c) = bt) (h : Brute lo hi least (valOf l sum) l.length M (some c))
    (hf : feas lo hi (valOf l sum) (maskOf l.length M)) (hb : (least = true ∧ T < bt) ∨ (least = false ∧ bt < T) ∨ (T = bt ∧ lex (maskOf l.length M) (maskOf l.length c) = true)) : Outer lo hi least l sum (M + 1) (.bool true) (.int .i64 M) (.int .i64 T) := by
  refine ⟨some M, h.better hf ?_, .inr ⟨M, rfl, rfl, rfl, by rw [hT]⟩⟩
  subst hT hbt
  rcases hb with hb | hb | hb
  · exact .inl (.inl hb)
  · exact .inl (.inr hb)
  · exact .inr hb
theorem Outer.keeps {lo hi : Int} {least : Bool} {l : List It} {sum : Int} {M c : Nat} {T bt : Int} (hT : T = valOf l sum (maskOf l.length M)) (hbt : valOf l sum (maskOf l.length c) = bt) (h : Brute lo hi least (valOf l sum) l.length M (some c))
    (h1 : least = true → ¬ T < bt) (h2 : least = false → ¬ bt < T) (h3 : T = bt → lex (maskOf l.length M) (maskOf l.length c) = false) (hM : M < 2 ^ l.length) : Outer lo hi least l sum (M + 1) (.bool true) (.int .i64 c) (.int .i64 bt) := by
  refine ⟨some c, h.worse ?_ ?_ hM, .inr ⟨c, rfl, rfl, rfl, by rw [hbt]⟩⟩
  · subst hT hbt
    rintro (⟨a, b⟩ | ⟨a, b⟩)
    · exact h1 a b
    · exact h2 a b
  · subst hT hbt
    exact h3
theorem drop_get {xs : List It} {i b : Nat} (h : i + b < xs.length) : (xs.drop i)[b]? = some (xs.getD (i + b) noIt) := by
  rw [List.getElem?_drop]
  simp [List.getD, h]

set_option maxRecDepth 100000 in
set_option maxHeartbeats 8000000 in
theorem secE35 (R c : Code) (hc : segOf 35 1 R Try.f3.body = some c) (w0 w : World) (c1 c2 : Option Addr) (xs ss : List It) (lo hi sum : Int) (i : Nat) (least : Bool) (ib rb : Nat) (ba na : Option Addr) (bc nc : Nat) (s : St) (t : Array Value)
    (hF : Fr (.slice c1 xs.length xs.length) (.slice c2 ss.length ss.length) lo hi least i sum t) (hL : Sl xs.length ib rb ba na bc nc s ss.length t) (hM : Mem w0 w xs ss c1 c2 ib rb ba na s) (nx : xs.length ≤ 4096) (_ns : ss.length ≤ 4096) (m : Nat) (hm : m ≤ 11) (him : (xs.drop i).length = m) (hi' : i ≤ xs.length) (hB : BF m (.bool false) (.int .i64 0) (.int .i64 0) t) (hsz : ∀ x ∈ xs, InR x.size) (hs0 : 0 ≤ sum) (hh1 : InI hi)
    (hn : ∀ t' w' h b tt, Fr (.slice c1 xs.length xs.length) (.slice c2 ss.length ss.length) lo hi least i sum t' → Sl xs.length ib rb ba na bc nc s ss.length t' → BF m h b tt t' → Outer lo hi least (xs.drop i) sum (2 ^ m) h b tt → Mem w0 w' xs ss c1 c2 ib rb ba na s → Code.wp Try.prog R (bodyPost Try.prog Try.f3 (LawEnd w0)) ⟨t', []⟩ w') :
    Code.wp Try.prog c (bodyPost Try.prog Try.f3 (LawEnd w0)) ⟨t, []⟩ w := by
  have ec := Option.some.inj hc
  clear hc
  subst ec
  simp only [dropC, segC]
  have HN : Hid _ := hn
  clear hn
  rw [arr_open t hF.size, hF.s0, hF.s1, hF.s2, hF.s3, hF.s4, hF.s5, hF.s6, hL.s19, hL.s20, hL.s24, hL.s26, hL.s27, hL.s28, hL.s29, hL.s30, hB.s41, hB.s42, hB.s43, hB.s44]
  clear hF hL hB
  have hpow : (2 ^ m : Nat) < 4096 := Nat.lt_of_le_of_lt (Nat.pow_le_pow_right (by omega) hm : 2 ^ m ≤ 2 ^ 11) (by decide)
  have hlen : i + m = xs.length := by rw [← him]; simp; omega
  have hszl : ∀ x ∈ xs.drop i, 0 ≤ x.size := fun x hx => (hsz x (List.mem_of_mem_drop hx)).1
  have hpe : ((2 ^ m : Nat) : Int) = (2 : Int) ^ m := by simp
  have hw2 : IntKind.i64.wrap ((2 : Int) ^ m) = (2 : Int) ^ m := by rw [← hpe]; generalize (2 ^ m : Nat) = P at *; rw [IntKind.wrap_i64]; omega
  obtain ⟨hh0, hh1⟩ := hh1
  go_wp2
  go_loopw [42, 43, 44, 45, 46, 47, 48, 49, 50] (fun h b tt k _ _ _ _ _ wr => ∃ M : Nat, M ≤ 2 ^ m ∧ k = .int .i64 M ∧ Outer lo hi least (xs.drop i) sum M h b tt ∧ Mem w0 wr xs ss c1 c2 ib rb ba na s) (fun _ _ _ k _ _ _ _ _ _ => 2 ^ m - (intOf k).toNat)
  case atStart => exact ⟨0, Nat.zero_le _, rfl, Outer.start .., hM⟩
  case round =>
    clear hM
    obtain ⟨M, hM1, rfl, hO, hMem⟩ := hrel
    by_cases hlt : M < 2 ^ m
    · have HO : Hid (Outer lo hi least (xs.drop i) sum M u42 u43 u44) := hO
      have HMem : Hid _ := hMem
      have HSL : Hid _ := hszl
      have HIM : Hid _ := him
      have HSZ : Hid _ := hsz
      have hd0 : decide ((M : Int) < (2 : Int) ^ m) = true := decide_eq_true (by rw [← hpe]; exact Int.ofNat_lt.2 hlt)
      clear hO hMem hszl him hsz
      have hM4 : M < 4096 := by omega
      have HP : Hid _ := hpow
      have HLT : Hid _ := hlt
      have HM1 : Hid _ := hM1
      clear hpow hlt hM1 hpe
      go_wp2
      clear hd0
      go_loop [46, 47, 48, 49] (fun T ok b _ => ∃ (b' : Nat) (okb : Bool) (T' : Int), b' ≤ m ∧ T = .int .i64 T' ∧ ok = .bool okb ∧ b = .int .i64 b' ∧ Inner (xs.drop i) sum hi M b' okb T') (fun _ _ b _ => m - (intOf b).toNat)
      case atStart => exact ⟨0, decide (sum ≤ hi), sum, Nat.zero_le _, rfl, rfl, rfl, Inner.start HSL.out⟩
      case round =>
        obtain ⟨b', okb, T, hb', rfl, rfl, rfl, hI⟩ := hrel
        cases okb with
        | false =>
          have hbad := hI.bad
          rw [HIM.out] at hbad
          have HB : Hid _ := hbad
          clear hI hbad
          go_wp2
          go_roundw
          case rel => exact ⟨M + 1, by have := HLT.out; omega, by go_num, HO.out.skip (by rw [HIM.out]; have := HB.out; unfold feas; omega), HMem.out⟩
          case measure => have := HLT.out; simp [intOf]; omega
        | true =>
          obtain ⟨hT1, hT2⟩ := hI.bound HSL.out (by rw [HIM.out]; exact hb')
          by_cases hlt : b' < m
          · have ba := bit_at M b' (by omega)
            cases hbit : M.testBit b' with
            | false =>
              rw [hbit] at ba
              have hx : (bits .and .i64 ((M : Int) / 2 ^ b') 1 == 1) = false := by rw [ba]; rfl
              have hI2 := hI.no (by rw [HIM.out]; exact hlt) hbit
              have HI : Hid _ := hI2
              clear ba hI hI2 hbit
              go_wp2
              go_round
              case rel => exact ⟨b' + 1, true, T, by omega, rfl, rfl, by go_num, HI.out⟩
              case measure => simp [intOf]; omega
            | true =>
              rw [hbit] at ba
              have hx : (bits .and .i64 ((M : Int) / 2 ^ b') 1 == 1) = true := by rw [ba]; rfl
              have hib : i + b' < xs.length := by omega
              have hg := drop_get hib
              have hz := (HSZ.out _ (getD_mem hib)).1
              have hz2 := (HSZ.out _ (getD_mem hib)).2
              unfold maxI at hz2
              obtain ⟨q, o, rfl, hA⟩ := HMem.out.ix.at hib
              have q4 := hA.c4
              have hyes := hI.yes (by rw [HIM.out]; exact hlt) hg hbit
              have hover := hI.over (by rw [HIM.out]; exact hlt) hg hbit
              generalize (xs.getD (i + b') noIt).size = sz at *
              have HY : Hid _ := hyes
              have HOv : Hid _ := hover
              clear ba hI hbit hA hg hyes hover
              have hw3 : IntKind.i64.wrap (hi - T) = hi - T := by rw [IntKind.wrap_i64]; omega
              have hw4 : IntKind.i64.wrap ((i : Int) + (b' : Int)) = (i : Int) + (b' : Int) := by rw [IntKind.wrap_i64]; omega
              by_cases hle : sz ≤ hi - T
              · have hw5 : IntKind.i64.wrap (T + sz) = T + sz := by rw [IntKind.wrap_i64]; omega
                go_wp2
                go_round
                case rel => exact ⟨b' + 1, true, T + sz, by omega, rfl, rfl, by go_num, HY.out hle⟩
                case measure => simp [intOf]; omega
              · go_wp2
                go_round
                case rel => exact ⟨b' + 1, false, T, by omega, rfl, rfl, by go_num, HOv.out hle HSL.out _ _⟩
                case measure => simp [intOf]; omega
          · obtain rfl : b' = m := by omega
            rw [← HIM.out] at hI
            obtain ⟨hTv, _⟩ := hI.done
            have HTV : Hid _ := hTv
            clear hI hTv
            by_cases hlo : T < lo
            · go_wp2
              go_roundw
              case rel => exact ⟨M + 1, by have := HLT.out; omega, by go_num, HO.out.skip (by have := HTV.out; unfold feas; omega), HMem.out⟩
              case measure => have := HLT.out; simp [intOf]; omega
            · have hfeas : feas lo hi (valOf (xs.drop i) sum) (maskOf (xs.drop i).length M) := by have := HTV.out; unfold feas; omega
              have HFe : Hid (feas lo hi (valOf (xs.drop i) sum) (maskOf (xs.drop i).length M)) := hfeas
              clear hfeas
              obtain ⟨a, hBr, hH⟩ := HO.out
              clear HO
              rcases hH with ⟨rfl, rfl, rfl, rfl⟩ | ⟨c, rfl, rfl, rfl, rfl⟩
              · have HBr : Hid (Brute lo hi least (valOf (xs.drop i) sum) (xs.drop i).length M none) := hBr
                clear hBr
                go_wp2
                go_roundw
                case rel => exact ⟨M + 1, by have := HLT.out; omega, by go_num, Outer.takes HTV.out (HBr.out.first HFe.out), HMem.out⟩
                case measure => have := HLT.out; simp [intOf]; omega
              · have hcM := Brute.lt hBr
                generalize hbt : valOf (xs.drop i) sum (maskOf (xs.drop i).length c) = bt at *
                have HBr : Hid (Brute lo hi least (valOf (xs.drop i) sum) (xs.drop i).length M (some c)) := hBr
                have HBT : Hid _ := hbt
                clear hBr hbt
                cases least with
                | true =>
                  rcases Int.lt_trichotomy T bt with hc | hc | hc
                  · have hd1 : decide (T < bt) = true := decide_eq_true hc
                    go_wp2
                    go_roundw
                    case rel => exact ⟨M + 1, by have := HLT.out; omega, by go_num, Outer.gains HTV.out HBT.out HBr.out HFe.out (.inl ⟨rfl, hc⟩), HMem.out⟩
                    case measure => have := HLT.out; simp [intOf]; omega
                  · have hd1 : decide (T < bt) = false := by simp [hc]
                    have hb1 : (T == bt) = true := by simp [hc]
                    go_wp2_with fail
                    refine (lexLess_any _ M c hm HLT.out (Nat.lt_trans hcM HLT.out) _).mono ?_
                    rintro e w1 ⟨rfl, n1, rfl⟩
                    have hMem2 := HMem.out.more ((Grow.refl _).drewN n1)
                    have HMem2 : Hid _ := hMem2
                    clear hMem2
                    cases hlex : lex (maskOf b' M) (maskOf b' c) with
                    | true =>
                      have HLex : Hid _ := hlex
                      clear hlex
                      go_wp2
                      go_roundw
                      case rel => exact ⟨M + 1, by have := HLT.out; omega, by go_num, Outer.gains (hc.symm.trans HTV.out) HBT.out HBr.out HFe.out (.inr (.inr ⟨rfl, by rw [HIM.out]; exact HLex.out⟩)), HMem2.out⟩
                      case measure => have := HLT.out; simp [intOf]; omega
                    | false =>
                      have HLex : Hid _ := hlex
                      clear hlex
                      go_wp2
                      go_roundw
                      case rel => exact ⟨M + 1, by have := HLT.out; omega, by go_num, Outer.keeps HTV.out HBT.out HBr.out (fun _ => by omega) (fun _ => by omega) (fun _ => by rw [HIM.out]; exact HLex.out) (by rw [HIM.out]; exact HLT.out), HMem2.out⟩
                      case measure => have := HLT.out; simp [intOf]; omega
                  · have hd1 : decide (T < bt) = false := decide_eq_false (by omega)
                    have hb1 : (T == bt) = false := by rw [beq_eq_false_iff_ne]; omega
                    go_wp2
                    go_roundw
                    case rel => exact ⟨M + 1, by have := HLT.out; omega, by go_num, Outer.keeps HTV.out HBT.out HBr.out (fun e => by first | omega | cases e) (fun e => by first | omega | cases e) (fun e => by omega) (by rw [HIM.out]; exact HLT.out), HMem.out⟩
                    case measure => have := HLT.out; simp [intOf]; omega
                | false =>
                  rcases Int.lt_trichotomy T bt with hc | hc | hc
                  · have hd1 : decide (bt < T) = false := decide_eq_false (by omega)
                    have hb1 : (T == bt) = false := by rw [beq_eq_false_iff_ne]; omega
                    go_wp2
                    go_roundw
                    case rel => exact ⟨M + 1, by have := HLT.out; omega, by go_num, Outer.keeps HTV.out HBT.out HBr.out (fun e => by first | omega | cases e) (fun e => by first | omega | cases e) (fun e => by omega) (by rw [HIM.out]; exact HLT.out), HMem.out⟩
                    case measure => have := HLT.out; simp [intOf]; omega
                  · have hd1 : decide (bt < T) = false := by simp [hc]
                    have hb1 : (T == bt) = true := by simp [hc]
                    go_wp2_with fail
                    refine (lexLess_any _ M c hm HLT.out (Nat.lt_trans hcM HLT.out) _).mono ?_
                    rintro e w1 ⟨rfl, n1, rfl⟩
                    have hMem2 := HMem.out.more ((Grow.refl _).drewN n1)
                    have HMem2 : Hid _ := hMem2
                    clear hMem2
                    cases hlex : lex (maskOf b' M) (maskOf b' c) with
                    | true =>
                      have HLex : Hid _ := hlex
                      clear hlex
                      go_wp2
                      go_roundw
                      case rel => exact ⟨M + 1, by have := HLT.out; omega, by go_num, Outer.gains (hc.symm.trans HTV.out) HBT.out HBr.out HFe.out (.inr (.inr ⟨rfl, by rw [HIM.out]; exact HLex.out⟩)), HMem2.out⟩
                      case measure => have := HLT.out; simp [intOf]; omega
                    | false =>
                      have HLex : Hid _ := hlex
                      clear hlex
                      go_wp2
                      go_roundw
                      case rel => exact ⟨M + 1, by have := HLT.out; omega, by go_num, Outer.keeps HTV.out HBT.out HBr.out (fun _ => by omega) (fun _ => by omega) (fun _ => by rw [HIM.out]; exact HLex.out) (by rw [HIM.out]; exact HLT.out), HMem2.out⟩
                      case measure => have := HLT.out; simp [intOf]; omega
                  · have hd1 : decide (bt < T) = true := decide_eq_true hc
                    go_wp2
                    go_roundw
                    case rel => exact ⟨M + 1, by have := HLT.out; omega, by go_num, Outer.gains HTV.out HBT.out HBr.out HFe.out (.inr (.inl ⟨rfl, hc⟩)), HMem.out⟩
                    case measure => have := HLT.out; simp [intOf]; omega
    · obtain rfl : M = 2 ^ m := by omega
      have hd0 : decide ((((2 : Nat) ^ m : Nat) : Int) < (2 : Int) ^ m) = false := by simp
      have HO : Hid _ := hO
      have HMem : Hid _ := hMem
      clear hO hMem hsz hszl
      go_wp2
      exact HN.out _ _ _ _ _ ⟨rfl, rfl, rfl, rfl, rfl, rfl, rfl, rfl⟩ ⟨rfl, rfl, rfl, rfl, rfl, rfl, rfl, rfl⟩ ⟨rfl, rfl, rfl, rfl⟩ HO.out HMem.out

end Go.Proofs.Qxb6602155a
