/-
  The walk of numberTag (18).
-/
import Derived.Test.Qxb6602278aTe
import Derived.Deep.DeepCutAuto
namespace Go.Proofs.Qxb6602278a
open Go.RowKit

def tailT (l : List UInt8) : Nat := match l with
  | [] => 2
  | c :: r => if isEx c then (if digB 10 (unsg r) then 2 else 0) else 0
def flt (u : List UInt8) : Nat := match u.dropWhile isD with
  | [] => if u.takeWhile isD = [] then 0 else tailT []
  | c :: r => if isDt c then (if u.takeWhile isD = [] ∧ r.takeWhile isD = [] then 0 else tailT (r.dropWhile isD)) else if u.takeWhile isD = [] then 0 else tailT (c :: r)
def numTag (l : List UInt8) : Nat :=
  if isNaN l then 2 else if radix l then 1 else if isInf (unsg l) then 2 else if digB 10 (unsg l) then 1 else flt (unsg l)

theorem nan_facts {s : ByteArray} (h : isNaN s.data.toList = false) : (s.toList == [46, 110, 97, 110]) = false ∧ (s.toList == [46, 78, 97, 78]) = false ∧ (s.toList == [46, 78, 65, 78]) = false := by
  simp only [isNaN, Bool.or_eq_false_iff] at h
  rw [ByteArray.toList_eq]
  exact ⟨h.1.1, h.1.2, h.2⟩
theorem inf_facts {s : ByteArray} (h : isInf s.data.toList = false) : (s.toList == [46, 105, 110, 102]) = false ∧ (s.toList == [46, 73, 110, 102]) = false ∧ (s.toList == [46, 73, 78, 70]) = false := by
  simp only [isInf, Bool.or_eq_false_iff] at h
  rw [ByteArray.toList_eq]
  exact ⟨h.1.1, h.1.2, h.2⟩

set_option maxHeartbeats 400000 in
theorem numberTag_nan (s : ByteArray) (w : World) (h : isNaN s.data.toList = true) : Calls Try.prog 18 #[.string s] w fun e w' => e = .returned (.string (tagS 2)) ∧ Below w.heap.size w w' := by
  have hor : s.toList = [46, 110, 97, 110] ∨ (¬ s.toList = [46, 110, 97, 110] ∧ s.toList = [46, 78, 97, 78]) ∨ (¬ s.toList = [46, 110, 97, 110] ∧ ¬ s.toList = [46, 78, 97, 78] ∧ s.toList = [46, 78, 65, 78]) := by
    simp only [isNaN, Bool.or_eq_true, beq_iff_eq] at h
    rw [ByteArray.toList_eq]
    by_cases a : s.data.toList = [46, 110, 97, 110]
    · exact .inl a
    · by_cases b : s.data.toList = [46, 78, 97, 78]
      · exact .inr (.inl ⟨a, b⟩)
      · rcases h with (h | h) | h
        · exact absurd h a
        · exact absurd h b
        · exact .inr (.inr ⟨a, b, h⟩)
  rcases hor with h1 | ⟨h1, h2⟩ | ⟨h1, h2, h3⟩
  all_goals
    go_enter Try.func18, Try.ntmps18
    go_wp2
    go_ret
    exact ⟨rfl, Below.refl _ _⟩

theorem inB8 : inB 8 = isO := by funext c; simp [inB]
theorem inB10 : inB 10 = isD := by funext c; simp [inB]
theorem inB16 : inB 16 = isH := by funext c; simp [inB]
theorem drop2_ne {s : ByteArray} (h : 2 < s.size) : (s.data.toList.drop 2).isEmpty = false := by
  have hl : 2 < s.data.toList.length := by simpa using h
  cases hq : s.data.toList.drop 2 with
  | nil => have := congrArg List.length hq; simp at this; omega
  | cons _ _ => rfl
theorem dig8 {s : ByteArray} (h : 2 < s.size) : digB 8 (s.extract 2 s.size).data.toList = (s.data.toList.drop 2).all isO := by
  rw [extract_drop, digB, drop2_ne h, inB8]; simp
theorem dig16 {s : ByteArray} (h : 2 < s.size) : digB 16 (s.extract 2 s.size).data.toList = (s.data.toList.drop 2).all isH := by
  rw [extract_drop, digB, drop2_ne h, inB16]; simp
theorem extract_size_le (s : ByteArray) (k : Nat) : (s.extract k s.size).size ≤ s.size := by simp

/-- The first byte, and what follows it. -/
def sgB (s : ByteArray) : Bool := match s.data.toList with | [] => false | c :: _ => isSg c

theorem sgB_nil {s : ByteArray} (h : s.size = 0) : sgB s = false := by simp [sgB, nil_of h]
theorem sgB_cons {s : ByteArray} (h : 0 < s.size) : sgB s = isSg s[0] := by simp only [sgB]; rw [cons_of s h]
theorem unsg_of_not {s : ByteArray} (h : sgB s = false) : unsg s.data.toList = s.data.toList := by
  unfold sgB at h
  cases hq : s.data.toList with
  | nil => rfl
  | cons c r => rw [hq] at h; simp only at h; simp [unsg, h]
theorem unsg_of_sg {s : ByteArray} (h : sgB s = true) : 0 < s.size ∧ unsg s.data.toList = (s.extract 1 s.size).data.toList := by
  by_cases h0 : s.size = 0
  · rw [sgB_nil h0] at h; cases h
  · have hp : 0 < s.size := by omega
    rw [sgB_cons hp] at h
    refine ⟨hp, ?_⟩
    conv => lhs; rw [cons_of s hp]
    simp only [unsg, h, if_true]

theorem or3 {s : ByteArray} {a b c : List UInt8} (h : (s.data.toList == a || s.data.toList == b || s.data.toList == c) = true) : s.toList = a ∨ (¬ s.toList = a ∧ s.toList = b) ∨ (¬ s.toList = a ∧ ¬ s.toList = b ∧ s.toList = c) := by
  simp only [Bool.or_eq_true, beq_iff_eq] at h
  rw [ByteArray.toList_eq]
  by_cases x : s.data.toList = a
  · exact .inl x
  · by_cases y : s.data.toList = b
    · exact .inr (.inl ⟨x, y⟩)
    · rcases h with (h | h) | h
      · exact absurd h x
      · exact absurd h y
      · exact .inr (.inr ⟨x, y, h⟩)

/-- Does it begin with a point? -/
def dtB (s : ByteArray) : Bool := match s.data.toList with | [] => false | c :: _ => isDt c
theorem dtB_nil {s : ByteArray} (h : s.size = 0) : dtB s = false := by simp [dtB, nil_of h]
theorem dtB_cons {s : ByteArray} (h : 0 < s.size) : dtB s = isDt s[0] := by simp only [dtB]; rw [cons_of s h]
theorem dt_cons {s : ByteArray} (h : dtB s = true) : ∃ c, isDt c = true ∧ 0 < s.size ∧ s.data.toList = c :: (s.extract 1 s.size).data.toList := by
  by_cases h0 : s.size = 0
  · rw [dtB_nil h0] at h; cases h
  · have hp : 0 < s.size := by omega
    rw [dtB_cons hp] at h
    exact ⟨_, h, hp, cons_of s hp⟩
theorem size_of_takeWhile {a u : ByteArray} (h : a.data.toList = u.data.toList.takeWhile isD) (hu : u.size ≤ 1048576) : a.size ≤ 1048576 := by
  have := congrArg List.length h
  have h2 := List.Sublist.length_le (List.takeWhile_sublist (p := isD) (l := u.data.toList))
  simp at this h2
  omega
theorem size_of_dropWhile {a u : ByteArray} (h : a.data.toList = u.data.toList.dropWhile isD) (hu : u.size ≤ 1048576) : a.size ≤ 1048576 := by
  have := congrArg List.length h
  have h2 := List.Sublist.length_le (List.dropWhile_sublist (p := isD) (l := u.data.toList))
  simp at this h2
  omega
theorem isEmpty_iff_nil (s : ByteArray) : s.toList.isEmpty = true ↔ s.data.toList = [] := by rw [ByteArray.toList_eq, List.isEmpty_iff]

theorem flt_dot {u a b f r2 : ByteArray} {c : UInt8} (ha : a.data.toList = u.data.toList.takeWhile isD) (hb : b.data.toList = u.data.toList.dropWhile isD) (hc : isDt c = true) (hbc : b.data.toList = c :: (b.extract 1 b.size).data.toList)
    (hf : f.data.toList = (b.extract 1 b.size).data.toList.takeWhile isD) (hr : r2.data.toList = (b.extract 1 b.size).data.toList.dropWhile isD) :
    flt u.data.toList = if a.toList.isEmpty = true ∧ f.toList.isEmpty = true then 0 else tailT r2.data.toList := by
  simp only [isEmpty_iff_nil]
  unfold flt
  rw [← hb, ← ha, hbc]
  simp only [hc, if_true]
  rw [hf, hr]
theorem flt_nodot {u a b : ByteArray} (ha : a.data.toList = u.data.toList.takeWhile isD) (hb : b.data.toList = u.data.toList.dropWhile isD) (hd : dtB b = false) :
    flt u.data.toList = if a.toList.isEmpty = true then 0 else tailT b.data.toList := by
  simp only [isEmpty_iff_nil]
  unfold flt
  rw [← hb, ← ha]
  unfold dtB at hd
  cases hq : b.data.toList with
  | nil => rfl
  | cons c r => rw [hq] at hd; simp only at hd; simp [hd]

theorem tailT_nil {s : ByteArray} (h : s.size = 0) : tailT s.data.toList = 2 := by rw [nil_of h]; rfl
theorem tailT_cons {s : ByteArray} (h : 0 < s.size) : tailT s.data.toList = if isEx s[0] then (if digB 10 (unsg (s.extract 1 s.size).data.toList) then 2 else 0) else 0 := by
  conv => lhs; rw [cons_of s h]
  rfl

set_option maxRecDepth 100000 in
set_option maxHeartbeats 4000000 in
theorem numberTag_rest (s : ByteArray) (w : World) (hs : s.size ≤ 1048576) (h : isNaN s.data.toList = false) :
    Calls Try.prog 18 #[.string s] w fun e w' => e = .returned (.string (tagS (numTag s.data.toList))) ∧ Below w.heap.size w w' := by
  obtain ⟨n1, n2, n3⟩ := nan_facts h
  go_enter Try.func18, Try.ntmps18
  go_upto_region 6 with fail
  go_cut [39] from 7 (fun t w1 => t = .bool (radix s.data.toList) ∧ Below w.heap.size w w1)
  case first =>
    by_cases h2 : 2 < s.size
    · have hr : Hid _ := radix_long h2
      have hp0 : 0 < s.size := by omega
      have hp1 : 1 < s.size := by omega
      have hx : (s.extract 2 s.size).size ≤ 1048576 := Nat.le_trans (extract_size_le s 2) hs
      by_cases h48 : s[0].toNat = 48
      · have f0 : ((s[0].toNat : Int) == 48) = true := by rw [beq_iff_eq]; omega
        by_cases ho : s[1].toNat = 111
        · have f1 : ((s[1].toNat : Int) == 111) = true := by rw [beq_iff_eq]; omega
          have f2 : ((s[1].toNat : Int) == 120) = false := by rw [beq_eq_false_iff_ne]; omega
          have HR : Hid (radix s.data.toList = digB 8 (s.extract 2 s.size).data.toList) := by rw [Hid, hr.out, dig8 h2]; simp [h48, ho]
          clear hr h48 ho
          go_wp2_with fail
          refine (digitsIn_any _ 8 (.inl rfl) _ hx).mono ?_
          rintro e w1 ⟨rfl, hb1⟩
          generalize digB 8 (s.extract 2 s.size).data.toList = d at *
          cases d
          all_goals
            go_wp2_with fail
            go_meet
            case rel => exact ⟨by rw [HR.out], hb1⟩
        · have f1 : ((s[1].toNat : Int) == 111) = false := by rw [beq_eq_false_iff_ne]; omega
          by_cases hx1 : s[1].toNat = 120
          · have f2 : ((s[1].toNat : Int) == 120) = true := by rw [beq_iff_eq]; omega
            have HR : Hid (radix s.data.toList = digB 16 (s.extract 2 s.size).data.toList) := by rw [Hid, hr.out, dig16 h2]; simp [h48, hx1]
            clear hr h48 ho hx1
            go_wp2_with fail
            refine (digitsIn_any _ 16 (.inr (.inr rfl)) _ hx).mono ?_
            rintro e w1 ⟨rfl, hb1⟩
            generalize digB 16 (s.extract 2 s.size).data.toList = d at *
            cases d
            all_goals
              go_wp2_with fail
              go_meet
              case rel => exact ⟨by rw [HR.out], hb1⟩
          · have f2 : ((s[1].toNat : Int) == 120) = false := by rw [beq_eq_false_iff_ne]; omega
            have HR : Hid (radix s.data.toList = false) := by rw [Hid, hr.out]; simp [ho, hx1]
            clear hr h48 ho hx1
            go_wp2_with fail
            go_meet
            case rel => exact ⟨by rw [HR.out], Below.refl _ _⟩
      · have f0 : ((s[0].toNat : Int) == 48) = false := by rw [beq_eq_false_iff_ne]; omega
        have HR : Hid (radix s.data.toList = false) := by rw [Hid, hr.out]; simp [h48]
        clear hr h48
        go_wp2_with fail
        go_meet
        case rel => exact ⟨by rw [HR.out], Below.refl _ _⟩
    · have HR : Hid (radix s.data.toList = false) := radix_short (by omega)
      have hd : decide ((2 : Int) < (s.size : Int)) = false := by simp; omega
      go_wp2_with fail
      go_meet
      case rel => exact ⟨by rw [HR.out], Below.refl _ _⟩
  case rest =>
    obtain ⟨rfl, hb⟩ := hcut
    have HN : Hid (isNaN s.data.toList = false) := h
    clear h n1 n2 n3
    cases hrad : radix s.data.toList with
    | true =>
      go_wp2
      go_ret
      exact ⟨ret_tag (by simp [numTag, HN.out, hrad, tagS]), hb⟩
    | false =>
      have HRA : Hid (radix s.data.toList = false) := hrad
      clear hrad
      go_upto_region 9 with fail
      go_cut [52] from 7 (fun t w1 => t = .bool (sgB s) ∧ w1 = wc)
      case first =>
        by_cases h0 : s.size = 0
        · obtain rfl := empty_of h0
          go_wp2_with fail
          go_meet
          case rel => exact ⟨rfl, rfl⟩
        · have hp0 : 0 < s.size := by omega
          have hem : s.toList.isEmpty = false := by rw [ByteArray.toList_eq, cons_of s hp0]; rfl
          have HS : Hid (sgB s = isSg s[0]) := sgB_cons hp0
          by_cases h45 : s[0].toNat = 45
          · have f1 : ((s[0].toNat : Int) == 45) = true := by rw [beq_iff_eq]; omega
            have HS2 : Hid (sgB s = true) := by rw [Hid, HS.out]; simp [isSg, h45]
            clear h45
            go_wp2_with fail
            go_meet
            case rel => exact ⟨by rw [HS2.out], rfl⟩
          · have f1 : ((s[0].toNat : Int) == 45) = false := by rw [beq_eq_false_iff_ne]; omega
            by_cases h43 : s[0].toNat = 43
            · have f2 : ((s[0].toNat : Int) == 43) = true := by rw [beq_iff_eq]; omega
              have HS2 : Hid (sgB s = true) := by rw [Hid, HS.out]; simp [isSg, h43]
              clear h45 h43
              go_wp2_with fail
              go_meet
              case rel => exact ⟨by rw [HS2.out], rfl⟩
            · have f2 : ((s[0].toNat : Int) == 43) = false := by rw [beq_eq_false_iff_ne]; omega
              have HS2 : Hid (sgB s = false) := by rw [Hid, HS.out]; simp [isSg, h43, h45]
              clear h45 h43
              go_wp2_with fail
              go_meet
              case rel => exact ⟨by rw [HS2.out], rfl⟩
      case rest =>
        obtain ⟨rfl, rfl⟩ := hcut
        go_upto_if 52 with fail
        go_cut [3] from 7 (fun t w1 => (∃ u : ByteArray, u.data.toList = unsg s.data.toList ∧ u.size ≤ 1048576 ∧ t = .string u) ∧ w1 = wc)
        case first =>
          cases hsg : sgB s with
          | true =>
            obtain ⟨hp0, hu⟩ := unsg_of_sg hsg
            have HU : Hid _ := hu
            clear hu hsg
            go_wp2_with fail
            go_meet
            case rel => exact ⟨⟨_, HU.out.symm, Nat.le_trans (extract_size_le s 1) hs, rfl⟩, rfl⟩
          | false =>
            have HU : Hid _ := unsg_of_not hsg
            clear hsg
            go_wp2_with fail
            go_meet
            case rel => exact ⟨⟨_, HU.out.symm, hs, rfl⟩, rfl⟩
        case rest =>
          obtain ⟨⟨u, hu, hus, rfl⟩, rfl⟩ := hcut
          have HU : Hid _ := hu
          clear hu
          have HNT : Hid (numTag s.data.toList = if isInf u.data.toList then 2 else if digB 10 u.data.toList then 1 else flt u.data.toList) := by
            rw [Hid, HU.out]; simp [numTag, HN.out, HRA.out]
          clear HU HN HRA
          cases hinf : isInf u.data.toList with
          | true =>
            have HV : Hid (numTag s.data.toList = 2) := by rw [Hid, HNT.out, hinf]; rfl
            rcases or3 hinf with h1 | ⟨h1, h2⟩ | ⟨h1, h2, h3⟩
            all_goals
              clear hinf
              go_wp2
              go_ret
              exact ⟨ret_tag (by rw [HV.out]; rfl), hb⟩
          | false =>
            obtain ⟨i1, i2, i3⟩ := inf_facts hinf
            have HNT2 : Hid (numTag s.data.toList = if digB 10 u.data.toList then 1 else flt u.data.toList) := by rw [Hid, HNT.out, hinf]; rfl
            clear HNT hinf
            go_wp2_with fail
            refine (digitsIn_any _ 10 (.inr (.inl rfl)) _ hus).mono ?_
            rintro e w1 ⟨rfl, hb1⟩
            have hb2 := hb.trans (hb1.mono hb.size)
            clear hb1 hb i1 i2 i3
            cases hdg : digB 10 u.data.toList with
            | true =>
              have HV : Hid (numTag s.data.toList = 1) := by rw [Hid, HNT2.out, hdg]; rfl
              clear hdg
              go_wp2
              go_ret
              exact ⟨ret_tag (by rw [HV.out]; rfl), hb2⟩
            | false =>
              have HV : Hid (numTag s.data.toList = flt u.data.toList) := by rw [Hid, HNT2.out, hdg]; rfl
              clear hdg HNT2
              go_wp2_with fail
              refine (leadingDigits_any _ _ hus).mono ?_
              rintro e w2 ⟨⟨a, b, ha, hbb, rfl⟩, n, rfl⟩
              have hb3 : Below w.heap.size w (w1.drewN n) := below_drewN hb2 n
              have HA : Hid _ := ha
              have HB : Hid _ := hbb
              have hbs := size_of_dropWhile hbb hus
              clear ha hbb hb2
              generalize w1.drewN n = w3 at *
              go_upto_region 20 with fail
              go_cut [73] from 7 (fun t w4 => t = .bool (dtB b) ∧ w4 = w3)
              case first =>
                by_cases h0 : b.size = 0
                · obtain rfl := empty_of h0
                  go_wp2_with fail
                  go_meet
                  case rel => exact ⟨rfl, rfl⟩
                · have hp0 : 0 < b.size := by omega
                  have hem : b.toList.isEmpty = false := by rw [ByteArray.toList_eq, cons_of b hp0]; rfl
                  have HS : Hid (dtB b = isDt b[0]) := dtB_cons hp0
                  by_cases h46 : b[0].toNat = 46
                  · have f1 : ((b[0].toNat : Int) == 46) = true := by rw [beq_iff_eq]; omega
                    have HS2 : Hid (dtB b = true) := by rw [Hid, HS.out]; simp [isDt, h46]
                    clear h46
                    go_wp2_with fail
                    go_meet
                    case rel => exact ⟨by rw [HS2.out], rfl⟩
                  · have f1 : ((b[0].toNat : Int) == 46) = false := by rw [beq_eq_false_iff_ne]; omega
                    have HS2 : Hid (dtB b = false) := by rw [Hid, HS.out]; simp [isDt, h46]
                    clear h46
                    go_wp2_with fail
                    go_meet
                    case rel => exact ⟨by rw [HS2.out], rfl⟩
              case rest =>
                obtain ⟨rfl, rfl⟩ := hcut
                go_upto_if 73 with fail
                go_cut [4, 5, 6] from 7 (fun _ t _ w4 => (∃ rr : ByteArray, flt u.data.toList = tailT rr.data.toList ∧ rr.size ≤ 1048576 ∧ t = .string rr) ∧ Below w.heap.size w w4)
                case first =>
                  cases hdt : dtB b with
                  | true =>
                    obtain ⟨c, hc, hp0, hbc⟩ := dt_cons hdt
                    have HBC : Hid _ := hbc
                    have hxs : (b.extract 1 b.size).size ≤ 1048576 := Nat.le_trans (extract_size_le b 1) hbs
                    clear hbc hdt
                    go_wp2_with fail
                    refine (leadingDigits_any _ _ hxs).mono ?_
                    rintro e w2 ⟨⟨f, r2, hf, hr2, rfl⟩, n2, rfl⟩
                    have hb4 : Below w.heap.size w (wc.drewN n2) := below_drewN hb3 n2
                    have hrs := size_of_dropWhile hr2 hxs
                    have HF : Hid _ := flt_dot HA.out HB.out hc HBC.out hf hr2
                    clear hf hr2 hb3
                    generalize wc.drewN n2 = w5 at *
                    by_cases hem : a.toList.isEmpty = true ∧ f.toList.isEmpty = true
                    · have HF2 : Hid (numTag s.data.toList = 0) := by rw [Hid, HV.out, HF.out, if_pos hem]
                      obtain ⟨e1, e2⟩ := hem
                      clear HF
                      go_wp2_with fail
                      go_ret
                      exact ⟨ret_tag (by rw [HF2.out]; rfl), hb4⟩
                    · have HF2 : Hid (flt u.data.toList = tailT r2.data.toList) := by rw [Hid, HF.out, if_neg hem]
                      clear HF
                      by_cases e1 : a.toList.isEmpty = true
                      · have e2 : f.toList.isEmpty = false := by simpa using fun h => hem ⟨e1, h⟩
                        clear hem
                        go_wp2_with fail
                        go_meet
                        case rel => exact ⟨⟨_, HF2.out, hrs, rfl⟩, hb4⟩
                      · have e2 : a.toList.isEmpty = false := by simpa using e1
                        clear hem e1
                        go_wp2_with fail
                        go_meet
                        case rel => exact ⟨⟨_, HF2.out, hrs, rfl⟩, hb4⟩
                  | false =>
                    have HF : Hid _ := flt_nodot HA.out HB.out hdt
                    clear hdt
                    by_cases e1 : a.toList.isEmpty = true
                    · have HF2 : Hid (numTag s.data.toList = 0) := by rw [Hid, HV.out, HF.out, if_pos e1]
                      clear HF
                      go_wp2_with fail
                      go_ret
                      exact ⟨ret_tag (by rw [HF2.out]; rfl), hb3⟩
                    · have HF2 : Hid (flt u.data.toList = tailT b.data.toList) := by rw [Hid, HF.out, if_neg e1]
                      have e2 : a.toList.isEmpty = false := by simpa using e1
                      clear HF e1
                      go_wp2_with fail
                      go_meet
                      case rel => exact ⟨⟨_, HF2.out, hbs, rfl⟩, hb3⟩
                case rest =>
                  obtain ⟨⟨rr, hrr, hrs, rfl⟩, hb5⟩ := hcut
                  have HT : Hid (numTag s.data.toList = tailT rr.data.toList) := by rw [Hid, HV.out, hrr]
                  clear hrr HV HA HB
                  by_cases h0 : rr.size = 0
                  · have HT2 : Hid (numTag s.data.toList = 2) := by rw [Hid, HT.out, tailT_nil h0]
                    obtain rfl := empty_of h0
                    clear HT
                    go_wp2
                    go_ret
                    exact ⟨ret_tag (by rw [HT2.out]; rfl), hb5⟩
                  · have hp0 : 0 < rr.size := by omega
                    have hem : rr.toList.isEmpty = false := by rw [ByteArray.toList_eq, cons_of rr hp0]; rfl
                    have HT2 : Hid _ := tailT_cons hp0
                    by_cases hex : isEx rr[0] = true
                    · have HT3 : Hid (numTag s.data.toList = if digB 10 (unsg (rr.extract 1 rr.size).data.toList) then 2 else 0) := by rw [Hid, HT.out, HT2.out, hex]; rfl
                      clear HT HT2
                      have hor : (rr[0].toNat : Int) = 101 ∨ ((rr[0].toNat : Int) ≠ 101 ∧ (rr[0].toNat : Int) = 69) := by simp [isEx] at hex; omega
                      obtain ⟨r1, hr1⟩ : ∃ r1, rr.extract 1 rr.size = r1 := ⟨_, rfl⟩
                      have hr1s : r1.size ≤ 1048576 := by rw [← hr1]; exact Nat.le_trans (extract_size_le rr 1) hrs
                      rw [hr1] at HT3
                      go_upto_region 27 with fail
                      go_cut [97] from 7 (fun t w6 => t = .bool false ∧ w6 = wc)
                      case first =>
                        clear hr1
                        rcases hor with f | ⟨f1, f2⟩
                        · have g1 : ((rr[0].toNat : Int) != 101) = false := by simpa using f
                          clear f
                          go_wp2_with fail
                          go_meet
                          case rel => exact ⟨rfl, rfl⟩
                        · have g1 : ((rr[0].toNat : Int) != 101) = true := by rw [bne_iff_ne]; exact f1
                          have g2 : ((rr[0].toNat : Int) != 69) = false := by simpa using f2
                          clear f1 f2
                          go_wp2_with fail
                          go_meet
                          case rel => exact ⟨rfl, rfl⟩
                      case rest =>
                        obtain ⟨rfl, rfl⟩ := hcut
                        clear hor hex
                        have hp1 : (1 : Int) ≤ (rr.size : Int) := by omega
                        go_upto_region 30 with fail
                        clear hr1
                        go_cut [111] from 7 (fun t w7 => t = .bool (sgB r1) ∧ w7 = wc)
                        case first =>
                          by_cases h0 : r1.size = 0
                          · obtain rfl := empty_of h0
                            go_wp2_with fail
                            go_meet
                            case rel => exact ⟨rfl, rfl⟩
                          · have hp0 : 0 < r1.size := by omega
                            have hem : r1.toList.isEmpty = false := by rw [ByteArray.toList_eq, cons_of r1 hp0]; rfl
                            have HS : Hid (sgB r1 = isSg r1[0]) := sgB_cons hp0
                            by_cases h45 : r1[0].toNat = 45
                            · have f1 : ((r1[0].toNat : Int) == 45) = true := by rw [beq_iff_eq]; omega
                              have HS2 : Hid (sgB r1 = true) := by rw [Hid, HS.out]; simp [isSg, h45]
                              clear h45
                              go_wp2_with fail
                              go_meet
                              case rel => exact ⟨by rw [HS2.out], rfl⟩
                            · have f1 : ((r1[0].toNat : Int) == 45) = false := by rw [beq_eq_false_iff_ne]; omega
                              by_cases h43 : r1[0].toNat = 43
                              · have f2 : ((r1[0].toNat : Int) == 43) = true := by rw [beq_iff_eq]; omega
                                have HS2 : Hid (sgB r1 = true) := by rw [Hid, HS.out]; simp [isSg, h43]
                                clear h45 h43
                                go_wp2_with fail
                                go_meet
                                case rel => exact ⟨by rw [HS2.out], rfl⟩
                              · have f2 : ((r1[0].toNat : Int) == 43) = false := by rw [beq_eq_false_iff_ne]; omega
                                have HS2 : Hid (sgB r1 = false) := by rw [Hid, HS.out]; simp [isSg, h43, h45]
                                clear h45 h43
                                go_wp2_with fail
                                go_meet
                                case rel => exact ⟨by rw [HS2.out], rfl⟩
                        case rest =>
                          obtain ⟨rfl, rfl⟩ := hcut
                          go_upto_if 111 with fail
                          go_cut [5] from 7 (fun t w8 => (∃ z : ByteArray, z.data.toList = unsg r1.data.toList ∧ z.size ≤ 1048576 ∧ t = .string z) ∧ w8 = wc)
                          case first =>
                            cases hsg : sgB r1 with
                            | true =>
                              obtain ⟨hp0, hu⟩ := unsg_of_sg hsg
                              have HU : Hid _ := hu
                              clear hu hsg
                              go_wp2_with fail
                              go_meet
                              case rel => exact ⟨⟨_, HU.out.symm, Nat.le_trans (extract_size_le r1 1) hr1s, rfl⟩, rfl⟩
                            | false =>
                              have HU : Hid _ := unsg_of_not hsg
                              clear hsg
                              go_wp2_with fail
                              go_meet
                              case rel => exact ⟨⟨_, HU.out.symm, hr1s, rfl⟩, rfl⟩
                          case rest =>
                            obtain ⟨⟨z, hz, hzs, rfl⟩, rfl⟩ := hcut
                            rw [← hz] at HT3
                            clear hz
                            go_wp2_with fail
                            refine (digitsIn_any _ 10 (.inr (.inl rfl)) _ hzs).mono ?_
                            rintro e w9 ⟨rfl, hb9⟩
                            have hb10 := hb5.trans (hb9.mono hb5.size)
                            clear hb9 hb5
                            cases hdg : digB 10 z.data.toList with
                            | true =>
                              have HT4 : Hid (numTag s.data.toList = 2) := by rw [Hid, HT3.out, hdg]; rfl
                              clear hdg HT3
                              go_wp2
                              go_ret
                              exact ⟨ret_tag (by rw [HT4.out]; rfl), hb10⟩
                            | false =>
                              have HT4 : Hid (numTag s.data.toList = 0) := by rw [Hid, HT3.out, hdg]; rfl
                              clear hdg HT3
                              go_wp2
                              go_ret
                              exact ⟨ret_tag (by rw [HT4.out]; rfl), hb10⟩
                    · have HT3 : Hid (numTag s.data.toList = 0) := by rw [Hid, HT.out, HT2.out]; simp [hex]
                      have f1 : ((rr[0].toNat : Int) != 101) = true := by simp [isEx] at hex; rw [bne_iff_ne]; omega
                      have f2 : ((rr[0].toNat : Int) != 69) = true := by simp [isEx] at hex; rw [bne_iff_ne]; omega
                      clear HT HT2 hex
                      go_wp2
                      go_ret
                      exact ⟨ret_tag (by rw [HT3.out]; rfl), hb5⟩

end Go.Proofs.Qxb6602278a
