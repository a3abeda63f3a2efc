/-
  The walks of isRadixInt (19) and coreSchemaTag (9).
-/
import Derived.Test.Qxb6602278aTb
namespace Go.Proofs.Qxb6602278a
open Go.RowKit

def isO (c : UInt8) : Bool := decide (48 ≤ c.toNat ∧ c.toNat ≤ 55)
def radix (l : List UInt8) : Bool := match l with
  | a :: b :: r => decide (a.toNat = 48) && !r.isEmpty && (decide (b.toNat = 111) && r.all isO || decide (b.toNat = 120) && r.all isH)
  | _ => false

theorem cons2_of (s : ByteArray) (h : 1 < s.size) : s.data.toList = s[0] :: s[1] :: s.data.toList.drop 2 := by
  have hl : 1 < s.data.toList.length := by simpa using h
  have e0 : s.data.toList = s.data.toList.drop 0 := by simp
  have e1 : s.data.toList.drop 0 = s.data.toList[0] :: s.data.toList.drop 1 := List.drop_eq_getElem_cons (by omega)
  have e2 : s.data.toList.drop 1 = s.data.toList[1] :: s.data.toList.drop 2 := List.drop_eq_getElem_cons (by omega)
  rw [e2] at e1
  rw [e1] at e0
  exact e0

theorem radix_short {s : ByteArray} (h : s.size < 3) : radix s.data.toList = false := by
  have hl : s.data.toList.length < 3 := by simpa using h
  match hq : s.data.toList, hl with
  | [], _ => rfl
  | [_], _ => rfl
  | [_, _], _ => simp [radix]
theorem radix_long {s : ByteArray} (h : 2 < s.size) : radix s.data.toList = (decide (s[0].toNat = 48) && (decide (s[1].toNat = 111) && (s.data.toList.drop 2).all isO || decide (s[1].toNat = 120) && (s.data.toList.drop 2).all isH)) := by
  have hne : (s.data.toList.drop 2).isEmpty = false := by
    have hl : 2 < s.data.toList.length := by simpa using h
    cases hq : s.data.toList.drop 2 with
    | nil => have := congrArg List.length hq; simp at this; omega
    | cons _ _ => rfl
  conv => lhs; rw [cons2_of s (by omega)]
  simp only [radix, hne]
  simp

theorem all_snoc (f : UInt8 → Bool) (s : ByteArray) (k : Nat) (h2 : 2 ≤ k) (h : k < s.size) (ha : ((s.data.toList.take k).drop 2).all f = true) (hc : f s[k] = true) : ((s.data.toList.take (k + 1)).drop 2).all f = true := by
  have hl : k < s.data.toList.length := by simpa using h
  rw [take_snoc s k h, List.drop_append_of_le_length (by simp; omega), List.all_append, ha]
  simp [hc]
theorem all_miss (f : UInt8 → Bool) (s : ByteArray) (k : Nat) (h2 : 2 ≤ k) (h : k < s.size) (hc : f s[k] = false) : (s.data.toList.drop 2).all f = false := by
  rw [List.all_eq_false]
  refine ⟨s[k], ?_, by simp [hc]⟩
  have hl : k < s.data.toList.length := by simpa using h
  have : s[k] = (s.data.toList.drop 2)[k - 2]'(by simp at hl ⊢; omega) := by
    simp only [List.getElem_drop]
    have e : 2 + (k - 2) = k := by omega
    simp only [e]
    rfl
  rw [this]
  exact List.getElem_mem _

set_option maxHeartbeats 400000 in
theorem isRadixInt_any (s : ByteArray) (w : World) (hs : s.size ≤ 1048576) : Calls Try.prog 19 #[.string s] w fun e w' => e = .returned (.bool (radix s.data.toList)) ∧ w' = w := by
  by_cases h3 : s.size < 3
  · have hr : Hid (radix s.data.toList = false) := radix_short h3
    go_enter Try.func19, Try.ntmps19
    go_wp2
    go_ret
    exact ⟨ret_bool hr.out.symm, rfl⟩
  · have hr : Hid _ := radix_long (s := s) (by omega)
    have h2 : 2 < s.size := by omega
    have hp0 : 0 < s.size := by omega
    have hp1 : 1 < s.size := by omega
    by_cases h48 : s[0].toNat = 48
    · have f0 : ((s[0].toNat : Int) != 48) = false := by simp; omega
      by_cases ho : s[1].toNat = 111
      · have f1 : ((s[1].toNat : Int) == 111) = true := by rw [beq_iff_eq]; omega
        have HR : Hid (radix s.data.toList = (s.data.toList.drop 2).all isO) := by rw [Hid, hr.out]; simp [h48, ho]
        clear hr h48 ho
        go_enter Try.func19, Try.ntmps19
        go_wp2
        go_loop [3] (fun i => ∃ k : Nat, 2 ≤ k ∧ k ≤ s.size ∧ i = .int .i64 k ∧ ((s.data.toList.take k).drop 2).all isO = true) (fun i => s.size - (intOf i).toNat)
        case atStart => exact ⟨2, by omega, by omega, rfl, by rw [List.drop_of_length_le (by simp; omega)]; rfl⟩
        case round =>
          obtain ⟨k, hk2, hk, rfl, hall⟩ := hrel
          have HA : Hid _ := hall
          clear hall f0 f1
          by_cases hlt : k < s.size
          · by_cases hc : 48 ≤ s[k].toNat ∧ s[k].toNat ≤ 55
            · have hco : isO s[k] = true := by simpa [isO] using hc
              have HC : Hid (isO s[k] = true) := hco
              obtain ⟨hc1, hc2⟩ := hc
              clear hco
              go_wp2
              go_round
              case rel => exact ⟨k + 1, by omega, by omega, by go_num, all_snoc isO s k hk2 hlt HA.out HC.out⟩
              case measure => simp [intOf]; omega
            · have hco : isO s[k] = false := by simpa [isO] using hc
              have HC : Hid ((s.data.toList.drop 2).all isO = false) := all_miss isO s k hk2 hlt hco
              clear hco
              by_cases hc1 : 48 ≤ s[k].toNat
              · have hc2 : 55 < s[k].toNat := by omega
                clear hc
                go_wp2
                go_ret
                exact ⟨ret_bool (by rw [HR.out, HC.out]), rfl⟩
              · clear hc
                go_wp2
                go_ret
                exact ⟨ret_bool (by rw [HR.out, HC.out]), rfl⟩
          · have hfull : s.data.toList.take k = s.data.toList := List.take_of_length_le (by simp; omega)
            have HF : Hid ((s.data.toList.drop 2).all isO = true) := by have := HA.out; rw [hfull] at this; exact this
            clear hfull HA
            go_wp2
            go_ret
            exact ⟨ret_bool (by rw [HR.out, HF.out]), rfl⟩
      · have f1 : ((s[1].toNat : Int) == 111) = false := by rw [beq_eq_false_iff_ne]; omega
        by_cases hx : s[1].toNat = 120
        · have f2 : ((s[1].toNat : Int) == 120) = true := by rw [beq_iff_eq]; omega
          have HR : Hid (radix s.data.toList = (s.data.toList.drop 2).all isH) := by rw [Hid, hr.out]; simp [h48, hx]
          clear hr h48 ho hx
          go_enter Try.func19, Try.ntmps19
          go_wp2
          go_loop [4] (fun i => ∃ k : Nat, 2 ≤ k ∧ k ≤ s.size ∧ i = .int .i64 k ∧ ((s.data.toList.take k).drop 2).all isH = true) (fun i => s.size - (intOf i).toNat)
          case atStart => exact ⟨2, by omega, by omega, rfl, by rw [List.drop_of_length_le (by simp; omega)]; rfl⟩
          case round =>
            obtain ⟨k, hk2, hk, rfl, hall⟩ := hrel
            have HA : Hid _ := hall
            clear hall f0 f1 f2
            by_cases hlt : k < s.size
            · go_wp2_with fail
              refine (isHexDigit_any _ _).mono ?_
              rintro e w' ⟨rfl, rfl⟩
              cases hco : isH s[k] with
              | true =>
                have HC : Hid (isH s[k] = true) := hco
                clear hco
                go_wp2
                go_round
                case rel => exact ⟨k + 1, by omega, by omega, by go_num, all_snoc isH s k hk2 hlt HA.out HC.out⟩
                case measure => simp [intOf]; omega
              | false =>
                have HC : Hid ((s.data.toList.drop 2).all isH = false) := all_miss isH s k hk2 hlt hco
                clear hco
                go_wp2
                go_ret
                exact ⟨ret_bool (by rw [HR.out, HC.out]), rfl⟩
            · have hfull : s.data.toList.take k = s.data.toList := List.take_of_length_le (by simp; omega)
              have HF : Hid ((s.data.toList.drop 2).all isH = true) := by have := HA.out; rw [hfull] at this; exact this
              clear hfull HA
              go_wp2
              go_ret
              exact ⟨ret_bool (by rw [HR.out, HF.out]), rfl⟩
        · have f2 : ((s[1].toNat : Int) == 120) = false := by rw [beq_eq_false_iff_ne]; omega
          have HR : Hid (radix s.data.toList = false) := by rw [Hid, hr.out]; simp [ho, hx]
          clear hr h48 ho hx
          go_enter Try.func19, Try.ntmps19
          go_wp2
          go_ret
          exact ⟨ret_bool HR.out.symm, rfl⟩
    · have f0 : ((s[0].toNat : Int) != 48) = true := by rw [bne_iff_ne]; omega
      have HR : Hid (radix s.data.toList = false) := by rw [Hid, hr.out]; simp [h48]
      clear hr h48
      go_enter Try.func19, Try.ntmps19
      go_wp2
      go_ret
      exact ⟨ret_bool HR.out.symm, rfl⟩

end Go.Proofs.Qxb6602278a
