/-
  The walks of coreSchemaTag (9), leadingDigits (24), digitsIn (23).
-/
import Derived.Test.Qxb6602278aTc
import Derived.Deep.QuietTactic
import Derived.BigQuiet
namespace Go.Proofs.Qxb6602278a
open Go.RowKit

/-- The three tags: none, int, float. -/
def tagS : Nat → ByteArray
  | 0 => ⟨#[]⟩
  | 1 => ⟨#[33, 33, 105, 110, 116]⟩
  | _ => ⟨#[33, 33, 102, 108, 111, 97, 116]⟩

def coreTag (l : List UInt8) : Nat :=
  if isNaN l then 2 else if radix l then 1
  else if runA 0 l = 2 then 1 else if runA 0 l = 4 ∨ runA 0 l = 7 then 2 else if isInf (unsg l) then 2 else 0

theorem ret_tag {n : Nat} {s : ByteArray} (h : tagS n = s) : Ending.returned (.string s) = .returned (.string (tagS n)) := by rw [h]

set_option maxHeartbeats 400000 in
theorem coreSchemaTag_any (s : ByteArray) (w : World) (hs : s.size ≤ 1048576) : Calls Try.prog 9 #[.string s] w fun e w' => e = .returned (.string (tagS (coreTag s.data.toList))) ∧ w' = w := by
  go_enter Try.func9, Try.ntmps9
  go_wp2_with (first | (go_at_call 11; refine (isNaNSpelling_any _ _).mono ?_; rintro e w' ⟨rfl, rfl⟩) | (go_at_call 19; refine (isRadixInt_any _ _ hs).mono ?_; rintro e w' ⟨rfl, rfl⟩) | (go_at_call 20; refine (decimalState_any _ _ hs).mono ?_; rintro e w' ⟨rfl, rfl⟩) | (go_at_call 21; refine (isInfSpelling_any _ _).mono ?_; rintro e w' ⟨rfl, rfl⟩))
  all_goals
    go_ret
    refine ⟨ret_tag ?_, rfl⟩
    simp_all [coreTag, tagS]

theorem lead_snoc {s : ByteArray} {k : Nat} (h : k < s.size) (ha : ∀ c ∈ s.data.toList.take k, isD c = true) (hc : isD s[k] = true) : ∀ c ∈ s.data.toList.take (k + 1), isD c = true := by
  rw [take_snoc s k h]
  intro c hm
  rcases List.mem_append.1 hm with hm | hm
  · exact ha c hm
  · rw [List.mem_singleton.1 hm]; exact hc
theorem lead_end {s : ByteArray} {k : Nat} (hk : k ≤ s.size) (ha : ∀ c ∈ s.data.toList.take k, isD c = true) (hc : ∀ h : k < s.size, isD s[k] = false) : s.data.toList.takeWhile isD = s.data.toList.take k ∧ s.data.toList.dropWhile isD = s.data.toList.drop k := by
  have h0 := List.take_append_drop k s.data.toList
  have hd : s.data.toList.drop k = [] ∨ ∃ c r, s.data.toList.drop k = c :: r ∧ isD c = false := by
    by_cases h : k < s.size
    · right
      exact ⟨_, _, List.drop_eq_getElem_cons (by simpa using h), hc h⟩
    · left
      exact List.drop_of_length_le (by simp; omega)
  generalize s.data.toList.take k = a at *
  generalize s.data.toList.drop k = b at *
  rw [← h0, List.takeWhile_append_of_pos ha, List.dropWhile_append_of_pos ha]
  rcases hd with rfl | ⟨c, r, rfl, hcc⟩
  · simp
  · simp [hcc]
theorem extract_take (s : ByteArray) (k : Nat) : (s.extract 0 k).data.toList = s.data.toList.take k := by simp
theorem extract_drop (s : ByteArray) (k : Nat) : (s.extract k s.size).data.toList = s.data.toList.drop k := by
  simp
  rw [List.take_of_length_le]
  simp

/-- leadingDigits hands back the leading digits and the rest. -/
def RetLead (l : List UInt8) (e : Ending) : Prop := ∃ a b : ByteArray, a.data.toList = l.takeWhile isD ∧ b.data.toList = l.dropWhile isD ∧ e = .returned (.tuple #[.string a, .string b])

set_option maxHeartbeats 400000 in
theorem leadingDigits_any (s : ByteArray) (w : World) (hs : s.size ≤ 1048576) : Calls Try.prog 24 #[.string s] w fun e w' => RetLead s.data.toList e ∧ ∃ n, w' = w.drewN n := by
  go_enter Try.func24, Try.ntmps24
  go_wp2
  go_loop [4] (fun i => ∃ k : Nat, k ≤ s.size ∧ i = .int .i64 k ∧ ∀ c ∈ s.data.toList.take k, isD c = true) (fun i => s.size - (intOf i).toNat)
  case atStart => exact ⟨0, by omega, rfl, by simp⟩
  case round =>
    obtain ⟨k, hk, rfl, hall⟩ := hrel
    have HA : Hid _ := hall
    clear hall
    have hk0 : (0 : Int) ≤ (k : Int) := by omega
    have hk1 : (k : Int) ≤ (s.size : Int) := by omega
    by_cases hcont : ∃ h : k < s.size, isD s[k] = true
    · obtain ⟨hlt, hc⟩ := hcont
      have hc' : 48 ≤ s[k].toNat ∧ s[k].toNat ≤ 57 := by simpa [isD] using hc
      have HC : Hid (isD s[k] = true) := hc
      obtain ⟨hc1, hc2⟩ := hc'
      clear hc
      go_wp2
      go_round
      case rel => exact ⟨k + 1, by omega, by go_num, lead_snoc hlt HA.out HC.out⟩
      case measure => simp [intOf]; omega
    · have hend := lead_end hk HA.out (fun h => by simpa using fun hc => hcont ⟨h, hc⟩)
      have HE : Hid _ := hend
      have hstop : ∀ h : k < s.size, ¬ 48 ≤ s[k].toNat ∨ 57 < s[k].toNat := fun h => by
        have : isD s[k] = false := by simpa using fun hc => hcont ⟨h, hc⟩
        simp [isD] at this
        omega
      clear hcont hend
      by_cases hlt : k < s.size
      · rcases Nat.lt_or_ge s[k].toNat 48 with hc | hc
        · clear hstop
          go_wp2
          go_quiet (fail)
          go_wp2
          go_ret2
          exact ⟨⟨_, _, by rw [HE.out.1]; exact extract_take s k, by rw [HE.out.2]; exact extract_drop s k, rfl⟩, _, rfl⟩
        · have hc2 : 57 < s[k].toNat := by have := hstop hlt; omega
          clear hstop
          go_wp2
          go_quiet (fail)
          go_wp2
          go_ret2
          exact ⟨⟨_, _, by rw [HE.out.1]; exact extract_take s k, by rw [HE.out.2]; exact extract_drop s k, rfl⟩, _, rfl⟩
      · clear hstop
        go_wp2
        go_quiet (fail)
        go_wp2
        go_ret2
        exact ⟨⟨_, _, by rw [HE.out.1]; exact extract_take s k, by rw [HE.out.2]; exact extract_drop s k, rfl⟩, _, rfl⟩

end Go.Proofs.Qxb6602278a
