/-
  The walks of the spelling tables and of coreSchemaTag (9).
-/
import Derived.Test.Qxb6602278aTa
namespace Go.Proofs.Qxb6602278a
open Go.RowKit

def isNaN (l : List UInt8) : Bool := l == [46, 110, 97, 110] || l == [46, 78, 97, 78] || l == [46, 78, 65, 78]
def isInf (l : List UInt8) : Bool := l == [46, 105, 110, 102] || l == [46, 73, 110, 102] || l == [46, 73, 78, 70]
def unsg (l : List UInt8) : List UInt8 := match l with | [] => [] | c :: r => if isSg c then r else c :: r

theorem nil_of {s : ByteArray} (h : s.size = 0) : s.data.toList = [] := by
  have : s.data.toList.length = 0 := by simpa using h
  exact List.eq_nil_of_length_eq_zero this
theorem empty_of {s : ByteArray} (h : s.size = 0) : s = ⟨#[]⟩ := by
  have := nil_of h
  exact Go.WideShapes.bytes_inj (by simpa using this)
theorem cons_of (s : ByteArray) (h : 0 < s.size) : s.data.toList = s[0] :: (s.extract 1 s.size).data.toList := by
  have e : (s.extract 1 s.size).data.toList = s.data.toList.drop 1 := by
    simp
    rw [List.take_of_length_le]
    simp
  rw [e]
  have hl : 0 < s.data.toList.length := by simpa using h
  rw [← List.drop_zero (l := s.data.toList), List.drop_eq_getElem_cons hl]
  simp
  rfl

set_option maxHeartbeats 400000 in
theorem isNaNSpelling_any (s : ByteArray) (w : World) : Calls Try.prog 11 #[.string s] w fun e w' => e = .returned (.bool (isNaN s.data.toList)) ∧ w' = w := by
  go_enter Try.func11, Try.ntmps11
  go_wp2
  all_goals
    go_ret
    refine ⟨ret_bool ?_, rfl⟩
    simp_all [isNaN, ByteArray.toList_eq]

set_option maxHeartbeats 400000 in
theorem isInfSpelling_any (s : ByteArray) (w : World) : Calls Try.prog 21 #[.string s] w fun e w' => e = .returned (.bool (isInf (unsg s.data.toList))) ∧ w' = w := by
  by_cases h0 : s.size = 0
  · obtain rfl := empty_of h0
    go_enter Try.func21, Try.ntmps21
    go_wp2
    go_ret
    exact ⟨rfl, rfl⟩
  · have hp : 0 < s.size := by omega
    have hc : Hid (s.data.toList = s[0] :: (s.extract 1 s.size).data.toList) := cons_of s hp
    obtain ⟨t, ht⟩ : ∃ t, s.extract 1 s.size = t := ⟨_, rfl⟩
    rw [ht] at hc
    by_cases hsg : s[0].toNat = 43
    · have hu : Hid (unsg s.data.toList = t.data.toList) := by rw [Hid, hc.out]; simp [unsg, isSg, hsg]
      clear hc
      go_enter Try.func21, Try.ntmps21
      go_wp2
      all_goals
        go_ret
        refine ⟨ret_bool ?_, rfl⟩
        rw [hu.out]
        simp_all [isInf, ByteArray.toList_eq]
    · by_cases hsg2 : s[0].toNat = 45
      · have hu : Hid (unsg s.data.toList = t.data.toList) := by rw [Hid, hc.out]; simp [unsg, isSg, hsg2]
        clear hc
        go_enter Try.func21, Try.ntmps21
        go_wp2
        all_goals
          go_ret
          refine ⟨ret_bool ?_, rfl⟩
          rw [hu.out]
          simp_all [isInf, ByteArray.toList_eq]
      · have hu : Hid (unsg s.data.toList = s.data.toList) := by rw [Hid, hc.out]; simp [unsg, isSg, hsg, hsg2]
        clear hc ht
        have f1 : ((s[0].toNat : Int) == 43) = false := by rw [beq_eq_false_iff_ne]; omega
        have f2 : ((s[0].toNat : Int) == 45) = false := by rw [beq_eq_false_iff_ne]; omega
        go_enter Try.func21, Try.ntmps21
        go_wp2
        all_goals
          go_ret
          refine ⟨ret_bool ?_, rfl⟩
          rw [hu.out]
          simp_all [isInf, ByteArray.toList_eq]

end Go.Proofs.Qxb6602278a
