/-
  The walk of digitsIn (23).
-/
import Derived.Test.Qxb6602278aTd
import Derived.Lib.ConvBytes
namespace Go.Proofs.Qxb6602278a
open Go.RowKit

def inB (base : Int) (c : UInt8) : Bool := if base = 8 then isO c else if base = 10 then isD c else isH c
def digB (base : Int) (l : List UInt8) : Bool := l.all (inB base) && !l.isEmpty

theorem bytesWorld_below (w : World) (e : TypeId) (s : ByteArray) : Below w.heap.size w (Lib.bytesWorld w e s) :=
  ⟨rfl, rfl, rfl, by rw [Lib.bytesWorld_size]; omega, fun k hk => Lib.bytesWorld_at_old w e s k hk⟩

theorem getD_at (s : ByteArray) (k : Nat) (h : k < s.size) : s.data.toList.getD k 0 = s[k] := by
  have hl : k < s.data.toList.length := by simpa using h
  rw [List.getD, List.getElem?_eq_getElem hl]; rfl
theorem allB_snoc (f : UInt8 → Bool) (s : ByteArray) (k : Nat) (h : k < s.size) (ha : (s.data.toList.take k).all f = true) (hc : f (s.data.toList.getD k 0) = true) : (s.data.toList.take (k + 1)).all f = true := by
  rw [getD_at s k h] at hc
  rw [take_snoc s k h, List.all_append, ha]
  simp [hc]
theorem allB_miss (f : UInt8 → Bool) (s : ByteArray) (k : Nat) (h : k < s.size) (hc : f (s.data.toList.getD k 0) = false) : s.data.toList.all f = false := by
  rw [List.all_eq_false]
  rw [getD_at s k h] at hc
  refine ⟨s[k], ?_, by simp [hc]⟩
  have hl : k < s.data.toList.length := by simpa using h
  exact List.getElem_mem (l := s.data.toList) hl

/-- What base says, for the walk. -/
theorem base_cases {base : Int} (hb : base = 8 ∨ base = 10 ∨ base = 16) : (base = 8 ∧ ¬ 10 ≤ base ∧ (base == 16) = false) ∨ (base = 10 ∧ 10 ≤ base ∧ (base == 16) = false) ∨ (base = 16 ∧ 10 ≤ base ∧ (base == 16) = true) := by
  rcases hb with rfl | rfl | rfl <;> simp

set_option maxHeartbeats 1000000 in
theorem digitsIn_any (s : ByteArray) (base : Int) (hb : base = 8 ∨ base = 10 ∨ base = 16) (w : World) (hs : s.size ≤ 1048576) :
    Calls Try.prog 23 #[.string s, .int .i64 base] w fun e w' => e = .returned (.bool (digB base s.data.toList)) ∧ Below w.heap.size w w' := by
  have hcv := fun w => Lib.run_convert_string_bytes (P := Try.prog) w 9 25 5 s Try.underlying9 Try.underlying25 Try.underlying5
  have hbel := bytesWorld_below w 5 s
  rcases base_cases hb with ⟨hb, h10, h16⟩ | ⟨hb, h10, h16⟩ | ⟨hb, h10, h16⟩
  all_goals
    have HB : Hid _ := hb
    clear hb
    go_enter Try.func23, Try.ntmps23
    go_wp2
    clear hcv
    go_loop [10] (fun i => ∃ k : Nat, k ≤ s.size ∧ i = .int .i64 k ∧ (s.data.toList.take k).all (inB base) = true) (fun i => s.size - (intOf i).toNat)
    case atStart => exact ⟨0, by omega, rfl, by simp⟩
    case round =>
      obtain ⟨k, hk, rfl, hall⟩ := hrel
      have HA : Hid ((s.data.toList.take k).all (inB base) = true) := hall
      clear hall
      by_cases hlt : k < s.size
      · have hcell := Lib.bytesWorld_cell w 5 s k hlt
        obtain ⟨c, hc⟩ : ∃ c, s.data.toList.getD k 0 = c := ⟨_, rfl⟩
        rw [hc] at hcell
        have HC : Hid (s.data.toList.getD k 0 = c) := hc
        clear hc
        go_wp2
        all_goals first
          | (go_round
             case rel =>
               have hi : inB base (s.data.toList.getD k 0) = true := by
                 rw [HC.out, HB.out]
                 simp [inB, isO, isD, isH]
                 omega
               exact ⟨k + 1, by omega, by go_num, allB_snoc _ s k hlt HA.out hi⟩
             case measure => simp [intOf]; omega)
          | (go_ret
             have hi : inB base (s.data.toList.getD k 0) = false := by
               rw [HC.out, HB.out]
               simp [inB, isO, isD, isH]
               omega
             refine ⟨ret_bool ?_, hbel⟩
             rw [digB, allB_miss (inB base) s k hlt hi]
             rfl)
      · have hfull : s.data.toList.take k = s.data.toList := List.take_of_length_le (by simp; omega)
        have HF : Hid (s.data.toList.all (inB base) = true) := by rw [hfull] at HA; exact HA
        clear hfull HA
        go_wp2
        go_ret
        refine ⟨ret_bool ?_, hbel⟩
        rw [digB, HF.out]
        simp [ByteArray.toList_eq]

end Go.Proofs.Qxb6602278a
