/-
  The walks of the automaton's parts: isDecDigit (29), isHexDigit (25), decimalStep (26), decimalState (20).
-/
import Derived.Test.Qxb6602278aRows
import Derived.WalkKit
import Derived.WalkSpells
import Derived.WalkLawsBesides
namespace Go.Proofs.Qxb6602278a
open Go.RowKit

theorem ret_bool {a b : Bool} (h : a = b) : Ending.returned (.bool a) = .returned (.bool b) := by rw [h]
theorem ret_int {k : IntKind} {a b : Int} (h : a = b) : Ending.returned (.int k a) = .returned (.int k b) := by rw [h]

def isD (c : UInt8) : Bool := decide (48 ≤ c.toNat ∧ c.toNat ≤ 57)
def isH (c : UInt8) : Bool := decide (48 ≤ c.toNat ∧ c.toNat ≤ 57 ∨ 97 ≤ c.toNat ∧ c.toNat ≤ 102 ∨ 65 ≤ c.toNat ∧ c.toNat ≤ 70)
def isSg (c : UInt8) : Bool := decide (c.toNat = 43 ∨ c.toNat = 45)
def isEx (c : UInt8) : Bool := decide (c.toNat = 101 ∨ c.toNat = 69)
def isDt (c : UInt8) : Bool := decide (c.toNat = 46)

/-- The automaton's step. -/
def step (st : Int) (c : UInt8) : Int :=
  if st = 0 then (if isSg c then 1 else if isD c then 2 else if isDt c then 3 else -1)
  else if st = 1 then (if isD c then 2 else if isDt c then 3 else -1)
  else if st = 2 then (if isD c then 2 else if isDt c then 4 else if isEx c then 5 else -1)
  else if st = 3 then (if isD c then 4 else -1)
  else if st = 4 then (if isD c then 4 else if isEx c then 5 else -1)
  else if st = 5 then (if isSg c then 6 else if isD c then 7 else -1)
  else if st = 6 then (if isD c then 7 else -1)
  else if st = 7 then (if isD c then 7 else -1)
  else -1

set_option maxHeartbeats 400000 in
theorem isDecDigit_any (c : UInt8) (w : World) : Calls Try.prog 29 #[.int .u8 c.toNat] w fun e w' => e = .returned (.bool (isD c)) ∧ w' = w := by
  go_enter Try.func29, Try.ntmps29
  go_wp2
  all_goals
    go_ret
    refine ⟨ret_bool ?_, rfl⟩
    rw [Bool.eq_iff_iff]
    simp [isD]
    omega

set_option maxHeartbeats 400000 in
theorem isHexDigit_any (c : UInt8) (w : World) : Calls Try.prog 25 #[.int .u8 c.toNat] w fun e w' => e = .returned (.bool (isH c)) ∧ w' = w := by
  go_enter Try.func25, Try.ntmps25
  go_wp2
  all_goals
    go_ret
    refine ⟨ret_bool ?_, rfl⟩
    rw [Bool.eq_iff_iff]
    simp [isH]
    omega

set_option maxHeartbeats 1000000 in
theorem decimalStep_any (st : Int) (c : UInt8) (hst : st = 0 ∨ st = 1 ∨ st = 2 ∨ st = 3 ∨ st = 4 ∨ st = 5 ∨ st = 6 ∨ st = 7) (w : World) :
    Calls Try.prog 26 #[.int .i64 st, .int .u8 c.toNat] w fun e w' => e = .returned (.int .i64 (step st c)) ∧ w' = w := by
  rcases hst with rfl | rfl | rfl | rfl | rfl | rfl | rfl | rfl
  all_goals
    go_enter Try.func26, Try.ntmps26
    go_wp2_with (go_at_call 29; refine (isDecDigit_any _ _).mono ?_; rintro e w' ⟨rfl, rfl⟩)
    all_goals
      go_ret
      refine ⟨ret_int ?_, rfl⟩
      simp_all [step, isD, isSg, isEx, isDt] <;> omega

/-- The automaton, run. -/
def runA (st : Int) (l : List UInt8) : Int := l.foldl step st

theorem step_dead (c : UInt8) : step (-1) c = -1 := by simp [step]
theorem runA_dead : ∀ l : List UInt8, runA (-1) l = -1
  | [] => rfl
  | c :: r => by unfold runA; rw [List.foldl_cons, step_dead]; exact runA_dead r
def live (st : Int) : Prop := st = 0 ∨ st = 1 ∨ st = 2 ∨ st = 3 ∨ st = 4 ∨ st = 5 ∨ st = 6 ∨ st = 7
theorem step_live (st : Int) (c : UInt8) : step st c = -1 ∨ live (step st c) := by
  unfold step live
  repeat' split
  all_goals omega
theorem runA_append (st : Int) (a b : List UInt8) : runA st (a ++ b) = runA (runA st a) b := List.foldl_append
theorem take_snoc (s : ByteArray) (k : Nat) (h : k < s.size) : s.data.toList.take (k + 1) = s.data.toList.take k ++ [s[k]] := by
  rw [List.take_succ_eq_append_getElem (by simpa using h)]; rfl
theorem runA_snoc (s : ByteArray) (k : Nat) (h : k < s.size) : runA 0 (s.data.toList.take (k + 1)) = step (runA 0 (s.data.toList.take k)) s[k] := by
  rw [take_snoc s k h, runA_append]; rfl
theorem runA_cut (s : ByteArray) (k : Nat) (h : runA 0 (s.data.toList.take k) = -1) : runA 0 s.data.toList = -1 := by
  have := List.take_append_drop k s.data.toList
  rw [← this, runA_append, h, runA_dead]

set_option maxHeartbeats 400000 in
theorem decimalState_any (s : ByteArray) (w : World) (hs : s.size ≤ 1048576) :
    Calls Try.prog 20 #[.string s] w fun e w' => e = .returned (.int .i64 (runA 0 s.data.toList)) ∧ w' = w := by
  go_enter Try.func20, Try.ntmps20
  go_wp2
  go_loop [3, 4] (fun t i => ∃ k : Nat, k ≤ s.size ∧ i = .int .i64 k ∧ live (runA 0 (s.data.toList.take k)) ∧ t = .int .i64 (runA 0 (s.data.toList.take k))) (fun _ i => s.size - (intOf i).toNat)
  case atStart => exact ⟨0, Nat.zero_le _, rfl, .inl rfl, rfl⟩
  case round =>
    obtain ⟨k, hk, rfl, hlv, rfl⟩ := hrel
    by_cases hlt : k < s.size
    · have hsn := runA_snoc s k hlt
      generalize runA 0 (s.data.toList.take k) = st at *
      have HS : Hid (runA 0 (s.data.toList.take (k + 1)) = step st s[k]) := hsn
      have HL : Hid (live st) := hlv
      clear hsn hlv
      go_wp2_with fail
      refine (decimalStep_any _ _ HL.out _).mono ?_
      rintro e w' ⟨rfl, rfl⟩
      have hor := step_live st s[k]
      generalize step st s[k] = st2 at *
      rcases hor with rfl | hor
      · go_wp2
        go_ret
        exact ⟨ret_int (runA_cut s (k + 1) HS.out).symm, rfl⟩
      · have hne : (st2 == -1) = false := by rw [beq_eq_false_iff_ne]; unfold live at hor; omega
        have HL2 : Hid (live st2) := hor
        clear hor
        go_wp2
        go_round
        case rel => exact ⟨k + 1, by omega, by go_num, by rw [HS.out]; exact HL2.out, by rw [HS.out]⟩
        case measure => simp [intOf]; omega
    · have hfull : s.data.toList.take k = s.data.toList := List.take_of_length_le (by simp; omega)
      rw [hfull]
      clear hfull hlv
      go_wp2
      go_ret
      exact ⟨rfl, rfl⟩

end Go.Proofs.Qxb6602278a
