/-
  The plain law: numTag and coreTag give every list of bytes one tag.
-/
import Derived.Test.Qxb6602278aTf
namespace Go.Proofs.Qxb6602278a

def cls (st : Int) : Nat := if st = 2 then 1 else if st = 4 ∨ st = 7 then 2 else 0
def dec (u : List UInt8) : Nat := if digB 10 u then 1 else flt u

theorem runA_cons (st : Int) (c : UInt8) (r : List UInt8) : runA st (c :: r) = runA (step st c) r := rfl

theorem digB_cons (c : UInt8) (r : List UInt8) : digB 10 (c :: r) = (isD c && r.all isD) := by simp [digB, inB10]
theorem digB_nil : digB 10 [] = false := rfl

theorem R7 : ∀ l, cls (runA 7 l) = if l.all isD then 2 else 0
  | [] => rfl
  | c :: r => by
    rw [runA_cons]
    cases h : isD c with
    | true => simp only [step, h]; simp [R7 r, h]
    | false => simp only [step, h]; simp [runA_dead, h, cls]
theorem R6 : ∀ l, cls (runA 6 l) = if digB 10 l then 2 else 0
  | [] => rfl
  | c :: r => by
    rw [runA_cons, digB_cons]
    cases h : isD c with
    | true => simp only [step, h]; simp [R7 r]
    | false => simp only [step, h]; simp [runA_dead, cls]
theorem sg_not_d {c : UInt8} (h : isSg c = true) : isD c = false := by simp [isSg, isD] at *; omega
theorem ex_not_d {c : UInt8} (h : isEx c = true) : isD c = false := by simp [isEx, isD] at *; omega
theorem dt_not_d {c : UInt8} (h : isDt c = true) : isD c = false := by simp [isDt, isD] at *; omega
theorem dt_not_ex {c : UInt8} (h : isDt c = true) : isEx c = false := by simp [isDt, isEx] at *; omega
theorem sg_not_dt {c : UInt8} (h : isSg c = true) : isDt c = false := by simp [isDt, isSg] at *; omega
theorem R5 : ∀ l, cls (runA 5 l) = if digB 10 (unsg l) then 2 else 0
  | [] => rfl
  | c :: r => by
    rw [runA_cons]
    cases hs : isSg c with
    | true => simp only [step, hs, unsg]; simp [R6 r]
    | false =>
      simp only [step, hs, unsg]
      cases h : isD c with
      | true => simp [digB_cons, h, R7 r]
      | false => simp [digB_cons, h, runA_dead, cls]
theorem R4 : ∀ l, cls (runA 4 l) = tailT (l.dropWhile isD)
  | [] => rfl
  | c :: r => by
    rw [runA_cons]
    cases h : isD c with
    | true => simp only [step, h]; simp [R4 r, h]
    | false =>
      cases he : isEx c with
      | true => simp only [step, h, he]; simp [R5 r, h, he, tailT]
      | false => simp only [step, h, he]; simp [runA_dead, h, he, tailT, cls]
/-- What follows leading digits. -/
def aft (l : List UInt8) : Nat := match l with
  | [] => 1
  | c :: r => if isDt c then tailT (r.dropWhile isD) else tailT (c :: r)
theorem R2 : ∀ l, cls (runA 2 l) = aft (l.dropWhile isD)
  | [] => rfl
  | c :: r => by
    rw [runA_cons]
    cases h : isD c with
    | true => simp only [step, h]; simp [R2 r, h]
    | false =>
      cases hd : isDt c with
      | true => simp only [step, h, hd]; simp [R4 r, h, hd, aft]
      | false =>
        cases he : isEx c with
        | true => simp only [step, h, hd, he]; simp [R5 r, h, hd, he, aft, tailT]
        | false => simp only [step, h, hd, he]; simp [runA_dead, h, hd, he, aft, tailT, cls]
theorem R3 : ∀ l, cls (runA 3 l) = if l.takeWhile isD = [] then 0 else tailT (l.dropWhile isD)
  | [] => rfl
  | c :: r => by
    rw [runA_cons]
    cases h : isD c with
    | true => simp only [step, h]; simp [R4 r, h]
    | false => simp only [step, h]; simp [runA_dead, h, cls]
theorem all_drop (l : List UInt8) : l.all isD = true ↔ l.dropWhile isD = [] := by
  induction l with
  | nil => simp
  | cons c r ih =>
    cases h : isD c with
    | true => simp [h, ih] at *
    | false => simp [h]
theorem dec_digit {c : UInt8} {r : List UInt8} (h : isD c = true) : dec (c :: r) = aft (r.dropWhile isD) := by
  unfold dec
  rw [digB_cons, h, Bool.true_and]
  by_cases ha : r.all isD = true
  · rw [if_pos ha, (all_drop r).1 ha]; rfl
  · rw [if_neg ha]
    unfold flt
    simp only [List.dropWhile_cons, List.takeWhile_cons, h, if_true]
    cases hq : r.dropWhile isD with
    | nil => exact absurd ((all_drop r).2 hq) ha
    | cons d q => simp [aft]
theorem R1 : ∀ l, cls (runA 1 l) = dec l
  | [] => rfl
  | c :: r => by
    rw [runA_cons]
    cases h : isD c with
    | true => simp only [step, h]; simp [R2 r, dec_digit h]
    | false =>
      cases hd : isDt c with
      | true => simp only [step, h, hd]; simp [R3 r, dec, digB_cons, h, flt, hd]
      | false => simp only [step, h, hd]; simp [runA_dead, dec, digB_cons, h, flt, hd, cls]
theorem R0 : ∀ l, cls (runA 0 l) = dec (unsg l)
  | [] => rfl
  | c :: r => by
    cases hs : isSg c with
    | true => rw [runA_cons]; simp only [step, hs, unsg]; simp [R1 r]
    | false =>
      have : step 0 c = step 1 c := by simp only [step, hs]; simp
      rw [runA_cons, this, ← runA_cons, R1]
      simp [unsg, hs]
theorem dec_inf {u : List UInt8} (h : isInf u = true) : dec u = 0 := by
  simp only [isInf, Bool.or_eq_true, beq_iff_eq] at h
  rcases h with (rfl | rfl) | rfl <;> decide

theorem tags_agree (l : List UInt8) : numTag l = coreTag l := by
  unfold numTag coreTag
  by_cases hn : isNaN l = true
  · simp [hn]
  by_cases hr : radix l = true
  · simp [hn, hr]
  simp only [hn, hr]
  have h0 := R0 l
  generalize runA 0 l = st at *
  by_cases hi : isInf (unsg l) = true
  · rw [dec_inf hi] at h0
    have h2 : ¬ st = 2 := fun e => by subst e; simp [cls] at h0
    have h4 : ¬ (st = 4 ∨ st = 7) := fun e => by rcases e with rfl | rfl <;> simp [cls] at h0
    simp [hi, h2, h4]
  · simp only [hi]
    have e1 : (if digB 10 (unsg l) = true then 1 else flt (unsg l)) = dec (unsg l) := rfl
    simp only [Bool.false_eq_true, if_false]
    rw [e1, ← h0]
    rfl

end Go.Proofs.Qxb6602278a
