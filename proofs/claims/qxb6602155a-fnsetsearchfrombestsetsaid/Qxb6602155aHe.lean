/-
  What the search leaves, to be read; ZZSetSearchFrom (9).
-/
import Derived.Test.Qxb6602155aHd
namespace Go.Proofs.Qxb6602155a
open Go.RowKit

theorem vals_at : ∀ (xs : List It) (i r : Nat), i < xs.length → r < 5 → (valsOf xs)[i * 5 + r]? = some ((xs.getD i noIt).val r)
  | [], i, r, h, _ => by simp at h
  | x :: l, 0, r, _, hr => by
    have e : valsOf (x :: l) = x.vals ++ valsOf l := by simp [valsOf]
    rw [e, List.getElem?_append_left (by simp [It.vals]; omega)]
    match r, hr with
    | 0, _ | 1, _ | 2, _ | 3, _ | 4, _ => simp [It.vals, It.val]
  | x :: l, i + 1, r, h, hr => by
    have e : valsOf (x :: l) = x.vals ++ valsOf l := by simp [valsOf]
    rw [e, List.getElem?_append_right (by simp [It.vals]; omega)]
    have := vals_at l i r (by simpa using h) hr
    simp only [It.vals, List.length_cons, List.length_nil]
    rw [show (i + 1) * 5 + r - (0 + 1 + 1 + 1 + 1 + 1) = i * 5 + r by omega, this]
    simp [List.getD]

/-- A row that is owned, to be read. -/
theorem its_own {w : World} {v : Value} {xs : List It} (h : w.ownsRow 0 32 5 v xs.length (valsOf xs)) : ∃ a cap, v = .slice a xs.length cap ∧ Its w a xs := by
  rcases h.2 with ⟨rfl, h0⟩ | ⟨g, cap, cur, rfl, _, hg, _, _, _, ht⟩
  · obtain rfl := List.eq_nil_of_length_eq_zero h0
    exact ⟨none, 0, rfl, fun _ => rfl, fun i hi => by simp at hi⟩
  · refine ⟨_, cap, rfl, (fun e => by cases e), fun i hi => ⟨g, 0, rfl, fun r hr => ?_⟩⟩
    have h1 := vals_at xs i r hi hr
    rw [← ht, List.getElem?_take, if_pos (by omega)] at h1
    simp only [World.cell?, hg]
    rw [show 0 + i * 5 + r = i * 5 + r by omega]
    simpa using h1

/-- A row of items as an owned one. -/
theorem own_row {w : World} {g : Nat} {xs : List It} (h : w.rowIs g 32 (xs.length * 5) (itF xs)) (hn : xs.length ≤ 4096) : w.ownsRow 0 32 5 (.slice (some ⟨g, 0, none⟩) xs.length xs.length) xs.length (valsOf xs) := by
  obtain ⟨c, hb, hs, hc⟩ := h
  refine ⟨valsOf_length xs, .inr ⟨g, xs.length, c, rfl, Nat.zero_le _, hb, Nat.le_refl _, by unfold maxLen; omega, hs, ?_⟩⟩
  apply List.ext_getElem?
  intro j
  by_cases hj : j < xs.length * 5
  · rw [List.getElem?_take, if_pos hj]
    have h1 := vals_at xs (j / 5) (j % 5) (by omega) (by omega)
    rw [show j / 5 * 5 + j % 5 = j by omega] at h1
    rw [h1, Array.getElem?_toList, hc j hj]
    rfl
  · rw [List.getElem?_eq_none (by simp; omega), List.getElem?_eq_none (by rw [valsOf_length]; omega)]

/-- The law's memory behind the search. -/
structure Mem (w0 w : World) (xs ss : List It) (c1 c2 : Option Addr) (ib rb : Nat) (ba na : Option Addr) (s : St) : Prop where
  grow : Grow w0 w
  ix : Its w c1 xs
  is : Its w c2 ss
  io : Its w (some ⟨ib, 0, none⟩) xs
  rr : w.rowIs rb 2 (xs.length + 1) (fun j => .int .i64 (restOf (xs.drop j)))
  bb : Its w ba s.best
  nn : Its w na ss
theorem Mem.more {w0 w w' : World} {xs ss : List It} {c1 c2 : Option Addr} {ib rb : Nat} {ba na : Option Addr} {s : St} (h : Mem w0 w xs ss c1 c2 ib rb ba na s) (g : Grow w w') : Mem w0 w' xs ss c1 c2 ib rb ba na s :=
  ⟨h.grow.trans g, h.ix.grow g, h.is.grow g, h.io.grow g, g.row h.rr, h.bb.grow g, h.nn.grow g⟩

def RetAfter (w : World) (sb : Nat) (iv rv : Value) (lo hi : Int) (least : Bool) (sv : Value) (s' : St) (e : Ending) (w' : World) : Prop :=
  e = .returned (.tuple #[]) ∧ After w w' sb iv rv lo hi least sv s'

set_option maxRecDepth 100000 in
set_option maxHeartbeats 800000 in
theorem from9 (items : List It) (lo hi : Int) (least : Bool) (sb ib rb i : Nat) (sum : Int) (s : St) (w : World) (sv bv : Value) (hi' : i ≤ items.length) (hlen : items.length ≤ 4096) (hsz : ∀ x ∈ items, InR x.size) (hfit : Fits lo hi sum)
    (hst : s.steps ≤ 4096) (hsum : InR s.sum) (hset : s.set.length + (items.drop i).length ≤ 8192) (hS : SIn w sb (ivOf ib items.length) (rvOf rb items.length) lo hi least sv bv s) (hG : Given w sb ib rb items sv) :
    Calls Try.prog 9 #[.pointer (some ⟨sb, 0, none⟩), .int .i64 i, .int .i64 sum] w fun e w' => RetAfter w sb (ivOf ib items.length) (rvOf rb items.length) lo hi least sv (search lo hi least (items.drop i) sum s) e w' := by
  have hc := from_any items lo hi least (items.drop i) sb ib rb i sum s w sv bv rfl hi' hlen hsz hfit hst hsum hset hS hG
  clear hS hG hfit hsum
  go_enter Try.func9, Try.ntmps9
  go_wp2_with fail
  refine hc.mono ?_
  rintro e w' ⟨rfl, h⟩
  go_wp2
  refine bodyPost_ret (results_none rfl _ _ _) rfl ⟨rfl, h⟩

end Go.Proofs.Qxb6602155a
