/-
  The memory of the search; the walk of slices.Clone (14).
-/
import Derived.Test.Qxb6602155aRows
import Derived.Test.Qxb6602155aPa
import Derived.WalkKit
import Derived.WalkSpells
import Derived.WalkLawsBesides
import Derived.Deep.AppendLies
import Derived.Deep.OwnRows
namespace Go.Proofs.Qxb6602155a
open Go.RowKit

/-- w' is w but for the blocks of T and new ones. -/
structure Kept (T : Nat → Prop) (w w' : World) : Prop where
  os : w'.os = w.os
  tape : w'.tape = w.tape
  output : w'.output = w.output
  size : w.heap.size ≤ w'.heap.size
  block : ∀ k, k < w.heap.size → ¬ T k → w'.heap[k]? = w.heap[k]?

theorem Kept.refl (T : Nat → Prop) (w : World) : Kept T w w := ⟨rfl, rfl, rfl, Nat.le_refl _, fun _ _ _ => rfl⟩
theorem Kept.of_grown {w w' : World} {row : Option Nat} (h : w.grownBy w' row) : Kept (fun k => row = some k) w w' :=
  ⟨h.os, h.tape, h.output, h.size, fun k hk hn => h.block k hk (fun e => hn e.symm)⟩

/-- An item's five cells. -/
def It.vals (x : It) : List Value := [.string x.name, .int .u64 x.ver, .int .i64 x.num, .int .u64 x.ctr, .int .i64 x.size]
def valsOf (xs : List It) : List Value := xs.flatMap It.vals
theorem valsOf_length (xs : List It) : (valsOf xs).length = xs.length * 5 := by
  induction xs with
  | nil => rfl
  | cons x r ih => simp only [valsOf, List.flatMap_cons, List.length_append, List.length_cons] at *; rw [ih]; simp [It.vals]; omega
theorem valsOf_append (xs ys : List It) : valsOf (xs ++ ys) = valsOf xs ++ valsOf ys := List.flatMap_append
theorem valsOf_one (x : It) : valsOf [x] = x.vals := by simp [valsOf]
theorem vals_oneCell (xs : List It) : ∀ u ∈ valsOf xs, u.oneCell' = true := by
  intro u hu
  simp only [valsOf, List.mem_flatMap] at hu
  obtain ⟨x, _, hx⟩ := hu
  simp only [It.vals, List.mem_cons, List.not_mem_nil, or_false] at hx
  rcases hx with rfl | rfl | rfl | rfl | rfl <;> rfl

theorem info32 : (Try.prog.info? 32).map (fun i => (i.zero, i.size, i.bytes)) = some (some (.agg #[.string ByteArray.empty, .int .u64 0, .int .i64 0, .int .u64 0, .int .i64 0]), 5, 48) := by kernel_rfl

/-- What a call of Clone hands back. -/
def RetClone (w w' : World) (xs : List It) (e : Ending) : Prop := ∃ bv, e = .returned bv ∧ w'.ownsRow 0 32 5 bv xs.length (valsOf xs) ∧ (∀ g, bv.ownBlock = some g → w.heap.size ≤ g)

set_option maxHeartbeats 400000 in
theorem clone_nil (w : World) : Calls Try.prog 14 #[.slice none 0 0] w fun e w' => RetClone w w' [] e ∧ w.grownBy w' none := by
  have hnil := fun (w : World) (a : Option Addr) (n c : Nat) => Lib.run_eql_slice_nil (P := Try.prog) w 28 32 a n c 0 0 Try.underlying28
  go_enter Try.func14, Try.ntmps14
  go_wp2
  go_ret
  exact ⟨⟨_, rfl, ⟨rfl, .inl ⟨rfl, rfl⟩⟩, by simp [Value.ownBlock]⟩, World.grownBy.refl _ _⟩

theorem owns_empty (w : World) : (w.alloc (.cells #[] 32)).ownsRow 0 32 5 (.slice (some ⟨w.heap.size, 0, none⟩) 0 0) 0 [] :=
  World.ownsRow_made w #[] 0 (Nat.zero_le _) (Nat.zero_le _) rfl

set_option maxHeartbeats 400000 in
theorem clone_some (g cap : Nat) (xs : List It) (w : World) (hown : w.ownsRow 0 32 5 (.slice (some ⟨g, 0, none⟩) xs.length cap) xs.length (valsOf xs)) (hn : xs.length ≤ 16384) :
    Calls Try.prog 14 #[.slice (some ⟨g, 0, none⟩) xs.length cap] w fun e w' => RetClone w w' xs e ∧ w.grownBy w' none := by
  have hnil := fun (w : World) (a : Option Addr) (n c : Nat) => Lib.run_eql_slice_nil (P := Try.prog) w 28 32 a n c 0 0 Try.underlying28
  obtain ⟨i0, hi0, hz0, hz1, hz2⟩ := info_parts info32
  have hlt := (hown.lt g rfl).2
  cases hx : xs with
  | nil =>
    go_enter Try.func14, Try.ntmps14
    go_wp2
    go_ret
    exact ⟨⟨_, rfl, owns_empty w, by simp [Value.ownBlock]⟩, World.grownBy_alloc _ _ _⟩
  | cons x r =>
    rw [← hx]
    have hpos : 0 < xs.length := by rw [hx]; simp
    have HX : Hid _ := hx
    clear hx
    have hnews := (hown.alloc (.cells #[] 32)).cells (g := g) rfl
    go_enter Try.func14, Try.ntmps14
    go_wp2_with (at_builtin; refine wpList_append_lies _ rfl _ _ _ rfl 0 32 i0 _ 5 48 Try.underlying28 hi0 hz0 hz1 hz2 rfl (by omega) (.slice (some ⟨w.heap.size, 0, none⟩) 0 0) 0 [] (by rfl) (owns_empty w) ⟨g, 0, none⟩ xs.length cap (valsOf xs) (by rfl) (valsOf_length xs) hnews (vals_oneCell xs) hpos (by unfold maxLen; omega) (by omega) (Nat.zero_le _) (w.heap.size + 1) (by simp) ?_; intro g1 cap1 w1 hown1 hgrow hat hlt1)
    go_ret
    simp only [Nat.zero_add, List.nil_append] at hown1
    refine ⟨⟨_, by simp, hown1, ?_⟩, ?_⟩
    · intro g2 hg2
      simp only [Value.ownBlock, Option.some.injEq] at hg2 hat
      omega
    · exact (World.grownBy_alloc w _ none).andThen hgrow (fun j hj => by simp [Value.ownBlock] at hj; omega)

theorem clone_any (sv : Value) (xs : List It) (w : World) (hown : w.ownsRow 0 32 5 sv xs.length (valsOf xs)) (hn : xs.length ≤ 16384) :
    Calls Try.prog 14 #[sv] w fun e w' => RetClone w w' xs e ∧ w.grownBy w' none := by
  rcases hown.2 with ⟨rfl, h0⟩ | ⟨g, cap, cur, rfl, _⟩
  · obtain rfl := List.eq_nil_of_length_eq_zero h0
    exact clone_nil w
  · exact clone_some g cap xs w hown hn

end Go.Proofs.Qxb6602155a
