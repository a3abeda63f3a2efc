/-
  The walk of zzRest (7).
-/
import Derived.Test.Qxb6602155aHc
namespace Go.Proofs.Qxb6602155a
open Go.RowKit

/-- The sums from k on are laid. -/
structure Sums (w wr : World) (g k : Nat) (xs : List It) : Prop where
  row : ∃ f, wr.rowIs g 2 (xs.length + 1) f ∧ ∀ j, k ≤ j → j ≤ xs.length → f j = .int .i64 (restOf (xs.drop j))
  grow : Grow w wr
  new : w.heap.size ≤ g
theorem Sums.start (w : World) (xs : List It) : Sums w (w.alloc (.cells (madeCells #[.int .i64 0] (xs.length + 1)) 2)) w.heap.size xs.length xs := by
  refine ⟨⟨_, World.rowIs_made w (.int .i64 0) (xs.length + 1) 2, fun j h1 h2 => ?_⟩, (Grow.refl w).alloc _, Nat.le_refl _⟩
  obtain rfl : j = xs.length := by omega
  simp [restOf]
theorem Sums.step {w wr : World} {g k : Nat} {xs : List It} (h : Sums w wr g (k + 1) xs) {v : Int} (hv : v = restOf (xs.drop k)) : Sums w (wr.setCell ⟨g, k, none⟩ (.int .i64 v)) g k xs := by
  obtain ⟨⟨f, hr, hf⟩, hg, hn⟩ := h
  refine ⟨⟨_, hr.set k _, fun j h1 h2 => ?_⟩, hg.setCell hn _, hn⟩
  by_cases e : j = k
  · subst e; simp [hv]
  · simp only [if_neg e]; exact hf j (by omega) h2
theorem Sums.drewN {w wr : World} {g k : Nat} {xs : List It} (h : Sums w wr g k xs) (n : Nat) : Sums w (wr.drewN n) g k xs := by
  obtain ⟨⟨f, hr, hf⟩, hg, hn⟩ := h
  exact ⟨⟨f, hr, hf⟩, hg.drewN n, hn⟩
theorem drop_at {xs : List It} {k : Nat} (hk : k < xs.length) : xs.drop k = xs.getD k noIt :: xs.drop (k + 1) := by
  rw [List.drop_eq_getElem_cons hk]
  simp [List.getD, hk]
theorem getD_mem {xs : List It} {k : Nat} (hk : k < xs.length) : xs.getD k noIt ∈ xs := by
  simp [List.getD, hk]

set_option maxRecDepth 100000 in
set_option maxHeartbeats 1600000 in
theorem rest_any (a : Option Addr) (xs : List It) (d : Nat) (w : World) (hn : xs.length ≤ 4096) (hsz : ∀ x ∈ xs, InR x.size) (hx : Its w a xs) :
    Calls Try.prog 7 #[.slice a xs.length d] w fun e w' => RetRest w w' xs e := by
  have hmk : ∀ w : World, (Instr.makeSlice 34 (.int .i64 ((xs.length : Int) + 1)) (.int .i64 ((xs.length : Int) + 1))).run Try.prog w = .ok (.slice (some ⟨w.heap.size, 0, none⟩) (xs.length + 1) (xs.length + 1)) (w.alloc (.cells (madeCells #[.int .i64 0] (xs.length + 1)) 2)) :=
    fun w => make2 (xs.length + 1) (by omega) w
  go_enter Try.func7, Try.ntmps7
  go_wp2
  clear hmk
  go_loopw [5] (fun i wr => ∃ k : Nat, k ≤ xs.length ∧ i = .int .i64 (k - 1) ∧ Sums w wr w.heap.size k xs) (fun i _ => (intOf i + 1).toNat)
  case atStart => exact ⟨xs.length, Nat.le_refl _, rfl, Sums.start w xs⟩
  case round =>
    obtain ⟨k, hk, rfl, hO⟩ := hrel
    by_cases hlt : 0 < k
    · obtain ⟨k, rfl⟩ : ∃ j, k = j + 1 := ⟨k - 1, by omega⟩
      obtain ⟨b, o, rfl, hA⟩ := (hx.grow hO.grow).at (i := k) (by omega)
      have c4 := hA.c4
      have hbl : b < w.heap.size := by
        obtain ⟨b', o', h', hA'⟩ := hx.at (i := k) (by omega)
        cases h'
        exact World.block_lt_of_cell? w _ hA'.c4
      have hne : ¬ w.heap.size = b := by omega
      have hne2 : ¬ b = w.heap.size := by omega
      have e1 : ((k + 1 : Nat) : Int) - 1 = (k : Int) := by omega
      rw [e1]
      clear e1 hA hx
      obtain ⟨⟨f, hr, hf⟩, hg, hnw⟩ := id hO
      have r1 : wr.cell? ⟨w.heap.size, k + 1, none⟩ = some (.int .i64 (restOf (xs.drop (k + 1)))) := by rw [hr.cell (by omega), hf _ (by omega) (by omega)]
      have r0 := hr.cell (i := k) (by omega)
      have f0 := hr.frozen k
      have hdk := drop_at (xs := xs) (k := k) (by omega)
      have hx := hsz _ (getD_mem (xs := xs) (k := k) (by omega))
      have hri := restOf_in (xs.drop (k + 1)) (fun y hy => hsz y (List.mem_of_mem_drop hy))
      have hrd : restOf (xs.drop k) = if maxI - (xs.getD k noIt).size < restOf (xs.drop (k + 1)) then maxI else restOf (xs.drop (k + 1)) + (xs.getD k noIt).size := by rw [hdk]; rfl
      generalize (xs.getD k noIt).size = sz at *
      generalize restOf (xs.drop (k + 1)) = R at *
      generalize f k = v0 at *
      have hO' : Hid _ := hO
      have HD : Hid _ := hrd
      have HS : Hid _ := hsz
      clear hO hr hf hg hnw hdk hrd hsz
      obtain ⟨x1, x2⟩ := hx
      obtain ⟨y1, y2⟩ := hri
      have hk0 : (0 : Int) ≤ (k : Int) := Int.natCast_nonneg _
      have hkn : (k : Int) < (xs.length : Int) := by omega
      unfold maxI at x2 y2
      have hw1 : IntKind.i64.wrap (9223372036854775807 - sz) = 9223372036854775807 - sz := by rw [IntKind.wrap_i64]; omega
      by_cases hc : 9223372036854775807 - sz < R
      · have hd : decide (9223372036854775807 - sz < R) = true := by simpa using hc
        go_wp2_with fail
        go_quiet (fail)
        go_wp2
        go_roundw
        case rel => exact ⟨k, by omega, by go_num, (hO'.out.drewN _).step (by rw [HD.out, if_pos (by unfold maxI; omega)]; rfl)⟩
        case measure => simp [intOf]
      · have hd : decide (9223372036854775807 - sz < R) = false := by simpa using hc
        have hw2 : IntKind.i64.wrap (R + sz) = R + sz := by rw [IntKind.wrap_i64]; omega
        go_wp2_with fail
        go_quiet (fail)
        go_wp2_with fail
        have hk1 : (0 : Int) ≤ (k : Int) + 1 := by omega
        have hk2 : (k : Int) + 1 < ((xs.length + 1 : Nat) : Int) := by omega
        have hk3 : (k : Int) < ((xs.length + 1 : Nat) : Int) := by omega
        have hk4 : (k : Int) + 1 < (xs.length : Int) + 1 := by omega
        have hk5 : (k : Int) < (xs.length : Int) + 1 := by omega
        have hw3 : IntKind.i64.wrap ((k : Int) + 1) = (k : Int) + 1 := by rw [IntKind.wrap_i64]; omega
        go_region_held3 (fun w' => w'.cell? ⟨b, o + k * 5 + 4, none⟩ = some (.int .i64 sz) ∧ w'.cell? ⟨w.heap.size, k + 1, none⟩ = some (.int .i64 R)) (first | (go_keep; done) | exact ⟨(World.cell?_setCell_other _ _ _ _ (fun e => hne (by injection e))).trans c4, (World.cell?_setCell_other _ _ _ _ (by simp)).trans r1⟩) (fail)
        go_wp2
        go_roundw
        case rel => exact ⟨k, by omega, by go_num, (hO'.out.drewN _).step (by rw [HD.out, if_neg (by unfold maxI; omega)])⟩
        case measure => simp [intOf]
    · obtain rfl : k = 0 := by omega
      go_wp2
      go_ret
      obtain ⟨⟨f, hr, hf⟩, hg, hnw⟩ := hO
      exact ⟨_, rfl, hr.congr (fun j hj => hf j (by omega) (by omega)), hg, hnw⟩

end Go.Proofs.Qxb6602155a
