/-
  The walk of '(Links).components' (34): its beginning, its closing loop.
-/
import Derived.Test.Qxb6601698aTe
import Derived.OwnWalk
namespace Go.Proofs.Qxb6601698a
open Go.RowKit

/-- The partition that the search ends with. -/
structure Parted (n : Nat) (adj : Nat → List Nat) (comp : Nat → Nat) (ML : List (List Nat)) : Prop where
  nodup : ML.flatten.Nodup
  all : ∀ v, v ∈ ML.flatten ↔ v < n
  mem : ∀ (c : Nat) (S : List Nat), ML[c]? = some S → S ≠ [] ∧ ∀ v ∈ S, comp v = c
  down : ∀ u, u < n → ∀ d ∈ adj u, comp d ≤ comp u
  scc : ∀ u, u < n → ∀ v, v < n → comp u = comp v → Reach adj u v

/-- What '(Links).components' hands back. -/
def RetComp (w w' : World) (n : Nat) (adj : Nat → List Nat) (e : Ending) : Prop := ∃ mv comp ML ord, e = .returned (.tuple #[mv, .slice (some ⟨w.heap.size + 1, 0, none⟩) n n]) ∧ Grow w w' ∧ Parted n adj comp ML ∧ ord = ML.flatten ∧
  w'.ownsRow (w.heap.size + 12) 25 1 mv (offs ML 0).length ((offs ML 0).map (partV w.heap.size)) ∧ w'.rowIs (w.heap.size + 1) 3 n (fun j => natV (comp j)) ∧ w'.ownsRow 0 3 1 (.slice (some ⟨w.heap.size + 2, 0, none⟩) ord.length n) ord.length (ord.map natV)

theorem info4b : (Try.prog.info? 4).map (fun i => (i.zero, i.size, i.bytes)) = some (some (.bool false), 1, 1) := by kernel_rfl
theorem make57 (n : Nat) (hn : n ≤ 1048576) (w : World) :
    (Instr.makeSlice 57 (.int .i64 (n : Int)) (.int .i64 (n : Int))).run Try.prog w = .ok (.slice (some ⟨w.heap.size, 0, none⟩) n n) (w.alloc (.cells (madeCells #[.bool false] n) 4)) :=
  run_make_row' 57 4 _ 1 Try.underlying57 info4b rfl .i64 .i64 n (by omega) (by omega) w
theorem make3cap (n : Nat) (hn : n ≤ 1048576) (w : World) :
    (Instr.makeSlice 25 (.int .i64 0) (.int .i64 (n : Int))).run Try.prog w = .ok (.slice (some ⟨w.heap.size, 0, none⟩) 0 n) (w.alloc (.cells (madeCells #[.int .i64 0] n) 3)) := by
  obtain ⟨i, hi, hzz⟩ := Option.map_eq_some_iff.1 info3
  simp only [Prod.mk.injEq] at hzz
  obtain ⟨hz, hs, hb⟩ := hzz
  have := run_make (P := Try.prog) w 25 3 i _ Try.underlying25 hi hz .i64 .i64 0 n (by omega) (by omega) (by rw [hb]; omega) (by omega)
  rw [this, hs]
  simp [Value.cells]

theorem blk {W W' : World} (g : Grow W W') {k : Nat} {o : Obj} (h : W.heap[k]? = some o) : W'.heap[k]? = some o := by
  have hk : k < W.heap.size := by
    rcases Nat.lt_or_ge k W.heap.size with h1 | h1
    · exact h1
    · rw [Array.getElem?_eq_none h1] at h; cases h
  rw [g.block k hk (fun t => t)]
  exact h
theorem row_made {W : World} {b : Nat} {t : TypeId} {n : Nat} {z : Value} (h : W.heap[b]? = some (.cells (madeCells #[z] n) t)) : W.rowIs b t n (fun _ => z) :=
  ⟨_, h, size_madeCells _ _, fun i hi => by
    rw [← Array.getElem?_toList, toList_madeCells_one]
    simp [hi]⟩
theorem row_one {W : World} {b : Nat} {t : TypeId} {z : Value} (h : W.heap[b]? = some (.cells #[z] t)) : W.rowIs b t 1 (fun _ => z) :=
  ⟨_, h, rfl, fun i hi => by
    have : i = 0 := by omega
    subst this
    rfl⟩

/-- The memory behind the first statements. -/
theorem tm_start (w w3 w4 : World) (n ib lk ix lx : Nat) (hn : n ≤ 1048576) (v0 v1 v2 v3 v4 v5 : Value) (h3 : w3 = ((w.alloc (.cells #[v0, v1, v2, v3, v4, v5] 34)).alloc (.cells (madeCells #[.int .i64 0] n) 3)).alloc (.cells (madeCells #[.int .i64 0] n) 3)) (hM : Made4 w3 w4 n ib lk ix lx) :
    w4.heap.size = w.heap.size + 7 ∧ Tm w (((((w4.alloc (.cells (madeCells #[.bool false] n) 4)).alloc (.cells #[.slice (some ⟨w.heap.size + 7, 0, none⟩) n n] 57)).alloc (.cells #[.slice none 0 0] 25)).alloc (.cells #[.slice none 0 0] 69)).alloc (.cells #[.int .i64 0] 3)) ib lk ix lx n v2 (fun _ => 0) (fun _ => 0) (fun _ => false) (fun _ => 0) 0 (.slice none 0 0) (.slice none 0 0) (.slice none 0 0) [] [] [] [] := by
  have s3 : w3.heap.size = w.heap.size + 3 := by rw [h3]; simp
  have s4 : w4.heap.size = w.heap.size + 7 := by rw [hM.size, s3]
  refine ⟨s4, ?_⟩
  have hb0 : w3.heap[w.heap.size]? = some (.cells #[v0, v1, v2, v3, v4, v5] 34) := by
    rw [h3]
    exact blk (((Grow.refl _).alloc _).alloc _) (heap_alloc_new w _)
  have hb1 : w3.heap[w.heap.size + 1]? = some (.cells (madeCells #[.int .i64 0] n) 3) := by
    rw [h3]
    have h := heap_alloc_new (w.alloc (.cells #[v0, v1, v2, v3, v4, v5] 34)) (.cells (madeCells #[.int .i64 0] n) 3)
    rw [show (w.alloc (.cells #[v0, v1, v2, v3, v4, v5] 34)).heap.size = w.heap.size + 1 by simp] at h
    exact blk ((Grow.refl _).alloc _) h
  have hb2 : w3.heap[w.heap.size + 2]? = some (.cells (madeCells #[.int .i64 0] n) 3) := by
    rw [h3]
    have h := heap_alloc_new ((w.alloc (.cells #[v0, v1, v2, v3, v4, v5] 34)).alloc (.cells (madeCells #[.int .i64 0] n) 3)) (.cells (madeCells #[.int .i64 0] n) 3)
    rw [show ((w.alloc (.cells #[v0, v1, v2, v3, v4, v5] 34)).alloc (.cells (madeCells #[.int .i64 0] n) 3)).heap.size = w.heap.size + 2 by simp] at h
    exact h
  have gw3 : Grow w w3 := by rw [h3]; exact (((Grow.refl _).alloc _).alloc _).alloc _
  have hb7 := heap_alloc_new w4 (.cells (madeCells #[.bool false] n) 4)
  generalize e5 : w4.alloc (.cells (madeCells #[.bool false] n) 4) = w5 at *
  have s5 : w5.heap.size = w.heap.size + 8 := by rw [← e5]; simp [s4]
  have hb8 := heap_alloc_new w5 (.cells #[.slice (some ⟨w.heap.size + 7, 0, none⟩) n n] 57)
  have g45 : Grow w4 w5 := by rw [← e5]; exact (Grow.refl _).alloc _
  generalize e6 : w5.alloc (.cells #[.slice (some ⟨w.heap.size + 7, 0, none⟩) n n] 57) = w6 at *
  have s6 : w6.heap.size = w.heap.size + 9 := by rw [← e6]; simp [s5]
  have hb9 := heap_alloc_new w6 (.cells #[.slice none 0 0] 25)
  have g56 : Grow w5 w6 := by rw [← e6]; exact (Grow.refl _).alloc _
  generalize e7 : w6.alloc (.cells #[.slice none 0 0] 25) = w7 at *
  have s7 : w7.heap.size = w.heap.size + 10 := by rw [← e7]; simp [s6]
  have hb10 := heap_alloc_new w7 (.cells #[.slice none 0 0] 69)
  have g67 : Grow w6 w7 := by rw [← e7]; exact (Grow.refl _).alloc _
  generalize e8 : w7.alloc (.cells #[.slice none 0 0] 69) = w8 at *
  have s8 : w8.heap.size = w.heap.size + 11 := by rw [← e8]; simp [s7]
  have hb11 := heap_alloc_new w8 (.cells #[.int .i64 0] 3)
  have g78 : Grow w7 w8 := by rw [← e8]; exact (Grow.refl _).alloc _
  generalize e9 : w8.alloc (.cells #[.int .i64 0] 3) = w9 at *
  have g89 : Grow w8 w9 := by rw [← e9]; exact (Grow.refl _).alloc _
  rw [s4] at hb7
  rw [s5] at hb8
  rw [s6] at hb9
  rw [s7] at hb10
  rw [s8] at hb11
  have g79 := g78.trans g89
  have g69 := g67.trans g79
  have g59 := g56.trans g69
  have g49 := g45.trans g59
  have g39 := hM.grow.trans g49
  obtain ⟨b1, b2, b3, b4, d1, _, _, hi, hl, hx, hy⟩ := hM
  rw [s3] at b1 b2 b3 b4
  have empty : ∀ (W : World) (base : Nat) (e : TypeId) (size : Nat), W.ownsRow base e size (.slice none 0 0) 0 [] := fun W base e size => ⟨by simp, .inl ⟨rfl, rfl⟩⟩
  refine ⟨gw3.trans g39, ⟨by omega, by omega, by omega, by omega, d1⟩, ?_, row_made (blk g39 hb1), ⟨rfl, .inr ⟨_, n, _, rfl, Nat.zero_le _, blk g39 hb2, Nat.zero_le _, by unfold maxLen; omega, by simp [size_madeCells], by simp⟩⟩, row_made (blk g49 hi), row_made (blk g49 hl), ?_, ?_, row_made (blk g59 hb7), ?_, row_one (blk g79 hb9), row_one (blk g89 hb10), row_one hb11, empty _ _ _ _, empty _ _ _ _, empty _ _ _ _, fun g e => by simp [Value.ownBlock] at e, fun g e => by simp [Value.ownBlock] at e⟩
  · have h := blk g39 hb0
    simp [World.cell?, h]
  · exact (row_one (blk g49 hx)).cell (i := 0) (by omega)
  · exact (row_one (blk g49 hy)).cell (i := 0) (by omega)
  · exact (row_one (blk g69 hb8)).cell (i := 0) (by omega)

def flen (ML : List (List Nat)) : Nat := ML.flatten.length
/-- Memory and plain state together. -/
def TAll (w wr : World) (ib lk ix lx n : Nat) (dv : Value) (adj : Nat → List Nat) (idx : Nat → Nat) (t : Nat) (mv s5 : Value) (O : List Nat) (XP : List (Nat × Nat)) (ML : List (List Nat)) : Prop :=
  ∃ low op comp ovv pvv, s5 = .slice (some ⟨w.heap.size + 2, 0, none⟩) (flen ML) n ∧ Tm w wr ib lk ix lx n dv idx low op comp t ovv pvv mv O XP ML.flatten (offs ML 0) ∧ Ts n adj idx low comp op t O XP ML

section
variable {w wr wr' : World} {ib lk ix lx n : Nat} {dv : Value} {idx low : Nat → Nat} {op : Nat → Bool} {comp : Nat → Nat} {t : Nat} {ov pv mv : Value} {O : List Nat} {XP : List (Nat × Nat)} {ord : List Nat} {M : List (Nat × Nat)}
/-- The last of the open ones. -/
theorem Tm.topO {m : Nat} (h : Tm w wr ib lk ix lx n dv idx low op comp t ov pv mv (O ++ [m]) XP ord M) : ∃ ob oc, ov = .slice (some ⟨ob, 0, none⟩) (O.length + 1) oc ∧ O.length + 1 ≤ oc ∧ w.heap.size + 12 ≤ ob ∧ wr.cell? ⟨ob, O.length, none⟩ = some (.int .i64 (m : Int)) := by
  have hp := h.oown
  obtain ⟨pb, pc, rfl, hb, _⟩ := hp.form (by simp)
  have e2 : (O ++ [m]).length = O.length + 1 := by simp
  rw [e2] at hp
  have hc := hp.cells (g := pb) rfl
  have hcap := own_cap hp
  refine ⟨pb, pc, by rw [e2], hcap, hb, ?_⟩
  have := hc O.length (natV m) (by simp)
  simpa [natV, Addr.add_mid] using this
end

theorem len_flat : ∀ (ML : List (List Nat)), (∀ S ∈ ML, S ≠ []) → ML.length ≤ ML.flatten.length
  | [], _ => Nat.le_refl _
  | S :: r, h => by
    have h1 := len_flat r (fun T hT => h T (List.mem_cons_of_mem _ hT))
    have h2 : 0 < S.length := List.length_pos_iff.2 (h S (by simp))
    simp only [List.length_cons, List.flatten_cons, List.length_append]
    omega
theorem Ts.mlen {n : Nat} {adj : Nat → List Nat} {idx low comp : Nat → Nat} {op : Nat → Bool} {t : Nat} {O : List Nat} {XP : List (Nat × Nat)} {ML : List (List Nat)} (h : Ts n adj idx low comp op t O XP ML) : ML.length ≤ flen ML :=
  len_flat ML (fun S hS => by
    obtain ⟨c, hc⟩ := List.getElem?_of_mem hS
    exact (h.mem c S hc).1)
theorem shut_fun {α : Type} (S : List Nat) (m : Nat) (a : α) (f : Nat → α) : (fun y => if y = m then a else (fun y => if y ∈ S then a else f y) y) = fun y => if y ∈ S ++ [m] then a else f y := by
  funext y
  by_cases e : y = m
  · simp [e]
  · by_cases e2 : y ∈ S
    · simp [e2]
    · simp [e, e2]

/-- How the closing loop stands: P is still open, S is shut. -/
def TShut (w wr : World) (ib lk ix lx n : Nat) (dv : Value) (idx low comp : Nat → Nat) (op : Nat → Bool) (t : Nat) (pv mv s5 : Value) (A P S : List Nat) (XP : List (Nat × Nat)) (ML : List (List Nat)) : Prop :=
  ∃ ov, s5 = .slice (some ⟨w.heap.size + 2, 0, none⟩) (flen ML + S.length) n ∧ Tm w wr ib lk ix lx n dv idx low (fun y => if y ∈ S then false else op y) (fun y => if y ∈ S then ML.length else comp y) t ov pv mv (A ++ P) XP (ML.flatten ++ S) (offs ML 0)
theorem tshut_start {w wr : World} {ib lk ix lx n : Nat} {dv : Value} {idx low comp : Nat → Nat} {op : Nat → Bool} {t : Nat} {ov pv mv : Value} {A P : List Nat} {XP : List (Nat × Nat)} {ML : List (List Nat)} (h : Tm w wr ib lk ix lx n dv idx low op comp t ov pv mv (A ++ P) XP ML.flatten (offs ML 0)) :
    TShut w wr ib lk ix lx n dv idx low comp op t pv mv (.slice (some ⟨w.heap.size + 2, 0, none⟩) (flen ML) n) A P [] XP ML := by
  refine ⟨ov, rfl, ?_⟩
  simpa using h
/-- Which one is popped last. -/
theorem shut_last {r m : Nat} {B P S : List Nat} (hnd : (r :: B).Nodup) (h : r :: B = (P ++ [m]) ++ S.reverse) : (m = r → P = []) ∧ (m ≠ r → P ≠ []) := by
  cases P with
  | nil => exact ⟨fun _ => rfl, fun hne => absurd (by simp at h; exact h.1.symm) hne⟩
  | cons p P =>
    refine ⟨fun e => ?_, fun _ => by simp⟩
    simp at h
    rw [List.nodup_cons] at hnd
    exact absurd (by rw [h.2, e]; simp) hnd.1

end Go.Proofs.Qxb6601698a
