/-
  The closure of '(Links).components' (37).
-/
import Derived.Test.Qxb6601698aTb
import Derived.Deep.RegionHeld3
import Derived.Deep.DrawnRows
import Derived.Deep.QuietTactic
import Derived.Deep.DeepCutAuto
import Derived.BigQuiet
namespace Go.Proofs.Qxb6601698a
open Go.RowKit

theorem info71 : (Try.prog.info? 71).map (fun i => (i.zero, i.size, i.bytes)) = some (some (.agg #[.int .i64 0, .int .i64 0]), 2, 16) := by kernel_rfl

/-- What a call of 'reach' leaves. -/
def RetReach (w : World) (ib lk ix lx n : Nat) (dv : Value) (idx low : Nat → Nat) (op : Nat → Bool) (comp : Nat → Nat) (t : Nat) (mv : Value) (O : List Nat) (XP : List (Nat × Nat)) (ord : List Nat) (M : List (Nat × Nat)) (r : Nat) (e : Ending) (w' : World) : Prop :=
  e = .returned (.tuple #[]) ∧ ∃ ov' pv', Tm w w' ib lk ix lx n dv (fun y => if y = r then t + 1 else idx y) (fun y => if y = r then t + 1 else low y) (fun y => if y = r then true else op y) comp (t + 1) ov' pv' mv (O ++ [r]) (XP ++ [(r, 0)]) ord M

set_option maxRecDepth 100000 in
set_option maxHeartbeats 4000000 in
theorem reach_any {w wr : World} {ib lk ix lx n : Nat} {dv : Value} {idx low : Nat → Nat} {op : Nat → Bool} {comp : Nat → Nat} {t : Nat} {ov pv mv : Value} {O : List Nat} {XP : List (Nat × Nat)} {ord : List Nat} {M : List (Nat × Nat)} (r : Nat)
    (h : Tm w wr ib lk ix lx n dv idx low op comp t ov pv mv O XP ord M) (hr : r < n) (ht : t ≤ 1048576) (hOl : O.length ≤ 1048576) (hPl : XP.length ≤ 1048576) (_hn : n ≤ 1048576) :
    Calls Try.prog 37 #[.int .i64 r, .pointer (some ⟨w.heap.size + 11, 0, none⟩), .pointer (some ⟨ix, 0, none⟩), .pointer (some ⟨lx, 0, none⟩), .pointer (some ⟨w.heap.size + 8, 0, none⟩), .pointer (some ⟨w.heap.size + 9, 0, none⟩), .pointer (some ⟨w.heap.size + 10, 0, none⟩)] wr
      fun e w' => RetReach w ib lk ix lx n dv idx low op comp t mv O XP ord M r e w' := by
  obtain ⟨i3, hi3, hb0, hb1, hb2⟩ := info_parts info3
  obtain ⟨i71, hi71, ha0, ha1, ha2⟩ := info_parts info71
  have hF := h.four
  obtain ⟨⟨b1, b1'⟩, ⟨b2, b2'⟩, ⟨b3, b3'⟩, ⟨b4, b4'⟩, d1, d2, d3, d4, d5, d6⟩ := hF
  have cr : wr.cell? ⟨w.heap.size + 11, 0, none⟩ = some (.int .i64 (t : Int)) := h.rbox.cell (i := 0) (by omega)
  have fr := h.rbox.frozen 0
  have h1 := h.setCount (t + 1)
  have e1 : natV (t + 1) = .int .i64 ((t : Int) + 1) := rfl
  rw [e1] at h1
  have H1 : Hid (Tm w (wr.setCell ⟨w.heap.size + 11, 0, none⟩ (.int .i64 ((t : Int) + 1))) ib lk ix lx n dv idx low op comp (t + 1) ov pv mv O XP ord M) := h1
  clear h h1 e1
  go_enter Try.func37, Try.ntmps37
  go_wp2_with fail
  clear cr fr
  generalize wr.setCell ⟨w.heap.size + 11, 0, none⟩ (.int .i64 ((t : Int) + 1)) = W1 at *
  have ci := H1.out.icell
  have cl := H1.out.lcell
  have cpo := H1.out.pcell
  have cc : W1.cell? ⟨w.heap.size + 11, 0, none⟩ = some (.int .i64 ((t : Int) + 1)) := H1.out.rbox.cell (i := 0) (by omega)
  have ei : W1.cell? ⟨ib, r, none⟩ = some (.int .i64 (idx r : Int)) := H1.out.irow.cell hr
  have fi := H1.out.irow.frozen r
  have el : W1.cell? ⟨lk, r, none⟩ = some (.int .i64 (low r : Int)) := H1.out.lrow.cell hr
  have fl := H1.out.lrow.frozen r
  have eo := H1.out.prow.cell hr
  have fo := H1.out.prow.frozen r
  have hr0 : (0 : Int) ≤ (r : Int) := Int.natCast_nonneg _
  have hrn : (r : Int) < (n : Int) := by omega
  have n1 : ¬ ib = lk := d1
  have n2 : ¬ ib = ix := d2
  have n3 : ¬ ib = lx := d3
  have n4 : ¬ lk = ix := d4
  have n5 : ¬ lk = lx := d5
  have n6 : ¬ ix = lx := d6
  have n7 : ¬ lk = ib := fun e => d1 e.symm
  have n8 : ¬ ix = ib := fun e => d2 e.symm
  have n9 : ¬ lx = ib := fun e => d3 e.symm
  have n10 : ¬ ix = lk := fun e => d4 e.symm
  have n11 : ¬ lx = lk := fun e => d5 e.symm
  have m1 : ¬ ib = w.heap.size + 7 := by omega
  have m2 : ¬ lk = w.heap.size + 7 := by omega
  have m3 : ¬ ib = w.heap.size + 8 := by omega
  have m4 : ¬ lk = w.heap.size + 8 := by omega
  have m5 : ¬ ib = w.heap.size + 11 := by omega
  have m6 : ¬ lk = w.heap.size + 11 := by omega
  have m7 : ¬ ix = w.heap.size + 7 := by omega
  have m8 : ¬ lx = w.heap.size + 7 := by omega
  have k1 : ¬ w.heap.size + 7 = ib := by omega
  have k2 : ¬ w.heap.size + 7 = lk := by omega
  have k3 : ¬ w.heap.size + 8 = ib := by omega
  have k4 : ¬ w.heap.size + 8 = lk := by omega
  have k5 : ¬ w.heap.size + 11 = ib := by omega
  have k6 : ¬ w.heap.size + 11 = lk := by omega
  have k7 : ¬ w.heap.size + 7 = ix := by omega
  have k8 : ¬ w.heap.size + 7 = lx := by omega
  go_region_held3 (fun w' => w'.cell? ⟨ix, 0, none⟩ = some (.slice (some ⟨ib, 0, none⟩) n n) ∧ w'.cell? ⟨lx, 0, none⟩ = some (.slice (some ⟨lk, 0, none⟩) n n) ∧ w'.cell? ⟨w.heap.size + 8, 0, none⟩ = some (.slice (some ⟨w.heap.size + 7, 0, none⟩) n n) ∧ w'.cell? ⟨w.heap.size + 11, 0, none⟩ = some (.int .i64 ((t : Int) + 1))) (go_keep) (fail)
  have h2 := (((H1.out.setIdx r (t + 1)).setLow r (t + 1)).setOpen r true).more (Grow.refl _).drew
  have H2 : Hid (Tm w (((W1.setCell ⟨ib, r, none⟩ (.int .i64 ((t : Int) + 1))).setCell ⟨lk, r, none⟩ (.int .i64 ((t : Int) + 1))).setCell ⟨w.heap.size + 7, r, none⟩ (.bool true)).drew ib lk ix lx n dv (fun y => if y = r then t + 1 else idx y) (fun y => if y = r then t + 1 else low y) (fun y => if y = r then true else op y) comp (t + 1) ov pv mv O XP ord M) := h2
  clear h2 H1 ci cl cpo cc ei fi el fl eo fo n1 n2 n3 n4 n5 n6 n7 n8 n9 n10 n11 m1 m2 m3 m4 m5 m6 m7 m8 k1 k2 k3 k4 k5 k6 k7 k8
  rename_i hHeld
  clear hHeld
  generalize (((W1.setCell ⟨ib, r, none⟩ (.int .i64 ((t : Int) + 1))).setCell ⟨lk, r, none⟩ (.int .i64 ((t : Int) + 1))).setCell ⟨w.heap.size + 7, r, none⟩ (.bool true)).drew = W2 at *
  generalize hI2 : (fun y => if y = r then t + 1 else idx y) = idx2 at *
  generalize hL2 : (fun y => if y = r then t + 1 else low y) = low2 at *
  generalize hO2 : (fun y => if y = r then true else op y) = op2 at *
  have HI2 : Hid (_ = idx2) := hI2
  have HL2 : Hid (_ = low2) := hL2
  have HO2 : Hid (_ = op2) := hO2
  clear hI2 hL2 hO2
  obtain ⟨oa, oc, rfl, _⟩ := nats_own H2.out.oown
  have co := H2.out.obox.cell (i := 0) (by omega)
  have own2 := H2.out.oown
  have hszW2 := H2.out.sized
  have obx := H2.out.obox.alloc (.cells #[.int .i64 (r : Int)] 3)
  have hfb : some (w.heap.size + 9) ≠ (Value.slice oa O.length oc).ownBlock := fun e => by have := (own2.lt _ e.symm).1; omega
  go_upto_region 3 with (at_builtin; refine wpList_append_lies _ rfl _ _ 25 rfl (w.heap.size + 12) 3 i3 (.int .i64 0) 1 8 Try.underlying25 hi3 hb0 hb1 hb2 rfl (by decide) (.slice oa O.length oc) O.length _ (by first | rfl | simp) (own2.alloc _) ⟨W2.heap.size, 0, none⟩ 1 1 [.int .i64 r] rfl rfl (cell_one_new _ _ _) (fun u hu => by simp at hu; subst hu; rfl) (by decide) (by unfold maxLen; omega) (by omega) (by simp; omega) (W2.heap.size + 1) (by simp) ?_; intro g3 cap3 w3 hown3 hgrow3 hat3 hlt3; have ob3 := row_by obx hgrow3 hfb; have c9 := ob3.cell (i := 0) (by omega); have f9 := ob3.frozen 0)
  have h3 := (H2.out.more ((Grow.refl W2).alloc (.cells #[.int .i64 (r : Int)] 3))).setO (O' := O ++ [r]) (ov' := .slice (some ⟨g3, 0, none⟩) (O.length + 1) cap3) hgrow3 (by simpa [natV] using hown3) (fun g hg => by
    have e : g3 = g := by simpa [Value.ownBlock] using hg
    subst e
    rcases hat3 with h | h
    · exact .inl h
    · exact .inr (by simp; omega))
  have H3 : Hid (Tm w (w3.setCell ⟨w.heap.size + 9, 0, none⟩ (.slice (some ⟨g3, 0, none⟩) (O.length + 1) cap3)) ib lk ix lx n dv idx2 low2 op2 comp (t + 1) (.slice (some ⟨g3, 0, none⟩) (O.length + 1) cap3) pv mv (O ++ [r]) XP ord M) := h3
  clear h3 H2 co own2 obx hfb hown3 hgrow3 hat3 hlt3 ob3 c9 f9 hszW2
  generalize w3.setCell ⟨w.heap.size + 9, 0, none⟩ (.slice (some ⟨g3, 0, none⟩) (O.length + 1) cap3) = W3 at *
  obtain ⟨pa, pl, pc, rfl⟩ : ∃ a l c, pv = .slice a l c := by
    rcases H3.out.pown.2 with ⟨h, _⟩ | ⟨g, cap, cur, h, _⟩
    · exact ⟨_, _, _, h⟩
    · exact ⟨_, _, _, h⟩
  have cq := H3.out.qbox.cell (i := 0) (by omega)
  have own3 := H3.out.pown
  have hszW3 := H3.out.sized
  have qbx := H3.out.qbox.alloc (.cells #[.int .i64 (r : Int), .int .i64 0] 71)
  have hfb : some (w.heap.size + 10) ≠ (Value.slice pa pl pc).ownBlock := fun e => by have := (own3.lt _ e.symm).1; omega
  go_wp2_with (at_builtin; refine wpList_append_lies _ rfl _ _ 69 rfl (w.heap.size + 12) 71 i71 (.agg #[.int .i64 0, .int .i64 0]) 2 16 Try.underlying69 hi71 ha0 ha1 ha2 rfl (by decide) (.slice pa pl pc) XP.length _ (by first | rfl | simp) (own3.alloc _) ⟨W3.heap.size, 0, none⟩ 1 1 [.int .i64 r, .int .i64 0] rfl rfl (World.news_of_block (cs := #[.int .i64 (r : Int), .int .i64 0]) (t := 71) (fr := (0, 0)) (heap_alloc_new W3 _)) (fun u hu => by simp at hu; rcases hu with rfl | rfl <;> rfl) (by decide) (by unfold maxLen; omega) (by omega) (by simp; omega) (W3.heap.size + 1) (by simp) ?_; intro g4 cap4 w4 hown4 hgrow4 hat4 hlt4; have ob4 := row_by qbx hgrow4 hfb; have c10 := ob4.cell (i := 0) (by omega); have f10 := ob4.frozen 0)
  go_end0
  have eI := HI2.out
  have eL := HL2.out
  have eO := HO2.out
  subst eI eL eO
  refine ⟨rfl, _, _, (H3.out.more ((Grow.refl W3).alloc (.cells #[.int .i64 (r : Int), .int .i64 0] 71))).setP (XP' := XP ++ [(r, 0)]) (pv' := .slice (some ⟨g4, 0, none⟩) (XP.length + 1) cap4) hgrow4 ?_ (fun g hg => ?_)⟩
  · rw [stepsV_snoc]
    simpa [stepV, natV] using hown4
  · have e : g4 = g := by simpa [Value.ownBlock] using hg
    subst e
    rcases hat4 with h | h
    · exact .inl h
    · exact .inr (by simp; omega)

end Go.Proofs.Qxb6601698a
