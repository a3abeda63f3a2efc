/-
  zzB1Spread (35).
-/
import Derived.Test.Qxb6601698aSb
namespace Go.Proofs.Qxb6601698a
open Go.RowKit

theorem rows_ne {w : World} {a b : Nat} {t u : TypeId} {n m : Nat} {f g : Nat → Value} (h : w.rowIs a t n f) (k : w.rowIs b u m g) (hne : t ≠ u) : a ≠ b := by
  intro e
  subst e
  obtain ⟨c, h1, _⟩ := h
  obtain ⟨d, k1, _⟩ := k
  rw [h1] at k1
  injection k1 with k1
  injection k1 with _ k2 _
  exact hne k2
theorem Nats.by {w w' : World} {g : Nat} {t : TypeId} {n : Nat} {f : Nat → Bool} {a : Option Addr} {xs : List Nat} (h : Nats w a xs) (hr : w.rowIs g t n (fun j => .bool (f j))) (hg : w.grownBy w' (some g)) : Nats w' a xs :=
  ⟨h.1, fun i hi => by
    obtain ⟨b, o, ha, hc⟩ := h.2 i hi
    exact ⟨b, o, ha, cell_by hg hc (sne (ne_block hr (fun j hj e => by cases e) hc))⟩⟩
theorem Rows2.by {w w' : World} {g : Nat} {t : TypeId} {n m : Nat} {f : Nat → Bool} {a : Option Addr} {adj : Nat → List Nat} (h : Rows2 w a m adj) (hr : w.rowIs g t n (fun j => .bool (f j))) (hg : w.grownBy w' (some g)) : Rows2 w' a m adj := fun v hv => by
  obtain ⟨b, o, ha, av, cap, hc, hn⟩ := h v hv
  exact ⟨b, o, ha, av, cap, cell_by hg hc (sne (ne_block hr (fun j hj e => by cases e) hc)), hn.by hr hg⟩

/-- How the spreading stands: M is marked, St is still to be looked at. -/
structure Spr (n : Nat) (adj : Nat → List Nat) (comp : Nat → Nat) (c start : Nat) (M St : List Nat) : Prop where
  nd : M.Nodup
  lt : ∀ v ∈ M, v < n ∧ comp v = c
  st : start ∈ M
  sub : ∀ v ∈ St, v ∈ M
  sl : St.length ≤ M.length
  done : ∀ v ∈ M, v ∉ St → ∀ d ∈ adj v, comp d = c → d ∈ M
/-- The same while j of v's steps have been looked at. -/
structure SprI (n : Nat) (adj : Nat → List Nat) (comp : Nat → Nat) (c start v j : Nat) (M St : List Nat) : Prop where
  nd : M.Nodup
  lt : ∀ v ∈ M, v < n ∧ comp v = c
  st : start ∈ M
  sub : ∀ v ∈ St, v ∈ M
  sl : St.length ≤ M.length
  done : ∀ u ∈ M, u ∉ St → u ≠ v → ∀ d ∈ adj u, comp d = c → d ∈ M
  part : ∀ i, i < j → ∀ d, (adj v)[i]? = some d → comp d = c → d ∈ M

section
variable {n : Nat} {adj : Nat → List Nat} {comp : Nat → Nat} {c start v j d : Nat} {M St : List Nat}
theorem Spr.open (h : Spr n adj comp c start M (St ++ [v])) : SprI n adj comp c start v 0 M St :=
  ⟨h.nd, h.lt, h.st, fun u hu => h.sub u (by simp [hu]), (by have := h.sl; simp at this; omega), fun u hu hn hne => h.done u hu (by simp [hn, hne]), fun i hi => by omega⟩
theorem SprI.shut (h : SprI n adj comp c start v j M St) (hj : (adj v).length ≤ j) : Spr n adj comp c start M St :=
  ⟨h.nd, h.lt, h.st, h.sub, h.sl, fun u hu hn d hd hc => by
    by_cases e : u = v
    · subst e
      obtain ⟨i, hi⟩ := List.getElem?_of_mem hd
      have hil : i < (adj u).length := (List.getElem?_eq_some_iff.1 hi).1
      exact h.part i (by omega) d hi hc
    · exact h.done u hu hn e d hd hc⟩
theorem SprI.skip (h : SprI n adj comp c start v j M St) (hd : (adj v)[j]? = some d) (hs : comp d = c → d ∈ M) : SprI n adj comp c start v (j + 1) M St :=
  ⟨h.nd, h.lt, h.st, h.sub, h.sl, h.done, fun i hi e he hc => by
    by_cases ei : i = j
    · subst ei; rw [hd] at he; obtain rfl := Option.some.inj he; exact hs hc
    · exact h.part i (by omega) e he hc⟩
theorem SprI.push (h : SprI n adj comp c start v j M St) (hd : (adj v)[j]? = some d) (hc : comp d = c) (hn : d < n) (hM : d ∉ M) : SprI n adj comp c start v (j + 1) (M ++ [d]) (St ++ [d]) := by
  refine ⟨?_, fun u hu => ?_, by simp [h.st], fun u hu => ?_, (by have := h.sl; simp; omega), fun u hu hnot hne e he hce => ?_, fun i hi e he hce => ?_⟩
  · rw [List.nodup_append]
    exact ⟨h.nd, by simp, fun a ha b hb => by simp at hb; subst hb; exact fun e => hM (e ▸ ha)⟩
  · rcases List.mem_append.1 hu with hu | hu
    · exact h.lt u hu
    · simp at hu; subst hu; exact ⟨hn, hc⟩
  · rcases List.mem_append.1 hu with hu | hu
    · exact List.mem_append_left _ (h.sub u hu)
    · exact List.mem_append_right _ hu
  · simp only [List.mem_append, not_or] at hnot
    rcases List.mem_append.1 hu with hu | hu
    · exact List.mem_append_left _ (h.done u hu hnot.1 hne e he hce)
    · exact absurd hu hnot.2
  · by_cases ei : i = j
    · subst ei; rw [hd] at he; obtain rfl := Option.some.inj he; simp
    · exact List.mem_append_left _ (h.part i (by omega) e he hce)
theorem SprI.le (h : SprI n adj comp c start v j M St) : M.length ≤ n := by
  have := nodup_len h.nd (fun u hu => (by simpa using (h.lt u hu).1 : u ∈ List.range n))
  simpa using this
theorem SprI.room (h : SprI n adj comp c start v j M St) (hd : d < n) (hM : d ∉ M) : M.length < n := by
  have hnd : (M ++ [d]).Nodup := by
    rw [List.nodup_append]
    exact ⟨h.nd, by simp, fun a ha b hb => by simp at hb; subst hb; exact fun e => hM (e ▸ ha)⟩
  have := nodup_len hnd (fun u hu => (by
    rcases List.mem_append.1 hu with hu | hu
    · simpa using (h.lt u hu).1
    · simp at hu; subst hu; simpa using hd : u ∈ List.range n))
  simp at this
  omega
/-- The component is what start reaches inside it. -/
def Whole (n : Nat) (adj : Nat → List Nat) (comp : Nat → Nat) (c start : Nat) : Prop :=
  ∀ (P : Nat → Prop), P start → (∀ u, u < n → comp u = c → P u → ∀ d ∈ adj u, comp d = c → P d) → ∀ v, v < n → comp v = c → P v
theorem Spr.all (h : Spr n adj comp c start M []) (hW : Whole n adj comp c start) : ∀ v, v < n → comp v = c → v ∈ M :=
  hW (fun v => v ∈ M) h.st (fun u _ _ hu d hd hc => h.done u hu (by simp) d hd hc)
end

/-- The memory of the spreading. -/
structure Sm (w wr : World) (mb n : Nat) (mark : Nat → Bool) (sv : Value) (M St : List Nat) : Prop where
  grow : w.grownBy wr (some mb)
  mrow : wr.rowIs mb 4 n (fun j => .bool (mark j || decide (j ∈ M)))
  sown : wr.ownsRow w.heap.size 3 1 sv St.length (St.map natV)
  mlt : mb < w.heap.size

theorem by_set (w : World) (b o : Nat) (v : Value) : w.grownBy (w.setCell ⟨b, o, none⟩ v) (some b) := ⟨rfl, rfl, rfl, by simp [World.setCell], fun _ _ hn => Below.heap_setCell _ _ _ _ (fun e => hn (by rw [e]))⟩
theorem by_trans {a b c : World} {row : Option Nat} (h : a.grownBy b row) (k : b.grownBy c row) : a.grownBy c row :=
  ⟨k.os.trans h.os, k.tape.trans h.tape, k.output.trans h.output, Nat.le_trans h.size k.size, fun i hi hn => (k.block i (Nat.lt_of_lt_of_le hi h.size) hn).trans (h.block i hi hn)⟩
/-- A growth of what came later. -/
theorem by_new {a b c : World} {row row2 : Option Nat} (h : a.grownBy b row) (k : b.grownBy c row2) (hn : ∀ g, row2 = some g → a.heap.size ≤ g) : a.grownBy c row :=
  ⟨k.os.trans h.os, k.tape.trans h.tape, k.output.trans h.output, Nat.le_trans h.size k.size, fun i hi hne => (k.block i (Nat.lt_of_lt_of_le hi h.size) (fun e => by have := hn i e.symm; omega)).trans (h.block i hi hne)⟩
theorem by_grow {a b c : World} {row : Option Nat} (h : a.grownBy b row) (k : Grow b c) : a.grownBy c row := by_new h k.grew (fun g e => by cases e)

theorem Sm.more {w wr wr' : World} {mb n : Nat} {mark : Nat → Bool} {sv : Value} {M St : List Nat} (h : Sm w wr mb n mark sv M St) (g : Grow wr wr') : Sm w wr' mb n mark sv M St :=
  ⟨by_grow h.grow g, row_by h.mrow g.grew (by simp), h.sown.kept g.grew (by cases sv.ownBlock <;> simp), h.mlt⟩
theorem Sm.mark {w wr : World} {mb n : Nat} {mark : Nat → Bool} {sv : Value} {M St : List Nat} (h : Sm w wr mb n mark sv M St) (d : Nat) : Sm w (wr.setCell ⟨mb, d, none⟩ (.bool true)) mb n mark sv (M ++ [d]) St :=
  ⟨by_trans h.grow (by_set _ _ _ _), (h.mrow.set d _).congr (fun j _ => by
    by_cases e : j = d
    · simp [e]
    · simp [e]), h.sown.kept (by_set _ _ _ _) (own_ne h.sown h.mlt), h.mlt⟩

/-- What zzB1Spread answers. -/
def RetSpread (w w' : World) (mb n : Nat) (mark : Nat → Bool) (S : List Nat) (e : Ending) : Prop :=
  e = .returned (.int .i64 (S.length : Int)) ∧ w.grownBy w' (some mb) ∧ w'.rowIs mb 4 n (fun j => .bool (mark j || decide (j ∈ S)))

theorem spread_end {w wr : World} {n mb c start : Nat} {adj : Nat → List Nat} {comp : Nat → Nat} {mark : Nat → Bool} {sv : Value} {M S : List Nat} (hm : Sm w wr mb n mark sv M []) (hs : Spr n adj comp c start M []) (hW : Whole n adj comp c start) (hS : S.Nodup) (hSm : ∀ v, v ∈ S ↔ v < n ∧ comp v = c) :
    M.length = S.length ∧ w.grownBy wr (some mb) ∧ wr.rowIs mb 4 n (fun j => .bool (mark j || decide (j ∈ S))) := by
  have hiff : ∀ v, v ∈ M ↔ v ∈ S := fun v => ⟨fun h => (hSm v).2 (hs.lt v h), fun h => hs.all hW v ((hSm v).1 h).1 ((hSm v).1 h).2⟩
  refine ⟨Nat.le_antisymm (nodup_len hs.nd (fun u hu => (hiff u).1 hu)) (nodup_len hS (fun u hu => (hiff u).2 hu)), hm.grow, hm.mrow.congr (fun j _ => ?_)⟩
  rw [show decide (j ∈ M) = decide (j ∈ S) from decide_eq_decide.2 (hiff j)]

set_option maxRecDepth 100000 in
set_option maxHeartbeats 4000000 in
theorem spread_any (start c n cb mb dl dc : Nat) (da : Option Addr) (adj : Nat → List Nat) (comp : Nat → Nat) (mark : Nat → Bool) (S : List Nat) (w : World)
    (hn : n ≤ 65536) (hR : Rows2 w da n adj) (hdl : n ≤ dl) (hlt : ∀ v, v < n → ∀ d ∈ adj v, d < n) (hlen : ∀ v, v < n → (adj v).length ≤ 1073741824)
    (hC : w.rowIs cb 3 n (fun j => natV (comp j))) (hM : w.rowIs mb 4 n (fun j => .bool (mark j))) (hst : start < n) (hsc : comp start = c) (hW : Whole n adj comp c start) (hS : S.Nodup) (hSm : ∀ v, v ∈ S ↔ v < n ∧ comp v = c) (hun : ∀ v, v < n → comp v = c → mark v = false) :
    Calls Try.prog 35 #[.int .i64 start, .int .i64 c, .slice da dl dc, .slice (some ⟨cb, 0, none⟩) n n, .slice (some ⟨mb, 0, none⟩) n n] w fun e w' => RetSpread w w' mb n mark S e := by
  obtain ⟨i3, hi3, hb0, hb1, hb2⟩ := info_parts info3
  have HR : Hid (Rows2 w da n adj) := hR
  have HC : Hid (w.rowIs cb 3 n (fun j => natV (comp j))) := hC
  have HM : Hid (w.rowIs mb 4 n (fun j => .bool (mark j))) := hM
  have HE : Hid (Whole n adj comp c start ∧ S.Nodup ∧ (∀ v, v ∈ S ↔ v < n ∧ comp v = c)) := ⟨hW, hS, hSm⟩
  have HUn : Hid (∀ v, v < n → comp v = c → mark v = false) := hun
  have HLt : Hid (∀ v, v < n → ∀ d ∈ adj v, d < n) := hlt
  have HLen : Hid (∀ v, v < n → (adj v).length ≤ 1073741824) := hlen
  have hcm : cb ≠ mb := rows_ne hC hM (by decide)
  have hml := hM.lt
  have em := hM.cell hst
  have fm := hM.frozen start
  have hst0 : (0 : Int) ≤ (start : Int) := Int.natCast_nonneg _
  have hstn : (start : Int) < (n : Int) := by omega
  have HSm0 : Hid (Sm w ((w.setCell ⟨mb, start, none⟩ (.bool true)).alloc (.cells #[.int .i64 (start : Int)] 3)) mb n mark (.slice (some ⟨w.heap.size, 0, none⟩) 1 1) [start] [start]) := by
    have hblk : ((w.setCell ⟨mb, start, none⟩ (.bool true)).alloc (.cells #[.int .i64 (start : Int)] 3)).heap[w.heap.size]? = some (.cells #[.int .i64 (start : Int)] 3) := by
      have h := heap_alloc_new (w.setCell ⟨mb, start, none⟩ (.bool true)) (.cells #[.int .i64 (start : Int)] 3)
      rw [show (w.setCell ⟨mb, start, none⟩ (.bool true)).heap.size = w.heap.size by simp] at h
      exact h
    exact ⟨by_grow (by_set _ _ _ _) ((Grow.refl _).alloc _), ((hM.set start (.bool true)).alloc _).congr (fun j _ => by
      by_cases e : j = start
      · simp [e]
      · simp [e]), ⟨rfl, .inr ⟨w.heap.size, 1, #[.int .i64 (start : Int)], rfl, Nat.le_refl _, hblk, Nat.le_refl _, by unfold maxLen; omega, rfl, rfl⟩⟩, hml⟩
  have HSp0 : Hid (Spr n adj comp c start [start] [start]) := ⟨by simp, fun v hv => by simp at hv; subst hv; exact ⟨hst, hsc⟩, by simp, fun v hv => hv, Nat.le_refl _, fun v hv hn => absurd hv hn⟩
  clear hR hC hM hW hS hSm hun hlt hlen
  go_enter Try.func35, Try.ntmps35
  go_wp2
  clear em fm
  go_loopg [11, 12] (2 * (n - 1) + 1) (fun gn sv cv wr => ∃ (M St : List Nat), gn = 2 * (n - M.length) + St.length ∧ cv = .int .i64 (M.length : Int) ∧ Sm w wr mb n mark sv M St ∧ Spr n adj comp c start M St)
  case atStart => exact ⟨[start], [start], rfl, rfl, HSm0.out, HSp0.out⟩
  case round =>
    clear HSm0 HSp0
    obtain ⟨M, St, rfl, rfl, hSm, hSp⟩ := hrel
    rcases List.eq_nil_or_concat St with hSt | ⟨St0, v, hSt⟩
    · subst hSt
      obtain ⟨pa, pl, pc, rfl⟩ : ∃ a l c, u11 = .slice a l c := by
        rcases hSm.sown.2 with ⟨h, _⟩ | ⟨g, cap, cur, h, _⟩
        · exact ⟨_, _, _, h⟩
        · exact ⟨_, _, _, h⟩
      have hpl : pl = 0 := by
        rcases hSm.sown.2 with ⟨h, _⟩ | ⟨g, cap, cur, h, _⟩
        · injection h
        · injection h
      subst hpl
      have hend := spread_end hSm hSp HE.out.1 HE.out.2.1 HE.out.2.2
      have HEnd : Hid _ := hend
      clear hSm hSp hend
      go_wp2
      go_ret
      rw [HEnd.out.1]
      exact ⟨rfl, HEnd.out.2⟩
    · rw [List.concat_eq_append] at hSt
      subst hSt
      have hown := hSm.sown
      obtain ⟨sb, sc, rfl, hsb, _⟩ := hown.form (by simp)
      have e2 : (St0 ++ [v]).length = St0.length + 1 := by simp
      rw [e2] at hown
      have cv : wr.cell? ⟨sb, St0.length, none⟩ = some (.int .i64 (v : Int)) := by
        have h := hown.cells (g := sb) rfl St0.length (natV v) (by simp)
        simpa [natV, Addr.add_mid] using h
      have hsc := own_cap hown
      have hvM : v ∈ M := hSp.sub v (by simp)
      have hvn := (hSp.lt v hvM).1
      have hMr : wr.rowIs mb 4 n (fun j => .bool (mark j || decide (j ∈ M))) := hSm.mrow
      obtain ⟨db, dob, hda, av, ac, crow0, hnats⟩ := HR.out v hvn
      have crow := cell_by hSm.grow crow0 (sne (ne_block HM.out (fun j hj e => by cases e) crow0))
      have HN : Hid (Nats w av (adj v)) := hnats
      subst hda
      have hal := HLen.out v hvn
      have HSm1 : Hid (Sm w wr mb n mark (.slice (some ⟨sb, 0, none⟩) St0.length sc) M St0) := ⟨hSm.grow, hSm.mrow, ownsRow_pop (by simp) (by simpa using hown), hSm.mlt⟩
      have HSp1 : Hid (SprI n adj comp c start v 0 M St0) := hSp.open
      have hMl := hSp.open.le
      have hStl : St0.length ≤ 65536 := by have := hSp.open.sl; omega
      have hs0 : (0 : Int) ≤ (St0.length : Int) := Int.natCast_nonneg _
      have hscI : (St0.length : Int) ≤ (sc : Int) := by omega
      have hv0 : (0 : Int) ≤ (v : Int) := Int.natCast_nonneg _
      have hvnI : (v : Int) < (n : Int) := by omega
      have hvdl : (v : Int) < (dl : Int) := by omega
      rw [e2]
      clear hSm hSp hown hnats hMr crow0
      go_wp2
      clear cv crow
      go_loopw [11, 12, 15] (fun sv cv jv wr2 => ∃ (j : Nat) (M2 St2 : List Nat), j ≤ (adj v).length ∧ jv = .int .i64 j ∧ cv = .int .i64 (M2.length : Int) ∧ 2 * (n - M2.length) + St2.length ≤ 2 * (n - M.length) + St0.length ∧ Sm w wr2 mb n mark sv M2 St2 ∧ SprI n adj comp c start v j M2 St2) (fun _ _ jv _ => (adj v).length - (intOf jv).toNat)
      case atStart => exact ⟨0, M, St0, Nat.zero_le _, rfl, rfl, Nat.le_refl _, HSm1.out, HSp1.out⟩
      case round =>
        clear HSm1 HSp1
        obtain ⟨j, M2, St2, hj, rfl, rfl, hmu, hSm, hSp⟩ := hrel
        have hMl2 := hSp.le
        have hSl2 := hSp.sl
        by_cases hjl : j < (adj v).length
        · have hdx : (adj v)[j]? = some ((adj v).getD j 0) := by simp [List.getD, hjl]
          have hdn := HLt.out v hvn ((adj v).getD j 0) (List.mem_of_getElem? hdx)
          obtain ⟨ab, ao, rfl, cdep⟩ := (HN.out.by HM.out hSm.grow).2 j hjl
          generalize (adj v).getD j 0 = d at *
          have HDX : Hid ((adj v)[j]? = some d) := hdx
          have cc : wr.cell? ⟨cb, d, none⟩ = some (.int .i64 (comp d : Int)) := (row_by HC.out hSm.grow (sne hcm)).cell hdn
          have cm := hSm.mrow.cell hdn
          have fmk := hSm.mrow.frozen d
          have hd0 : (0 : Int) ≤ (d : Int) := Int.natCast_nonneg _
          have hdnI : (d : Int) < (n : Int) := by omega
          have hj0 : (0 : Int) ≤ (j : Int) := Int.natCast_nonneg _
          have hjlI : (j : Int) < ((adj v).length : Int) := by omega
          have HSm2 : Hid (Sm w wr mb n mark u11 M2 St2) := hSm
          have HSp2 : Hid (SprI n adj comp c start v j M2 St2) := hSp
          clear hSm hSp hdx
          by_cases hcd : comp d = c
          · have hb : ((comp d : Int) == (c : Int)) = true := by rw [hcd]; simp
            have hmk := HUn.out d hdn hcd
            have HCD : Hid (comp d = c) := hcd
            clear hcd
            by_cases hdM : d ∈ M2
            · rw [hmk, decide_eq_true hdM, Bool.false_or] at cm
              have HSp3 : Hid (SprI n adj comp c start v (j + 1) M2 St2) := HSp2.out.skip HDX.out (fun _ => hdM)
              go_wp2
              go_roundw
              case rel => exact ⟨j + 1, M2, St2, by omega, by go_num, rfl, hmu, HSm2.out, HSp3.out⟩
              case measure => simp [intOf]; omega
            · rw [hmk, decide_eq_false hdM, Bool.false_or] at cm
              have hroom := HSp2.out.room hdn hdM
              have HSp3 : Hid (SprI n adj comp c start v (j + 1) (M2 ++ [d]) (St2 ++ [d])) := HSp2.out.push HDX.out HCD.out hdn hdM
              have HSm3 : Hid (Sm w (wr.setCell ⟨mb, d, none⟩ (.bool true)) mb n mark u11 (M2 ++ [d]) St2) := HSm2.out.mark d
              clear HSm2 HSp2
              go_upto_region 15 with fail
              clear cc cm fmk cdep
              generalize wr.setCell ⟨mb, d, none⟩ (.bool true) = W2 at *
              obtain ⟨oa, oc, rfl, _⟩ := nats_own HSm3.out.sown
              have own2 := HSm3.out.sown
              have hszW := HSm3.out.grow.size
              go_wp2_with (at_builtin; refine wpList_append_lies _ rfl _ _ 25 rfl w.heap.size 3 i3 (.int .i64 0) 1 8 Try.underlying25 hi3 hb0 hb1 hb2 rfl (by decide) (.slice oa St2.length oc) St2.length _ (by first | rfl | simp) (own2.alloc _) ⟨W2.heap.size, 0, none⟩ 1 1 [.int .i64 d] rfl rfl (cell_one_new _ _ _) (fun u hu => by simp at hu; subst hu; rfl) (by decide) (by unfold maxLen; omega) (by omega) (by simp; omega) (W2.heap.size + 1) (by simp) ?_; intro g3 cap3 w3 hown3 hgrow3 hat3 hlt3)
              have HSm4 : Hid (Sm w w3 mb n mark (.slice (some ⟨g3, 0, none⟩) (St2.length + 1) cap3) (M2 ++ [d]) (St2 ++ [d])) := by
                have h := HSm3.out.more ((Grow.refl W2).alloc (.cells #[.int .i64 (d : Int)] 3))
                have hob : ∀ g, (Value.slice oa St2.length oc).ownBlock = some g → w.heap.size ≤ g := fun g e => (own2.lt g e).1
                exact ⟨by_new h.grow hgrow3 hob, row_by h.mrow hgrow3 (fun e => by have := hob mb e.symm; have := h.mlt; omega), by simpa [natV] using hown3, h.mlt⟩
              clear HSm3 own2 hown3 hgrow3 hat3 hlt3
              go_roundw
              case rel => exact ⟨j + 1, M2 ++ [d], St2 ++ [d], by omega, by go_num, by simp, by simp; omega, HSm4.out, HSp3.out⟩
              case measure => simp [intOf]; omega
          · have hb : ((comp d : Int) == (c : Int)) = false := by rw [beq_eq_false_iff_ne]; omega
            have HSp3 : Hid (SprI n adj comp c start v (j + 1) M2 St2) := HSp2.out.skip HDX.out (fun h => absurd h hcd)
            go_wp2
            go_roundw
            case rel => exact ⟨j + 1, M2, St2, by omega, by go_num, rfl, hmu, HSm2.out, HSp3.out⟩
            case measure => simp [intOf]; omega
        · have hje : j = (adj v).length := by omega
          have HSm2 : Hid (Sm w wr mb n mark u11 M2 St2) := hSm
          have HSp2 : Hid (Spr n adj comp c start M2 St2) := hSp.shut (by omega)
          clear hSm hSp
          go_wp2
          go_roundg (2 * (n - M2.length) + St2.length)
          case measure => omega
          case rel => exact ⟨M2, St2, rfl, rfl, HSm2.out, HSp2.out⟩

end Go.Proofs.Qxb6601698a
