/-
  The walk of '(Links).components' (34).
-/
import Derived.Test.Qxb6601698aTf
namespace Go.Proofs.Qxb6601698a
open Go.RowKit

theorem info25 : (Try.prog.info? 25).map (fun i => (i.zero, i.size, i.bytes)) = some (some (.slice none 0 0), 1, 24) := by kernel_rfl
set_option maxRecDepth 100000 in
set_option maxHeartbeats 8000000 in
theorem components_any (v0 v3 v4 v5 : Value) (na da : Option Addr) (n nc dl dc : Nat) (adj : Nat → List Nat) (w : World) (hG : Graph n adj) (hR : Rows2 w da n adj) (hdl : n ≤ dl) :
    Calls Try.prog 34 #[.agg #[v0, .slice na n nc, .slice da dl dc, v3, v4, v5]] w fun e w' => RetComp w w' n adj e := by
  obtain ⟨i3, hi3, hb0, hb1, hb2⟩ := info_parts info3
  obtain ⟨i25, hi25, hc0, hc1, hc2⟩ := info_parts info25
  have hn := hG.n1
  have HG : Hid (Graph n adj) := hG
  have HR : Hid (Rows2 w da n adj) := hR
  clear hG hR
  have hmk := make3 n (by omega)
  have hmk0 := make3cap n (by omega)
  have hmk57 := make57 n (by omega)
  go_enter Try.func34, Try.ntmps34
  go_upto_region 4 with fail
  refine wp_region_noPanic ?_
  refine reg4 _ (by kernel_rfl) _ _ _ _ _ _ _ _ _ _ _ _ _ _ _ _ _ _ _ _ _ _ _ _ _ _ _ _ _ _ _ _ _ _ _ _ _ _ _ _ _ _ _ _ _ _ _ _ _ _ _ _ _ _ _ _ _ _ _ _ _ _ _ _ _ _ _ _ _ _ _ _ _ _ _ _ _ _ _ _ _ _ _ _ _ _ _ _ _ _ _ _ _ _ _ _ _ _ _ _ _ _ _ _ _ _ _ _ _ _ _ _ _ _ _ _ _ _ _ _ _ _ _ _ _ _ _ _ _ _ _ _ _ _ _ _ _ _ _ _ _ _ _ _ _ _ _ _ _ _ _ _ _ _ _ _ _ _ _ _ _ _ _ _ _ _ _ _ _ _ _ _ _ _ _ _ _ _ _ _ _ _ _ _ _ _ _ n (by omega) _ _ ?_
  intro v28 v30 ib lk ix lx w4 hM4
  obtain ⟨hsz4, hTm⟩ := tm_start w _ w4 n ib lk ix lx (by omega) v0 _ _ v3 v4 v5 rfl hM4
  have HTm : Hid _ := hTm
  have HF4 : Hid _ := hTm.four
  clear hM4 hTm
  go_wp2
  simp only [Nat.add_assoc, Nat.reduceAdd]
  clear hmk hmk0 hmk57
  go_loopw [2, 5, 36] (fun mv s5 iv wr => ∃ (k t : Nat) (idx : Nat → Nat) (ML : List (List Nat)), k ≤ n ∧ iv = .int .i64 k ∧ TAll w wr ib lk ix lx n (.slice da dl dc) adj idx t mv s5 [] [] ML ∧ ∀ v, v < k → idx v ≠ 0) (fun _ _ iv _ => n - (intOf iv).toNat)
  case atStart => exact ⟨0, 0, fun _ => 0, [], Nat.zero_le _, rfl, ⟨fun _ => 0, fun _ => false, fun _ => 0, _, _, rfl, HTm.out, ts_start n adj _ _ _ (fun _ => rfl)⟩, fun v hv => by omega⟩
  case round =>
    clear HTm
    obtain ⟨k, t, idx, ML, hk, rfl, hAll, hvis⟩ := hrel
    obtain ⟨low, op, comp, ovv, pvv, rfl, hTm, hTs⟩ := hAll
    by_cases hlt : k < n
    · have ci := hTm.icell
      have ei : wr.cell? ⟨ib, k, none⟩ = some (.int .i64 (idx k : Int)) := hTm.irow.cell hlt
      have htn := hTs.le
      have HVis : Hid (∀ v, v < k → idx v ≠ 0) := hvis
      have HTs : Hid (Ts n adj idx low comp op t [] [] ML) := hTs
      have HTm : Hid (Tm w wr ib lk ix lx n (.slice da dl dc) idx low op comp t ovv pvv u2 [] [] ML.flatten (offs ML 0)) := hTm
      have hk0 : (0 : Int) ≤ (k : Int) := Int.natCast_nonneg _
      have hkn : (k : Int) < (n : Int) := by omega
      clear hTm hTs hvis
      by_cases hz : idx k = 0
      · have hb : ((idx k : Int) != 0) = false := by rw [hz]; rfl
        have HZ : Hid _ := hz
        clear hz
        go_wp2_with fail
        refine (reach_any k HTm.out hlt (by omega) (by simp) (by simp) (by omega)).mono ?_
        rintro e w1 ⟨rfl, ov1, pv1, hTm1⟩
        have hTs1 := HTs.out.root HZ.out hlt
        have HAll : Hid (TAll w w1 ib lk ix lx n (.slice da dl dc) adj (fun y => if y = k then t + 1 else idx y) (t + 1) u2 (.slice (some ⟨w.heap.size + 2, 0, none⟩) (flen ML) n) [k] [(k, 0)] ML) := ⟨_, _, _, _, _, rfl, hTm1, hTs1⟩
        clear hTm1 hTs1 ci ei
        go_wp2
        go_loopg [2, 5] (tmu n (t + 1) [(k, 0)]) (fun gn mv s5 wr2 => ∃ (t2 : Nat) (idx2 : Nat → Nat) (O : List Nat) (XP : List (Nat × Nat)) (ML2 : List (List Nat)), gn = tmu n t2 XP ∧ TAll w wr2 ib lk ix lx n (.slice da dl dc) adj idx2 t2 mv s5 O XP ML2 ∧ (∀ v, idx v ≠ 0 → idx2 v ≠ 0) ∧ idx2 k ≠ 0)
        case atStart => exact ⟨t + 1, (fun y => if y = k then t + 1 else idx y), [k], [(k, 0)], ML, rfl, HAll.out, fun v hv => (by show (if v = k then t + 1 else idx v) ≠ 0; split <;> omega), (by show (if k = k then t + 1 else idx k) ≠ 0; split <;> omega)⟩
        case round =>
          clear HAll
          obtain ⟨t2, idx2, O, XP, ML2, rfl, hAll, hold, hk2⟩ := hrel
          obtain ⟨low2, op2, comp2, ovv2, pvv2, rfl, hTm, hTs⟩ := hAll
          have HOld : Hid ((∀ v, idx v ≠ 0 → idx2 v ≠ 0) ∧ idx2 k ≠ 0) := ⟨hold, hk2⟩
          have htn2 := hTs.le
          clear hold hk2
          rcases List.eq_nil_or_concat XP with hXP | ⟨XP', p, hXP⟩
          · subst hXP
            obtain ⟨pa, pl, pc, rfl⟩ : ∃ a l c, pvv2 = .slice a l c := by
              rcases hTm.pown.2 with ⟨h, _⟩ | ⟨g, cap, cur, h, _⟩
              · exact ⟨_, _, _, h⟩
              · exact ⟨_, _, _, h⟩
            have hpl : pl = 0 := by
              rcases hTm.pown.2 with ⟨h, _⟩ | ⟨g, cap, cur, h, _⟩
              · injection h
              · injection h
            subst hpl
            have hO : O = [] := by
              cases O with
              | nil => rfl
              | cons v r =>
                obtain ⟨p, hp, _⟩ := hTs.tj.head v (by simp)
                simp at hp
            subst hO
            have cq := hTm.qbox.cell (i := 0) (by omega)
            have HAll : Hid (TAll w wr ib lk ix lx n (.slice da dl dc) adj idx2 t2 u2 (.slice (some ⟨w.heap.size + 2, 0, none⟩) (flen ML2) n) [] [] ML2) := ⟨_, _, _, _, _, rfl, hTm, hTs⟩
            clear hTm hTs
            go_wp2
            go_roundw
            case rel => exact ⟨k + 1, t2, idx2, ML2, by omega, by go_num, HAll.out, fun v hv => by
              by_cases e : v = k
              · subst e; exact HOld.out.2
              · exact HOld.out.1 v (HVis.out v (by omega))⟩
            case measure => simp [intOf]; omega
          · rw [List.concat_eq_append] at hXP
            subst hXP
            obtain ⟨r, x⟩ := p
            have hrO : r ∈ O := hTs.tj.pathO (by simp)
            have hrn : r < n := hTs.tj.lt r (List.mem_append_right _ hrO)
            have hxl := hTs.tj.xle r x (by simp)
            have hal := HG.out.len r hrn
            obtain ⟨pb, pc, rfl, hpc, hpb, cr, cx, fx⟩ := hTm.topP
            have cq := hTm.qbox.cell (i := 0) (by omega)
            have cd := hTm.dcell
            obtain ⟨db, dob, rfl, av, ac, crow, hnats⟩ := (HR.out.grow hTm.grow) r hrn
            have hXPl : XP'.length ≤ 65536 := by
              have h1 := (hTs.tj.path).length_le
              have h2 := hTs.cnt
              simp at h1
              omega
            have HTm : Hid (Tm w wr ib lk ix lx n (.slice (some ⟨db, dob, none⟩) dl dc) idx2 low2 op2 comp2 t2 ovv2 (.slice (some ⟨pb, 0, none⟩) (XP'.length + 1) pc) u2 O (XP' ++ [(r, x)]) ML2.flatten (offs ML2 0)) := hTm
            have HTs : Hid (Ts n adj idx2 low2 comp2 op2 t2 O (XP' ++ [(r, x)]) ML2) := hTs
            have HNats : Hid (Nats wr av (adj r)) := hnats
            have hdbl : db < w.heap.size := by
              obtain ⟨b', o', h', _, _, hc', _⟩ := HR.out r hrn
              cases h'
              exact World.block_lt_of_cell? _ _ hc'
            clear hTm hTs hnats
            have hr0 : (0 : Int) ≤ (r : Int) := Int.natCast_nonneg _
            have hrnI : (r : Int) < (n : Int) := by omega
            have hrdl : (r : Int) < (dl : Int) := by omega
            have hx0 : (0 : Int) ≤ (x : Int) := Int.natCast_nonneg _
            by_cases hxe : x < (adj r).length
            · obtain ⟨ab, ao, rfl, cdep⟩ := HNats.out.2 x hxe
              have hdx : (adj r)[x]? = some ((adj r).getD x 0) := by simp [List.getD, hxe]
              have hdn := HG.out.lt r hrn ((adj r).getD x 0) (List.mem_of_getElem? hdx)
              generalize (adj r).getD x 0 = d at *
              have HDX : Hid ((adj r)[x]? = some d) := hdx
              clear hdx
              have hTmN := HTm.out.setNext
              have eN : natV (x + 1) = .int .i64 ((x : Int) + 1) := rfl
              rw [eN] at hTmN
              have HTmN : Hid (Tm w (wr.setCell ⟨pb, XP'.length * 2 + 1, none⟩ (.int .i64 ((x : Int) + 1))) ib lk ix lx n (.slice (some ⟨db, dob, none⟩) dl dc) idx2 low2 op2 comp2 t2 ovv2 (.slice (some ⟨pb, 0, none⟩) (XP'.length + 1) pc) u2 O (XP' ++ [(r, x + 1)]) ML2.flatten (offs ML2 0)) := hTmN
              have ciN := hTmN.icell
              have eiN : (wr.setCell ⟨pb, XP'.length * 2 + 1, none⟩ (.int .i64 ((x : Int) + 1))).cell? ⟨ib, d, none⟩ = some (.int .i64 (idx2 d : Int)) := hTmN.irow.cell hdn
              have cpN := hTmN.pcell
              have epN := hTmN.prow.cell hdn
              have hopd := HTs.out.op d hdn
              have hd0 : (0 : Int) ≤ (d : Int) := Int.natCast_nonneg _
              have hdnI : (d : Int) < (n : Int) := by omega
              have hxlI : (x : Int) < ((adj r).length : Int) := by omega
              have hp0 : (0 : Int) ≤ (XP'.length : Int) := Int.natCast_nonneg _
              clear hTmN eN
              generalize hWN : wr.setCell ⟨pb, XP'.length * 2 + 1, none⟩ (.int .i64 ((x : Int) + 1)) = WN at *
              by_cases hz2 : idx2 d = 0
              · have hbz : ((idx2 d : Int) == 0) = true := by rw [hz2]; rfl
                have HZ2 : Hid _ := hz2
                clear hz2
                go_wp2_with fail
                refine (reach_any d HTmN.out hdn (by omega) (by have := HTs.out.cnt; omega) (by simp; omega) (by omega)).mono ?_
                rintro e w1 ⟨rfl, ov1, pv1, hTm1⟩
                have hTs1 := HTs.out.toNew hxe HDX.out HZ2.out hdn
                have HAll : Hid (TAll w w1 ib lk ix lx n (.slice (some ⟨db, dob, none⟩) dl dc) adj (fun y => if y = d then t2 + 1 else idx2 y) (t2 + 1) u2 (.slice (some ⟨w.heap.size + 2, 0, none⟩) (flen ML2) n) (O ++ [d]) (XP' ++ [(r, x + 1)] ++ [(d, 0)]) ML2) := ⟨_, _, _, _, _, rfl, hTm1, hTs1⟩
                have htn3 := hTs1.le
                clear hTm1 hTs1 ciN eiN cpN epN cr cx fx cq cd crow cdep
                go_wp2
                go_roundg (tmu n (t2 + 1) (XP' ++ [(r, x + 1)] ++ [(d, 0)]))
                case measure => exact tmu_new (by omega) (by omega)
                case rel => exact ⟨t2 + 1, (fun y => if y = d then t2 + 1 else idx2 y), _, _, ML2, rfl, HAll.out, fun v hv => (by show (if v = d then t2 + 1 else idx2 v) ≠ 0; have := HOld.out.1 v hv; split <;> omega), (by show (if k = d then t2 + 1 else idx2 k) ≠ 0; have := HOld.out.2; split <;> omega)⟩
              · have hbz : ((idx2 d : Int) == 0) = false := by rw [beq_eq_false_iff_ne]; omega
                have HZ2 : Hid _ := hz2
                clear hz2
                by_cases hdO : d ∈ O
                · rw [decide_eq_true hdO] at hopd
                  rw [hopd] at epN
                  have clN := HTmN.out.lcell
                  have elN : WN.cell? ⟨lk, r, none⟩ = some (.int .i64 (low2 r : Int)) := HTmN.out.lrow.cell hrn
                  have flN := HTmN.out.lrow.frozen r
                  have hTsO := HTs.out.toOpen hxe HDX.out hdO
                  have hTmO := (HTmN.out.setLow r (min (low2 r) (idx2 d))).more (Grow.refl _).drew
                  have HAll : Hid (TAll w (WN.setCell ⟨lk, r, none⟩ (.int .i64 ((min (low2 r) (idx2 d) : Nat) : Int))).drew ib lk ix lx n (.slice (some ⟨db, dob, none⟩) dl dc) adj idx2 t2 u2 (.slice (some ⟨w.heap.size + 2, 0, none⟩) (flen ML2) n) O (XP' ++ [(r, x + 1)]) ML2) := ⟨_, _, _, _, _, rfl, hTmO, hTsO⟩
                  clear hTsO hTmO
                  go_upto_region 25 with fail
                  refine wp_region_noPanic ?_
                  refine reg25 _ (by kernel_rfl) _ _ _ _ _ _ _ _ _ _ _ _ _ _ _ _ _ _ _ _ _ _ _ _ _ _ _ _ _ _ _ _ _ _ _ _ _ _ _ _ _ _ _ _ _ _ _ _ _ _ _ _ _ _ _ _ _ _ _ _ _ _ _ _ _ _ _ _ _ _ _ _ _ _ _ _ _ _ _ _ _ _ _ _ _ _ _ _ _ _ _ _ _ _ _ _ _ _ _ _ _ _ _ _ _ _ _ _ _ _ _ _ _ _ _ _ _ _ _ _ _ _ _ _ _ _ _ _ _ _ _ _ _ _ _ _ _ _ _ _ _ _ _ _ _ _ _ _ _ _ _ _ _ _ _ _ _ _ _ _ _ _ _ _ _ _ _ _ _ _ _ _ _ _ _ _ _ _ _ _ _ _ _ _ ib lk ix lx n r d (low2 r) (idx2 d) WN _ (fun _ _ _ _ _ h => h) clN ciN elN flN eiN hr0 hrnI hd0 hdnI ?_
                  intro v99 v100 v101 v102 v103 v104 v105 v106 v107 v108 v109 v110
                  refine NoPanic.normal ?_
                  clear ciN eiN cpN epN clN elN flN cr cx fx cq cd crow cdep
                  go_wp2
                  go_roundg (tmu n t2 (XP' ++ [(r, x + 1)]))
                  case measure => exact tmu_next (by omega)
                  case rel => exact ⟨t2, idx2, _, _, ML2, rfl, HAll.out, HOld.out.1, HOld.out.2⟩
                · rw [decide_eq_false hdO] at hopd
                  rw [hopd] at epN
                  have hTsO := HTs.out.toClosed hxe HDX.out hdO HZ2.out hdn
                  have HAll : Hid (TAll w WN ib lk ix lx n (.slice (some ⟨db, dob, none⟩) dl dc) adj idx2 t2 u2 (.slice (some ⟨w.heap.size + 2, 0, none⟩) (flen ML2) n) O (XP' ++ [(r, x + 1)]) ML2) := ⟨_, _, _, _, _, rfl, HTmN.out, hTsO⟩
                  clear hTsO
                  go_wp2
                  go_roundg (tmu n t2 (XP' ++ [(r, x + 1)]))
                  case measure => exact tmu_next (by omega)
                  case rel => exact ⟨t2, idx2, _, _, ML2, rfl, HAll.out, HOld.out.1, HOld.out.2⟩
            · have hxe2 : x = (adj r).length := by omega
              subst hxe2
              obtain ⟨ma, ml, mc, rfl⟩ : ∃ a l c, u2 = .slice a l c := by
                rcases HTm.out.mown.2 with ⟨h, _⟩ | ⟨g, cap, cur, h, _⟩
                · exact ⟨_, _, _, h⟩
                · exact ⟨_, _, _, h⟩
              have hml : ml = ML2.length := by
                rcases HTm.out.mown.2 with ⟨h, h0⟩ | ⟨g, cap, cur, h, _⟩
                · injection h with _ h2 _
                  rw [offs_length] at h0
                  omega
                · injection h with _ h2 _
                  rw [offs_length] at h2
                  exact h2
              subst hml
              have HTmP : Hid (Tm w (wr.setCell ⟨w.heap.size + 10, 0, none⟩ (.slice (some ⟨pb, 0, none⟩) XP'.length pc)) ib lk ix lx n (.slice (some ⟨db, dob, none⟩) dl dc) idx2 low2 op2 comp2 t2 ovv2 (.slice (some ⟨pb, 0, none⟩) XP'.length pc) (.slice ma ML2.length mc) O XP' ML2.flatten (offs ML2 0)) := HTm.out.popP
              have fq := HTm.out.qbox.frozen 0
              have hpcI : (XP'.length : Int) ≤ (pc : Int) := by omega
              have hp0 : (0 : Int) ≤ (XP'.length : Int) := Int.natCast_nonneg _
              go_upto_region 27 with fail
              clear cr cx fx cq cd crow fq hpc hpcI
              generalize hWP : wr.setCell ⟨w.heap.size + 10, 0, none⟩ (.slice (some ⟨pb, 0, none⟩) XP'.length pc) = WP at *
              have clP := HTmP.out.lcell
              have ciP := HTmP.out.icell
              have elP : WP.cell? ⟨lk, r, none⟩ = some (.int .i64 (low2 r : Int)) := HTmP.out.lrow.cell hrn
              have eiP : WP.cell? ⟨ib, r, none⟩ = some (.int .i64 (idx2 r : Int)) := HTmP.out.irow.cell hrn
              have cqP : WP.cell? ⟨w.heap.size + 10, 0, none⟩ = some (.slice (some ⟨pb, 0, none⟩) XP'.length pc) := HTmP.out.qbox.cell (i := 0) (by omega)
              rcases List.eq_nil_or_concat XP' with hXP | ⟨XPa, pu, hXP⟩
              · have hlen : XP'.length = 0 := by rw [hXP]; rfl
                have HB : Hid (low2 r = idx2 r) := by
                  have h := HTs.out
                  rw [hXP] at h
                  exact h.tj.bottom
                have hlB := HB.out
                rw [hlB] at elP
                rw [hlen] at cqP
                clear hXP hlen hp0 hlB
                have hneq : (((idx2 r : Nat) : Int) != ((idx2 r : Nat) : Int)) = false := by simp
                go_wp2_with fail
                go_quiet (fail)
                clear clP ciP elP eiP cqP hneq
                obtain ⟨A, B, hO⟩ := List.append_of_mem hrO
                have HO : Hid (O = A ++ r :: B) := hO
                have HSh : Hid (TShut w (WP.drewN nq) ib lk ix lx n (.slice (some ⟨db, dob, none⟩) dl dc) idx2 low2 comp2 op2 t2 (.slice (some ⟨pb, 0, none⟩) XP'.length pc) (.slice ma ML2.length mc) (.slice (some ⟨w.heap.size + 2, 0, none⟩) (flen ML2) n) A (r :: B) [] XP' ML2) := tshut_start (by rw [← hO]; exact HTmP.out.more ((Grow.refl _).drewN nq))
                have hOl : O.length = A.length + (r :: B).length := by rw [hO]; simp
                have hcnt : t2 = flen ML2 + O.length := HTs.out.cnt
                clear HTmP HTm hO
                generalize WP.drewN nq = WS at *
                go_wp2
                go_loopg [5] (r :: B).length (fun gn s5 wr3 => ∃ (P S : List Nat), gn = P.length ∧ P ≠ [] ∧ r :: B = P ++ S.reverse ∧ TShut w wr3 ib lk ix lx n (.slice (some ⟨db, dob, none⟩) dl dc) idx2 low2 comp2 op2 t2 (.slice (some ⟨pb, 0, none⟩) XP'.length pc) (.slice ma ML2.length mc) s5 A P S XP' ML2)
                case atStart => exact ⟨r :: B, [], rfl, by simp, by simp, HSh.out⟩
                case round =>
                  clear HSh
                  obtain ⟨P, S, rfl, hP, hPS, hSh⟩ := hrel
                  rcases List.eq_nil_or_concat P with h | ⟨P1, m, h⟩
                  · exact absurd h hP
                  · rw [List.concat_eq_append] at h
                    subst h
                    obtain ⟨ovv3, rfl, hTm⟩ := hSh
                    rw [← List.append_assoc] at hTm
                    have hnd : (r :: B).Nodup := by
                      have h := HTs.out.tj.nd
                      rw [HO.out, List.nodup_append] at h
                      have h2 := h.2.1
                      rw [List.nodup_append] at h2
                      exact h2.2.1
                    have hlast := shut_last hnd hPS
                    have hmO : m ∈ O := by rw [HO.out, hPS]; simp
                    have hmn : m < n := HTs.out.tj.lt m (List.mem_append_right _ hmO)
                    have hAPl : (A ++ P1).length + S.length + 1 = O.length := by
                      have h := congrArg List.length hPS
                      rw [hOl, h]
                      simp
                      omega
                    have HPS : Hid (r :: B = (P1 ++ [m]) ++ S.reverse) := hPS
                    clear hP hnd hPS
                    generalize hAP : A ++ P1 = AP at *
                    have HAP : Hid (A ++ P1 = AP) := hAP
                    clear hAP
                    obtain ⟨ob, oc, rfl, hoc, hob, cm⟩ := hTm.topO
                    have co := hTm.obox.cell (i := 0) (by omega)
                    have fo := hTm.obox.frozen 0
                    have HTm1 : Hid (Tm w (wr.setCell ⟨w.heap.size + 9, 0, none⟩ (.slice (some ⟨ob, 0, none⟩) AP.length oc)) ib lk ix lx n (.slice (some ⟨db, dob, none⟩) dl dc) idx2 low2 (fun y => if y ∈ S then false else op2 y) (fun y => if y ∈ S then ML2.length else comp2 y) t2 (.slice (some ⟨ob, 0, none⟩) AP.length oc) (.slice (some ⟨pb, 0, none⟩) XP'.length pc) (.slice ma ML2.length mc) AP XP' (ML2.flatten ++ S) (offs ML2 0)) := hTm.popO
                    clear hTm
                    have hAP0 : (0 : Int) ≤ (AP.length : Int) := Int.natCast_nonneg _
                    have hocI : (AP.length : Int) ≤ (oc : Int) := by omega
                    have hAPs : AP.length ≤ 65536 := by omega
                    have hm0 : (0 : Int) ≤ (m : Int) := Int.natCast_nonneg _
                    have hmnI : (m : Int) < (n : Int) := by omega
                    go_upto_region 34 with fail
                    clear co fo cm
                    generalize hW1 : wr.setCell ⟨w.heap.size + 9, 0, none⟩ (.slice (some ⟨ob, 0, none⟩) AP.length oc) = W1 at *
                    have cp := HTm1.out.pcell
                    have ep := HTm1.out.prow.cell hmn
                    have fp := HTm1.out.prow.frozen m
                    have ec := HTm1.out.crow.cell hmn
                    have fc := HTm1.out.crow.frozen m
                    have HTm2 : Hid (Tm w ((W1.setCell ⟨w.heap.size + 7, m, none⟩ (.bool false)).setCell ⟨w.heap.size + 1, m, none⟩ (.int .i64 (ML2.length : Int))) ib lk ix lx n (.slice (some ⟨db, dob, none⟩) dl dc) idx2 low2 (fun y => if y ∈ S ++ [m] then false else op2 y) (fun y => if y ∈ S ++ [m] then ML2.length else comp2 y) t2 (.slice (some ⟨ob, 0, none⟩) AP.length oc) (.slice (some ⟨pb, 0, none⟩) XP'.length pc) (.slice ma ML2.length mc) AP XP' (ML2.flatten ++ S) (offs ML2 0)) := by
                      have h := (HTm1.out.setOpen m false).setComp m ML2.length
                      rw [shut_fun, shut_fun] at h
                      exact h
                    have n1 : ¬ w.heap.size + 1 = w.heap.size + 7 := by omega
                    have n2 : ¬ w.heap.size + 7 = w.heap.size + 1 := by omega
                    clear HTm1
                    go_upto_region 35 with fail
                    clear cp ep fp ec fc hW1
                    generalize hW2 : (W1.setCell ⟨w.heap.size + 7, m, none⟩ (.bool false)).setCell ⟨w.heap.size + 1, m, none⟩ (.int .i64 (ML2.length : Int)) = W2 at *
                    have hord := HTm2.out.oord
                    have elen : (ML2.flatten ++ S).length = flen ML2 + S.length := by simp [flen]
                    rw [elen] at hord
                    have hfit : flen ML2 + S.length + 1 ≤ n := by omega
                    generalize hol : flen ML2 + S.length = ol at *
                    go_upto_region 36 with (at_builtin; refine wpList_append_fits _ rfl _ _ 25 rfl 0 3 i3 1 Try.underlying25 hi3 hb1 (w.heap.size + 2) ol n _ (by rfl) (hord.alloc _) ⟨W2.heap.size, 0, none⟩ 1 1 [.int .i64 m] rfl rfl (cell_one_new _ _ _) (fun u hu => by simp at hu; subst hu; rfl) (by omega) ?_; intro w3 hown3 hgrow3)
                    have HTm3 : Hid (Tm w w3 ib lk ix lx n (.slice (some ⟨db, dob, none⟩) dl dc) idx2 low2 (fun y => if y ∈ S ++ [m] then false else op2 y) (fun y => if y ∈ S ++ [m] then ML2.length else comp2 y) t2 (.slice (some ⟨ob, 0, none⟩) AP.length oc) (.slice (some ⟨pb, 0, none⟩) XP'.length pc) (.slice ma ML2.length mc) AP XP' (ML2.flatten ++ (S ++ [m])) (offs ML2 0)) := by
                      have h := (HTm2.out.more ((Grow.refl W2).alloc (.cells #[.int .i64 (m : Int)] 3))).setOrd (m := m) (wr' := w3) hgrow3 (by rw [elen]; simpa [natV] using hown3)
                      rw [List.append_assoc] at h
                      exact h
                    clear HTm2 hord hown3 hgrow3 hW2 elen
                    by_cases hmr : m = r
                    · have hP1 := hlast.1 hmr
                      have hbm : ((m : Int) == (r : Int)) = true := by rw [hmr]; simp
                      have HPerm : Hid ((S ++ [m]).Perm (r :: B)) := by
                        show (S ++ [m]).Perm (r :: B)
                        rw [HPS.out, hP1, show ([] ++ [m]) ++ S.reverse = (S ++ [m]).reverse by simp]
                        exact (List.reverse_perm _).symm
                      have hAP : AP = A := by rw [← HAP.out, hP1]; simp
                      subst hAP
                      have hSl : (S ++ [m]).length = S.length + 1 := by simp
                      have HTmE : Hid (Tm w w3 ib lk ix lx n (.slice (some ⟨db, dob, none⟩) dl dc) idx2 low2 (fun y => if y ∈ S ++ [m] then false else op2 y) (fun y => if y ∈ S ++ [m] then ML2.length else comp2 y) t2 (.slice (some ⟨ob, 0, none⟩) AP.length oc) (.slice (some ⟨pb, 0, none⟩) XP'.length pc) (.slice ma ML2.length mc) AP XP' (ML2.flatten ++ (S ++ [m])) (offs ML2 0)) := HTm3.out
                      have HPR : Hid (m = r) := hmr
                      have hfl : flen ML2 ≤ ol := by omega
                      have hfl0 : (0 : Int) ≤ (flen ML2 : Int) := Int.natCast_nonneg _
                      have hflI : (flen ML2 : Int) ≤ (ol : Int) + 1 := by omega
                      have holI : (ol : Int) + 1 ≤ (n : Int) := by omega
                      have Hol : Hid (flen ML2 + S.length = ol) := hol
                      have hown := HTmE.out.mown
                      rw [offs_length] at hown
                      have hmlen := HTs.out.mlen
                      have hszE := HTmE.out.sized
                      have hpart : ol + 1 - flen ML2 = S.length + 1 := by omega
                      have HPart : Hid (ol + 1 - flen ML2 = S.length + 1) := hpart
                      clear HTm3 hlast hP1 hmr hol HAP HPS hpart
                      go_wp2_with (at_builtin; refine wpList_append_lies _ rfl _ _ 24 rfl (w.heap.size + 12) 25 i25 (.slice none 0 0) 1 24 Try.underlying24 hi25 hc0 hc1 hc2 rfl (by decide) (.slice ma ML2.length mc) ML2.length _ (by first | rfl | simp) (hown.alloc _) ⟨w3.heap.size, 0, none⟩ 1 1 [.slice (some ⟨w.heap.size + 2, flen ML2, none⟩) (ol + 1 - flen ML2) (ol + 1 - flen ML2)] rfl rfl (cell_one_new _ _ _) (fun u hu => by simp at hu; subst hu; rfl) (by decide) (by unfold maxLen; omega) (by omega) (by simp; omega) (w3.heap.size + 1) (by simp) ?_; intro g5 cap5 w5 hown5 hgrow5 hat5 hlt5)
                      have hTm5 := (HTmE.out.more ((Grow.refl w3).alloc (.cells #[.slice (some ⟨w.heap.size + 2, flen ML2, none⟩) (ol + 1 - flen ML2) (ol + 1 - flen ML2)] 25))).setM (p := (flen ML2, S.length + 1)) (wr' := w5) (mv' := .slice (some ⟨g5, 0, none⟩) (ML2.length + 1) cap5) hgrow5 (by rw [offs_length]; rw [HPart.out] at hown5; exact hown5) (fun g hg => by
                        have e : g5 = g := by simpa [Value.ownBlock] using hg
                        subst e
                        rcases hat5 with h | h
                        · exact .inl h
                        · exact .inr (by simp; omega))
                      have HAll : Hid (TAll w w5 ib lk ix lx n (.slice (some ⟨db, dob, none⟩) dl dc) adj idx2 t2 (.slice (some ⟨g5, 0, none⟩) (ML2.length + 1) cap5) (.slice (some ⟨w.heap.size + 2, 0, none⟩) (ol + 1) n) AP XP' (ML2 ++ [S ++ [m]])) := by
                        have hTs := HTs.out
                        rw [HO.out] at hTs
                        refine ⟨low2, (fun y => if y ∈ S ++ [m] then false else op2 y), (fun y => if y ∈ S ++ [m] then ML2.length else comp2 y), .slice (some ⟨ob, 0, none⟩) AP.length oc, .slice (some ⟨pb, 0, none⟩) XP'.length pc, ?_, ?_, hTs.shut HB.out HPerm.out (fun y => if y ∈ S ++ [m] then false else op2 y) (fun v hv => ?_)⟩
                        · rw [← Hol.out]; simp [flen]; omega
                        · have e1 : (ML2 ++ [S ++ [m]]).flatten = ML2.flatten ++ (S ++ [m]) := by simp
                          have e2 : offs (ML2 ++ [S ++ [m]]) 0 = offs ML2 0 ++ [(flen ML2, S.length + 1)] := by rw [offs_snoc]; simp [flen]
                          rw [e1, e2]
                          exact hTm5
                        · have hnd := hTs.tj.nd
                          rw [List.nodup_append] at hnd
                          have h2 := hnd.2.1
                          rw [List.nodup_append] at h2
                          have hop := hTs.op v hv
                          by_cases e : v ∈ S ++ [m]
                          · rw [if_pos e]
                            have h3 : v ∈ r :: B := HPerm.out.mem_iff.1 e
                            have h4 : v ∉ AP := fun h => h2.2.2 v h v h3 rfl
                            rw [decide_eq_false h4]
                          · rw [if_neg e, hop]
                            have h3 : v ∉ r :: B := fun h => e (HPerm.out.mem_iff.2 h)
                            rw [decide_eq_decide, List.mem_append]
                            exact ⟨fun h => h.resolve_right h3, .inl⟩
                      clear hTm5 hown5 hgrow5 hat5 hlt5 HTmE hown
                      go_wp2
                      go_roundg (tmu n t2 XP')
                      case measure => exact tmu_pop (by omega)
                      case rel => exact ⟨t2, idx2, _, _, _, rfl, HAll.out, HOld.out.1, HOld.out.2⟩
                    · have hP1 := hlast.2 hmr
                      have hbm : ((m : Int) == (r : Int)) = false := by rw [beq_eq_false_iff_ne]; omega
                      have HP1 : Hid (P1 ≠ []) := hP1
                      have HSh3 : Hid (TShut w w3 ib lk ix lx n (.slice (some ⟨db, dob, none⟩) dl dc) idx2 low2 comp2 op2 t2 (.slice (some ⟨pb, 0, none⟩) XP'.length pc) (.slice ma ML2.length mc) (.slice (some ⟨w.heap.size + 2, 0, none⟩) (ol + 1) n) A P1 (S ++ [m]) XP' ML2) := ⟨_, (by rw [← hol]; simp [Nat.add_assoc]), (by rw [HAP.out]; exact HTm3.out)⟩
                      have Hol : Hid _ := hol
                      clear HTm3 hlast hP1 hmr hol
                      go_wp2
                      go_roundg P1.length
                      case measure => simp
                      case rel => exact ⟨P1, S ++ [m], rfl, HP1.out, (by rw [HPS.out]; simp), HSh3.out⟩
              · rw [List.concat_eq_append] at hXP
                obtain ⟨u, y⟩ := pu
                have hlen : XP'.length = XPa.length + 1 := by rw [hXP]; simp
                have huO : u ∈ O := HTs.out.tj.pathO (by rw [hXP]; simp)
                have hun : u < n := HTs.out.tj.lt u (List.mem_append_right _ huO)
                have hur : idx2 u < idx2 r := by
                  have h := HTs.out.tj.sortedP
                  rw [fst_snoc, hXP, fst_snoc, List.pairwise_append] at h
                  exact h.2.2 u (by simp) r (by simp)
                have hune : u ≠ r := fun e => by rw [e] at hur; omega
                have hule := HTs.out.tj.lowle u huO
                have eluP : WP.cell? ⟨lk, u, none⟩ = some (.int .i64 (low2 u : Int)) := HTmP.out.lrow.cell hun
                have fluP := HTmP.out.lrow.frozen u
                have cuP : WP.cell? ⟨pb, XPa.length * 2, none⟩ = some (.int .i64 (u : Int)) := by
                  have h := HTmP.out
                  rw [hXP] at h
                  obtain ⟨pb2, pc2, hpe, _, _, cuP, _, _⟩ := h.topP
                  have epb : pb2 = pb := by
                    injection hpe with h1 _ _
                    simpa using h1.symm
                  rw [epb] at cuP
                  exact cuP
                have hu0 : (0 : Int) ≤ (u : Int) := Int.natCast_nonneg _
                have hunI : (u : Int) < (n : Int) := by omega
                have hTsB : low2 r ≠ idx2 r → Ts n adj idx2 (fun z => if z = u then min (low2 u) (low2 r) else low2 z) comp2 op2 t2 O XP' ML2 := fun hl => by
                  have h := HTs.out
                  rw [hXP] at h
                  have := h.back hl
                  rw [← hXP] at this
                  exact this
                have HTsB : Hid (low2 r ≠ idx2 r → Ts n adj idx2 (fun z => if z = u then min (low2 u) (low2 r) else low2 z) comp2 op2 t2 O XP' ML2) := hTsB
                have HTmB : Hid (Tm w (WP.setCell ⟨lk, u, none⟩ (.int .i64 ((min (low2 u) (low2 r) : Nat) : Int))).drew ib lk ix lx n (.slice (some ⟨db, dob, none⟩) dl dc) idx2 (fun z => if z = u then min (low2 u) (low2 r) else low2 z) op2 comp2 t2 ovv2 (.slice (some ⟨pb, 0, none⟩) XP'.length pc) (.slice ma ML2.length mc) O XP' ML2.flatten (offs ML2 0)) := (HTmP.out.setLow u (min (low2 u) (low2 r))).more (Grow.refl _).drew
                rw [hlen] at cqP
                have hXPal : XPa.length ≤ 65536 := by omega
                have hpa0 : (0 : Int) ≤ (XPa.length : Int) := Int.natCast_nonneg _
                clear hXP hTsB hlen hp0
                go_upto_region 29 with fail
                refine wp_region_noPanic ?_
                refine reg29 _ (by kernel_rfl) _ _ _ _ _ _ _ _ _ _ _ _ _ _ _ _ _ _ _ _ _ _ _ _ _ _ _ _ _ _ _ _ _ _ _ _ _ _ _ _ _ _ _ _ _ _ _ _ _ _ _ _ _ _ _ _ _ _ _ _ _ _ _ _ _ _ _ _ _ _ _ _ _ _ _ _ _ _ _ _ _ _ _ _ _ _ _ _ _ _ _ _ _ _ _ _ _ _ _ _ _ _ _ _ _ _ _ _ _ _ _ _ _ _ _ _ _ _ _ _ _ _ _ _ _ _ _ _ _ _ _ _ _ _ _ _ _ _ _ _ _ _ _ _ _ _ _ _ _ _ _ _ _ _ _ _ _ _ _ _ _ _ _ _ _ _ _ _ _ _ _ _ _ _ _ _ _ _ _ _ _ _ _ _ _ lk lx n r u (low2 u) (low2 r) WP _ (fun _ _ _ _ _ h => h) clP eluP fluP elP hr0 hrnI hu0 hunI ?_
                intro v126 v127 v128 v129 v130 v131 v132 v133 v134 v135 v136 v137
                refine NoPanic.normal ?_
                clear clP ciP elP eiP cqP eluP fluP cuP
                generalize hWB : (WP.setCell ⟨lk, u, none⟩ (.int .i64 ((min (low2 u) (low2 r) : Nat) : Int))).drew = WB at *
                have clB := HTmB.out.lcell
                have ciB := HTmB.out.icell
                have elB : WB.cell? ⟨lk, r, none⟩ = some (.int .i64 (low2 r : Int)) := by
                  have h := HTmB.out.lrow.cell hrn
                  rw [if_neg (fun e => hune e.symm)] at h
                  exact h
                have eiB : WB.cell? ⟨ib, r, none⟩ = some (.int .i64 (idx2 r : Int)) := HTmB.out.irow.cell hrn
                by_cases hlr : low2 r = idx2 r
                · rw [hlr] at elB
                  have hneq : (((idx2 r : Nat) : Int) != ((idx2 r : Nat) : Int)) = false := by simp
                  have eL : (fun z => if z = u then min (low2 u) (low2 r) else low2 z) = low2 := by
                    funext z
                    by_cases e : z = u
                    · rw [if_pos e, e]; omega
                    · rw [if_neg e]
                  have HB : Hid (low2 r = idx2 r) := hlr
                  have HTmP2 : Hid (Tm w WB ib lk ix lx n (.slice (some ⟨db, dob, none⟩) dl dc) idx2 low2 op2 comp2 t2 ovv2 (.slice (some ⟨pb, 0, none⟩) XP'.length pc) (.slice ma ML2.length mc) O XP' ML2.flatten (offs ML2 0)) := eL ▸ HTmB.out
                  clear HTmB HTsB hlr eL hWB
                  go_wp2_with fail
                  go_quiet (fail)
                  clear clB ciB elB eiB hneq HTmP
                  obtain ⟨A, B, hO⟩ := List.append_of_mem hrO
                  have HO : Hid (O = A ++ r :: B) := hO
                  have HSh : Hid (TShut w (WB.drewN nq) ib lk ix lx n (.slice (some ⟨db, dob, none⟩) dl dc) idx2 low2 comp2 op2 t2 (.slice (some ⟨pb, 0, none⟩) XP'.length pc) (.slice ma ML2.length mc) (.slice (some ⟨w.heap.size + 2, 0, none⟩) (flen ML2) n) A (r :: B) [] XP' ML2) := tshut_start (by rw [← hO]; exact HTmP2.out.more ((Grow.refl _).drewN nq))
                  have hOl : O.length = A.length + (r :: B).length := by rw [hO]; simp
                  have hcnt : t2 = flen ML2 + O.length := HTs.out.cnt
                  clear HTmP2 HTm hO
                  generalize WB.drewN nq = WS at *
                  go_wp2
                  go_loopg [5] (r :: B).length (fun gn s5 wr3 => ∃ (P S : List Nat), gn = P.length ∧ P ≠ [] ∧ r :: B = P ++ S.reverse ∧ TShut w wr3 ib lk ix lx n (.slice (some ⟨db, dob, none⟩) dl dc) idx2 low2 comp2 op2 t2 (.slice (some ⟨pb, 0, none⟩) XP'.length pc) (.slice ma ML2.length mc) s5 A P S XP' ML2)
                  case atStart => exact ⟨r :: B, [], rfl, by simp, by simp, HSh.out⟩
                  case round =>
                    clear HSh
                    obtain ⟨P, S, rfl, hP, hPS, hSh⟩ := hrel
                    rcases List.eq_nil_or_concat P with h | ⟨P1, m, h⟩
                    · exact absurd h hP
                    · rw [List.concat_eq_append] at h
                      subst h
                      obtain ⟨ovv3, rfl, hTm⟩ := hSh
                      rw [← List.append_assoc] at hTm
                      have hnd : (r :: B).Nodup := by
                        have h := HTs.out.tj.nd
                        rw [HO.out, List.nodup_append] at h
                        have h2 := h.2.1
                        rw [List.nodup_append] at h2
                        exact h2.2.1
                      have hlast := shut_last hnd hPS
                      have hmO : m ∈ O := by rw [HO.out, hPS]; simp
                      have hmn : m < n := HTs.out.tj.lt m (List.mem_append_right _ hmO)
                      have hAPl : (A ++ P1).length + S.length + 1 = O.length := by
                        have h := congrArg List.length hPS
                        rw [hOl, h]
                        simp
                        omega
                      have HPS : Hid (r :: B = (P1 ++ [m]) ++ S.reverse) := hPS
                      clear hP hnd hPS
                      generalize hAP : A ++ P1 = AP at *
                      have HAP : Hid (A ++ P1 = AP) := hAP
                      clear hAP
                      obtain ⟨ob, oc, rfl, hoc, hob, cm⟩ := hTm.topO
                      have co := hTm.obox.cell (i := 0) (by omega)
                      have fo := hTm.obox.frozen 0
                      have HTm1 : Hid (Tm w (wr.setCell ⟨w.heap.size + 9, 0, none⟩ (.slice (some ⟨ob, 0, none⟩) AP.length oc)) ib lk ix lx n (.slice (some ⟨db, dob, none⟩) dl dc) idx2 low2 (fun y => if y ∈ S then false else op2 y) (fun y => if y ∈ S then ML2.length else comp2 y) t2 (.slice (some ⟨ob, 0, none⟩) AP.length oc) (.slice (some ⟨pb, 0, none⟩) XP'.length pc) (.slice ma ML2.length mc) AP XP' (ML2.flatten ++ S) (offs ML2 0)) := hTm.popO
                      clear hTm
                      have hAP0 : (0 : Int) ≤ (AP.length : Int) := Int.natCast_nonneg _
                      have hocI : (AP.length : Int) ≤ (oc : Int) := by omega
                      have hAPs : AP.length ≤ 65536 := by omega
                      have hm0 : (0 : Int) ≤ (m : Int) := Int.natCast_nonneg _
                      have hmnI : (m : Int) < (n : Int) := by omega
                      go_upto_region 34 with fail
                      clear co fo cm
                      generalize hW1 : wr.setCell ⟨w.heap.size + 9, 0, none⟩ (.slice (some ⟨ob, 0, none⟩) AP.length oc) = W1 at *
                      have cp := HTm1.out.pcell
                      have ep := HTm1.out.prow.cell hmn
                      have fp := HTm1.out.prow.frozen m
                      have ec := HTm1.out.crow.cell hmn
                      have fc := HTm1.out.crow.frozen m
                      have HTm2 : Hid (Tm w ((W1.setCell ⟨w.heap.size + 7, m, none⟩ (.bool false)).setCell ⟨w.heap.size + 1, m, none⟩ (.int .i64 (ML2.length : Int))) ib lk ix lx n (.slice (some ⟨db, dob, none⟩) dl dc) idx2 low2 (fun y => if y ∈ S ++ [m] then false else op2 y) (fun y => if y ∈ S ++ [m] then ML2.length else comp2 y) t2 (.slice (some ⟨ob, 0, none⟩) AP.length oc) (.slice (some ⟨pb, 0, none⟩) XP'.length pc) (.slice ma ML2.length mc) AP XP' (ML2.flatten ++ S) (offs ML2 0)) := by
                        have h := (HTm1.out.setOpen m false).setComp m ML2.length
                        rw [shut_fun, shut_fun] at h
                        exact h
                      have n1 : ¬ w.heap.size + 1 = w.heap.size + 7 := by omega
                      have n2 : ¬ w.heap.size + 7 = w.heap.size + 1 := by omega
                      clear HTm1
                      go_upto_region 35 with fail
                      clear cp ep fp ec fc hW1
                      generalize hW2 : (W1.setCell ⟨w.heap.size + 7, m, none⟩ (.bool false)).setCell ⟨w.heap.size + 1, m, none⟩ (.int .i64 (ML2.length : Int)) = W2 at *
                      have hord := HTm2.out.oord
                      have elen : (ML2.flatten ++ S).length = flen ML2 + S.length := by simp [flen]
                      rw [elen] at hord
                      have hfit : flen ML2 + S.length + 1 ≤ n := by omega
                      generalize hol : flen ML2 + S.length = ol at *
                      go_upto_region 36 with (at_builtin; refine wpList_append_fits _ rfl _ _ 25 rfl 0 3 i3 1 Try.underlying25 hi3 hb1 (w.heap.size + 2) ol n _ (by rfl) (hord.alloc _) ⟨W2.heap.size, 0, none⟩ 1 1 [.int .i64 m] rfl rfl (cell_one_new _ _ _) (fun u hu => by simp at hu; subst hu; rfl) (by omega) ?_; intro w3 hown3 hgrow3)
                      have HTm3 : Hid (Tm w w3 ib lk ix lx n (.slice (some ⟨db, dob, none⟩) dl dc) idx2 low2 (fun y => if y ∈ S ++ [m] then false else op2 y) (fun y => if y ∈ S ++ [m] then ML2.length else comp2 y) t2 (.slice (some ⟨ob, 0, none⟩) AP.length oc) (.slice (some ⟨pb, 0, none⟩) XP'.length pc) (.slice ma ML2.length mc) AP XP' (ML2.flatten ++ (S ++ [m])) (offs ML2 0)) := by
                        have h := (HTm2.out.more ((Grow.refl W2).alloc (.cells #[.int .i64 (m : Int)] 3))).setOrd (m := m) (wr' := w3) hgrow3 (by rw [elen]; simpa [natV] using hown3)
                        rw [List.append_assoc] at h
                        exact h
                      clear HTm2 hord hown3 hgrow3 hW2 elen
                      by_cases hmr : m = r
                      · have hP1 := hlast.1 hmr
                        have hbm : ((m : Int) == (r : Int)) = true := by rw [hmr]; simp
                        have HPerm : Hid ((S ++ [m]).Perm (r :: B)) := by
                          show (S ++ [m]).Perm (r :: B)
                          rw [HPS.out, hP1, show ([] ++ [m]) ++ S.reverse = (S ++ [m]).reverse by simp]
                          exact (List.reverse_perm _).symm
                        have hAP : AP = A := by rw [← HAP.out, hP1]; simp
                        subst hAP
                        have hSl : (S ++ [m]).length = S.length + 1 := by simp
                        have HTmE : Hid (Tm w w3 ib lk ix lx n (.slice (some ⟨db, dob, none⟩) dl dc) idx2 low2 (fun y => if y ∈ S ++ [m] then false else op2 y) (fun y => if y ∈ S ++ [m] then ML2.length else comp2 y) t2 (.slice (some ⟨ob, 0, none⟩) AP.length oc) (.slice (some ⟨pb, 0, none⟩) XP'.length pc) (.slice ma ML2.length mc) AP XP' (ML2.flatten ++ (S ++ [m])) (offs ML2 0)) := HTm3.out
                        have HPR : Hid (m = r) := hmr
                        have hfl : flen ML2 ≤ ol := by omega
                        have hfl0 : (0 : Int) ≤ (flen ML2 : Int) := Int.natCast_nonneg _
                        have hflI : (flen ML2 : Int) ≤ (ol : Int) + 1 := by omega
                        have holI : (ol : Int) + 1 ≤ (n : Int) := by omega
                        have Hol : Hid (flen ML2 + S.length = ol) := hol
                        have hown := HTmE.out.mown
                        rw [offs_length] at hown
                        have hmlen := HTs.out.mlen
                        have hszE := HTmE.out.sized
                        have hpart : ol + 1 - flen ML2 = S.length + 1 := by omega
                        have HPart : Hid (ol + 1 - flen ML2 = S.length + 1) := hpart
                        clear HTm3 hlast hP1 hmr hol HAP HPS hpart
                        go_wp2_with (at_builtin; refine wpList_append_lies _ rfl _ _ 24 rfl (w.heap.size + 12) 25 i25 (.slice none 0 0) 1 24 Try.underlying24 hi25 hc0 hc1 hc2 rfl (by decide) (.slice ma ML2.length mc) ML2.length _ (by first | rfl | simp) (hown.alloc _) ⟨w3.heap.size, 0, none⟩ 1 1 [.slice (some ⟨w.heap.size + 2, flen ML2, none⟩) (ol + 1 - flen ML2) (ol + 1 - flen ML2)] rfl rfl (cell_one_new _ _ _) (fun u hu => by simp at hu; subst hu; rfl) (by decide) (by unfold maxLen; omega) (by omega) (by simp; omega) (w3.heap.size + 1) (by simp) ?_; intro g5 cap5 w5 hown5 hgrow5 hat5 hlt5)
                        have hTm5 := (HTmE.out.more ((Grow.refl w3).alloc (.cells #[.slice (some ⟨w.heap.size + 2, flen ML2, none⟩) (ol + 1 - flen ML2) (ol + 1 - flen ML2)] 25))).setM (p := (flen ML2, S.length + 1)) (wr' := w5) (mv' := .slice (some ⟨g5, 0, none⟩) (ML2.length + 1) cap5) hgrow5 (by rw [offs_length]; rw [HPart.out] at hown5; exact hown5) (fun g hg => by
                          have e : g5 = g := by simpa [Value.ownBlock] using hg
                          subst e
                          rcases hat5 with h | h
                          · exact .inl h
                          · exact .inr (by simp; omega))
                        have HAll : Hid (TAll w w5 ib lk ix lx n (.slice (some ⟨db, dob, none⟩) dl dc) adj idx2 t2 (.slice (some ⟨g5, 0, none⟩) (ML2.length + 1) cap5) (.slice (some ⟨w.heap.size + 2, 0, none⟩) (ol + 1) n) AP XP' (ML2 ++ [S ++ [m]])) := by
                          have hTs := HTs.out
                          rw [HO.out] at hTs
                          refine ⟨low2, (fun y => if y ∈ S ++ [m] then false else op2 y), (fun y => if y ∈ S ++ [m] then ML2.length else comp2 y), .slice (some ⟨ob, 0, none⟩) AP.length oc, .slice (some ⟨pb, 0, none⟩) XP'.length pc, ?_, ?_, hTs.shut HB.out HPerm.out (fun y => if y ∈ S ++ [m] then false else op2 y) (fun v hv => ?_)⟩
                          · rw [← Hol.out]; simp [flen]; omega
                          · have e1 : (ML2 ++ [S ++ [m]]).flatten = ML2.flatten ++ (S ++ [m]) := by simp
                            have e2 : offs (ML2 ++ [S ++ [m]]) 0 = offs ML2 0 ++ [(flen ML2, S.length + 1)] := by rw [offs_snoc]; simp [flen]
                            rw [e1, e2]
                            exact hTm5
                          · have hnd := hTs.tj.nd
                            rw [List.nodup_append] at hnd
                            have h2 := hnd.2.1
                            rw [List.nodup_append] at h2
                            have hop := hTs.op v hv
                            by_cases e : v ∈ S ++ [m]
                            · rw [if_pos e]
                              have h3 : v ∈ r :: B := HPerm.out.mem_iff.1 e
                              have h4 : v ∉ AP := fun h => h2.2.2 v h v h3 rfl
                              rw [decide_eq_false h4]
                            · rw [if_neg e, hop]
                              have h3 : v ∉ r :: B := fun h => e (HPerm.out.mem_iff.2 h)
                              rw [decide_eq_decide, List.mem_append]
                              exact ⟨fun h => h.resolve_right h3, .inl⟩
                        clear hTm5 hown5 hgrow5 hat5 hlt5 HTmE hown
                        go_wp2
                        go_roundg (tmu n t2 XP')
                        case measure => exact tmu_pop (by omega)
                        case rel => exact ⟨t2, idx2, _, _, _, rfl, HAll.out, HOld.out.1, HOld.out.2⟩
                      · have hP1 := hlast.2 hmr
                        have hbm : ((m : Int) == (r : Int)) = false := by rw [beq_eq_false_iff_ne]; omega
                        have HP1 : Hid (P1 ≠ []) := hP1
                        have HSh3 : Hid (TShut w w3 ib lk ix lx n (.slice (some ⟨db, dob, none⟩) dl dc) idx2 low2 comp2 op2 t2 (.slice (some ⟨pb, 0, none⟩) XP'.length pc) (.slice ma ML2.length mc) (.slice (some ⟨w.heap.size + 2, 0, none⟩) (ol + 1) n) A P1 (S ++ [m]) XP' ML2) := ⟨_, (by rw [← hol]; simp [Nat.add_assoc]), (by rw [HAP.out]; exact HTm3.out)⟩
                        have Hol : Hid _ := hol
                        clear HTm3 hlast hP1 hmr hol
                        go_wp2
                        go_roundg P1.length
                        case measure => simp
                        case rel => exact ⟨P1, S ++ [m], rfl, HP1.out, (by rw [HPS.out]; simp), HSh3.out⟩
                · have hneq : (((low2 r : Nat) : Int) != ((idx2 r : Nat) : Int)) = true := by simp; omega
                  have HAll : ∀ nq, Hid (TAll w (WB.drewN nq) ib lk ix lx n (.slice (some ⟨db, dob, none⟩) dl dc) adj idx2 t2 (.slice ma ML2.length mc) (.slice (some ⟨w.heap.size + 2, 0, none⟩) (flen ML2) n) O XP' ML2) := fun nq => ⟨_, _, _, _, _, rfl, HTmB.out.more ((Grow.refl _).drewN nq), HTsB.out hlr⟩
                  have HN : Hid _ := hlr
                  clear HTmB HTsB hlr hWB
                  go_wp2_with fail
                  go_quiet (fail)
                  have HAll2 := HAll nq
                  clear HAll
                  go_wp2
                  go_roundg (tmu n t2 XP')
                  case measure => exact tmu_pop (by omega)
                  case rel => exact ⟨t2, idx2, _, _, ML2, rfl, HAll2.out, HOld.out.1, HOld.out.2⟩
      · have hb : ((idx k : Int) != 0) = true := by simp; omega
        have HZ : Hid _ := hz
        clear hz
        go_wp2
        go_roundw
        case rel => exact ⟨k + 1, t, idx, ML, by omega, by go_num, ⟨low, op, comp, ovv, pvv, rfl, HTm.out, HTs.out⟩, fun v hv => by
          by_cases e : v = k
          · subst e; exact HZ.out
          · exact HVis.out v (by omega)⟩
        case measure => simp [intOf]; omega
    · have hkn : k = n := by omega
      subst hkn
      have HPart : Hid (Parted k adj comp ML) := by
        have htj := hTs.tj
        have hall : ∀ v, v ∈ ML.flatten ↔ v < k := fun v => ⟨fun h => htj.lt v (by simpa using h), fun h => by simpa using (htj.vis v h).1 (hvis v h)⟩
        exact ⟨by simpa using htj.nd, hall, hTs.mem, fun u hu d hd => (htj.closed u ((hall u).2 hu) d hd).2, fun u hu v hv e => htj.scc u ((hall u).2 hu) v ((hall v).2 hv) e⟩
      have HTm : Hid (Tm w wr ib lk ix lx k (.slice da dl dc) idx low op comp t ovv pvv u2 [] [] ML.flatten (offs ML 0)) := hTm
      clear hTm hTs hvis
      go_wp2
      exact bodyPost_ret (v := .tuple #[u2, .slice (some ⟨w.heap.size + 1, 0, none⟩) k k]) (by simp [results, Try.results34, go_sem]) rfl ⟨u2, comp, ML, _, rfl, HTm.out.grow, HPart.out, rfl, HTm.out.mown, HTm.out.crow, HTm.out.oord⟩

end Go.Proofs.Qxb6601698a
