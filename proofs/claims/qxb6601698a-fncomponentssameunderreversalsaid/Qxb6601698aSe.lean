/-
  zzB1OrderedSCCs (24).
-/
import Derived.Test.Qxb6601698aSd
namespace Go.Proofs.Qxb6601698a
open Go.RowKit

def LawTrue (w0 : World) (e : Ending) (w' : World) : Prop := e = .returned (.bool true) ∧ Grow w0 w'

/-- The marks of those seen. -/
structure Sn (w wr : World) (n : Nat) (L : List Nat) : Prop where
  grow : Grow w wr
  row : wr.rowIs w.heap.size 4 n (fun j => .bool (decide (j ∈ L)))
theorem Sn.step {w wr : World} {n m : Nat} {L : List Nat} (h : Sn w wr n L) : Sn w (wr.setCell ⟨w.heap.size, m, none⟩ (.bool true)) n (L ++ [m]) :=
  ⟨h.grow.setCell (Nat.le_refl _) _, (h.row.set m _).congr (fun j _ => by
    by_cases e : j = m
    · simp [e]
    · simp [e])⟩

/-- The two marks of the spreading. -/
structure Fb (w wr : World) (rb n fb bb : Nat) (R : Nat → List Nat) (comp : Nat → Nat) (c1 c2 : Nat) : Prop where
  grow : Grow w wr
  rows : Rows2 wr (some ⟨rb, 0, none⟩) n R
  frow : wr.rowIs fb 4 n (fun j => .bool (decide (comp j < c1)))
  brow : wr.rowIs bb 4 n (fun j => .bool (decide (comp j < c2)))
  new : w.heap.size ≤ fb ∧ w.heap.size ≤ bb ∧ fb ≠ bb
section
variable {w wr w1 : World} {rb n fb bb : Nat} {R : Nat → List Nat} {comp : Nat → Nat} {c1 c2 : Nat}
theorem Fb.start (n : Nat) (comp : Nat → Nat) (hg : Grow w wr) (hr : Rows2 wr (some ⟨rb, 0, none⟩) n R) :
    Fb w ((wr.alloc (.cells (madeCells #[.bool false] n) 4)).alloc (.cells (madeCells #[.bool false] n) 4)) rb n wr.heap.size (wr.heap.size + 1) R comp 0 0 := by
  have h2 := World.rowIs_made (wr.alloc (.cells (madeCells #[.bool false] n) 4)) (.bool false) n 4
  rw [show (wr.alloc (.cells (madeCells #[.bool false] n) 4)).heap.size = wr.heap.size + 1 by simp] at h2
  have hs := hg.size
  exact ⟨(hg.alloc _).alloc _, hr.grow (((Grow.refl wr).alloc _).alloc _), ((World.rowIs_made wr (.bool false) n 4).alloc _).congr (fun j _ => by simp), h2.congr (fun j _ => by simp), hs, by omega, by omega⟩
theorem Fb.more (h : Fb w wr rb n fb bb R comp c1 c2) (g : Grow wr w1) : Fb w w1 rb n fb bb R comp c1 c2 :=
  ⟨h.grow.trans g, h.rows.grow g, row_by h.frow g.grew (by simp), row_by h.brow g.grew (by simp), h.new⟩
theorem Fb.fw {S : List Nat} (h : Fb w wr rb n fb bb R comp c1 c2) (hby : wr.grownBy w1 (some fb)) (hrow : w1.rowIs fb 4 n (fun j => .bool (decide (comp j < c1) || decide (j ∈ S)))) (hS : ∀ v, v ∈ S ↔ v < n ∧ comp v = c1) : Fb w w1 rb n fb bb R comp (c1 + 1) c2 :=
  ⟨h.grow.grown hby (fun k hk => by cases hk; exact h.new.1), h.rows.by h.frow hby, hrow.congr (fun j hj => by
    have e : (decide (comp j < c1) || decide (j ∈ S)) = decide (comp j < c1 + 1) := by
      rw [← Bool.decide_or, decide_eq_decide, hS j]
      omega
    rw [e]), row_by h.brow hby (sne (fun e => h.new.2.2 e.symm)), h.new⟩
theorem Fb.bw {S : List Nat} (h : Fb w wr rb n fb bb R comp c1 c2) (hby : wr.grownBy w1 (some bb)) (hrow : w1.rowIs bb 4 n (fun j => .bool (decide (comp j < c2) || decide (j ∈ S)))) (hS : ∀ v, v ∈ S ↔ v < n ∧ comp v = c2) : Fb w w1 rb n fb bb R comp c1 (c2 + 1) :=
  ⟨h.grow.grown hby (fun k hk => by cases hk; exact h.new.2.1), h.rows.by h.brow hby, row_by h.frow hby (sne h.new.2.2), hrow.congr (fun j hj => by
    have e : (decide (comp j < c2) || decide (j ∈ S)) = decide (comp j < c2 + 1) := by
      rw [← Bool.decide_or, decide_eq_decide, hS j]
      omega
    rw [e]), h.new⟩
end

set_option maxRecDepth 100000 in
set_option maxHeartbeats 8000000 in
theorem sccs_any (n dl dc mc cb : Nat) (da ma : Option Addr) (adj : Nat → List Nat) (comp : Nat → Nat) (ML : List (List Nat)) (w : World)
    (hG : Graph n adj) (hps : psum adj n ≤ 131072) (hR : Rows2 w da n adj) (hdl : n ≤ dl) (hP : Parted n adj comp ML) (hMm : Rows2 w ma ML.length (fun c => ML.getD c [])) (hC : w.rowIs cb 3 n (fun j => natV (comp j))) :
    Calls Try.prog 24 #[.int .i64 n, .slice da dl dc, .slice ma ML.length mc, .slice (some ⟨cb, 0, none⟩) n n] w fun e w' => LawTrue w e w' := by
  obtain ⟨i3, hi3, hb0, hb1, hb2⟩ := info_parts info3
  have hn := hG.n1
  have hmn := hP.lenle
  have HG : Hid (Graph n adj) := hG
  have HR : Hid (Rows2 w da n adj) := hR
  have HP : Hid (Parted n adj comp ML) := hP
  have HMm : Hid (Rows2 w ma ML.length (fun c => ML.getD c [])) := hMm
  have HC : Hid (w.rowIs cb 3 n (fun j => natV (comp j))) := hC
  have HPs : Hid (psum adj n ≤ 131072) := hps
  have hmk := make57 n (by omega)
  have hmk2 := make25 n (by omega)
  have hmnI : ¬ ((n : Int) < (ML.length : Int)) := by omega
  have HSn0 : Hid (Sn w (w.alloc (.cells (madeCells #[.bool false] n) 4)) n (ML.take 0).flatten) := ⟨(Grow.refl w).alloc _, (World.rowIs_made w _ _ _).congr (fun j _ => by simp)⟩
  clear hG hR hP hMm hC hps
  go_enter Try.func24, Try.ntmps24
  go_wp2
  go_loopw [11] (fun iv wr => ∃ c : Nat, c ≤ ML.length ∧ iv = .int .i64 c ∧ Sn w wr n (ML.take c).flatten) (fun iv _ => ML.length - (intOf iv).toNat)
  case atStart => exact ⟨0, Nat.zero_le _, rfl, HSn0.out⟩
  case round =>
    clear HSn0
    obtain ⟨c, hcl, rfl, hSn⟩ := hrel
    by_cases hlt : c < ML.length
    · obtain ⟨mb, mo, rfl, av, ac, crow0, hnats0⟩ := HMm.out c hlt
      have hS : ML[c]? = some (ML.getD c []) := by simp [List.getD, hlt]
      have crow : wr.cell? ⟨mb, mo + c, none⟩ = some (.slice av (ML.getD c []).length ac) := hSn.grow.cell crow0
      have hnats : Nats w av (ML.getD c []) := hnats0
      clear crow0 hnats0
      generalize ML.getD c [] = S at *
      have hPa := HP.out.at hS
      have hSl : 0 < S.length := List.length_pos_iff.2 hPa.2.1
      have hSn65 : S.length ≤ n := by
        have := nodup_len hPa.1 (fun u hu => (by simpa using ((hPa.2.2 u).1 hu).1 : u ∈ List.range n))
        simpa using this
      have hb : ((S.length : Int) == 0) = false := by rw [beq_eq_false_iff_ne]; omega
      have HS : Hid (ML[c]? = some S) := hS
      have HPa : Hid (∀ v, v ∈ S ↔ v < n ∧ comp v = c) := hPa.2.2
      have HN : Hid (Nats w av S) := hnats
      have HSn1 : Hid (Sn w wr n ((ML.take c).flatten ++ S.take 0)) := by
        show Sn w wr n ((ML.take c).flatten ++ S.take 0)
        simpa using hSn
      clear hS hPa hnats hSn
      go_wp2
      clear crow
      go_loopw [13] (fun jv wr2 => ∃ j : Nat, j ≤ S.length ∧ jv = .int .i64 j ∧ Sn w wr2 n ((ML.take c).flatten ++ S.take j)) (fun jv _ => S.length - (intOf jv).toNat)
      case atStart => exact ⟨0, Nat.zero_le _, rfl, HSn1.out⟩
      case round =>
        clear HSn1
        obtain ⟨j, hj, rfl, hSn⟩ := hrel
        by_cases hjl : j < S.length
        · obtain ⟨ab, ao, rfl, cdep⟩ := (HN.out.grow hSn.grow).2 j hjl
          have hfresh := HP.out.fresh HS.out hjl
          have hnext := take_next S hjl
          have hmS : S.getD j 0 ∈ S := List.mem_of_getElem? (by simp [List.getD, hjl] : S[j]? = some (S.getD j 0))
          generalize S.getD j 0 = m at *
          obtain ⟨hmn2, hmc⟩ := (HPa.out m).1 hmS
          have cc : wr.cell? ⟨cb, m, none⟩ = some (.int .i64 (comp m : Int)) := (row_by HC.out hSn.grow.grew (by simp)).cell hmn2
          rw [hmc] at cc
          have cs := hSn.row.cell hmn2
          rw [decide_eq_false hfresh] at cs
          have fs := hSn.row.frozen m
          have HSn2 : Hid (Sn w (wr.setCell ⟨w.heap.size, m, none⟩ (.bool true)) n ((ML.take c).flatten ++ S.take (j + 1))) := by
            show Sn _ _ _ _
            rw [hnext, ← List.append_assoc]
            exact hSn.step
          have hm0 : (0 : Int) ≤ (m : Int) := Int.natCast_nonneg _
          have hmI : (m : Int) < (n : Int) := by omega
          have hcc : (((c : Nat) : Int) != ((c : Nat) : Int)) = false := by simp
          clear hSn hfresh hnext hmS
          go_wp2
          go_roundw
          case rel => exact ⟨j + 1, by omega, by go_num, HSn2.out⟩
          case measure => simp [intOf]; omega
        · have HSn2 : Hid (Sn w wr n (ML.take (c + 1)).flatten) := by
            show Sn _ _ _ _
            rw [flat_next HS.out]
            have ht : S.take j = S := List.take_of_length_le (by omega)
            rw [ht] at hSn
            exact hSn
          clear hSn
          go_wp2
          go_roundw
          case rel => exact ⟨c + 1, by omega, by go_num, HSn2.out⟩
          case measure => simp [intOf]; omega
    · have hce : c = ML.length := by omega
      subst hce
      have HSn1 : Hid (Sn w wr n ML.flatten) := by
        show Sn _ _ _ _
        rw [List.take_length] at hSn
        exact hSn
      clear hSn
      go_wp2
      go_loop [15] (fun i => ∃ v : Nat, v ≤ n ∧ i = .int .i64 v) (fun i => n - (intOf i).toNat)
      case atStart => exact ⟨0, Nat.zero_le _, rfl⟩
      case round =>
        obtain ⟨v, hv, rfl⟩ := hrel
        by_cases hvn : v < n
        · have cs := HSn1.out.row.cell hvn
          rw [decide_eq_true ((HP.out.all v).2 hvn)] at cs
          have hv0 : (0 : Int) ≤ (v : Int) := Int.natCast_nonneg _
          have hvI : (v : Int) < (n : Int) := by omega
          go_wp2
          go_round
          case rel => exact ⟨v + 1, by omega, by go_num⟩
          case measure => simp [intOf]; omega
        · have HG1 : Hid (Grow w wr) := HSn1.out.grow
          have HRf0 : Hid (Rf w (wr.alloc (.cells (madeCells #[.slice none 0 0] n) 25)) wr.heap.size n (fun _ => .slice none 0 0) (fun _ => [])) := Rf.start n HG1.out
          clear HSn1
          go_wp2
          clear hmk2
          generalize hrb : wr.heap.size = rb at *
          generalize hWr : wr.alloc (.cells (madeCells #[.slice none 0 0] n) 25) = W0 at *
          clear hWr hrb
          go_loopw [17] (fun iv wr2 => ∃ (v : Nat) (f : Nat → Value) (R : Nat → List Nat), v ≤ n ∧ iv = .int .i64 v ∧ Rf w wr2 rb n f R ∧ Rin n adj (fun u d => comp d = comp u) v 0 R) (fun iv _ => n - (intOf iv).toNat)
          case atStart => exact ⟨0, _, _, Nat.zero_le _, rfl, HRf0.out, rin_start _ _ _⟩
          case round =>
            clear HRf0
            obtain ⟨v, f, R, hv, rfl, hRf, hRin⟩ := hrel
            by_cases hvn : v < n
            · obtain ⟨db, dob, rfl, av, ac, crow0, hnats⟩ := HR.out v hvn
              have crow := hRf.grow.cell crow0
              have HN : Hid (Nats w av (adj v)) := hnats
              have hal := HG.out.len v hvn
              have HRf1 : Hid (Rf w wr rb n f R) := hRf
              have HRi1 : Hid (Rin n adj (fun u d => comp d = comp u) v 0 R) := hRin
              have hv0 : (0 : Int) ≤ (v : Int) := Int.natCast_nonneg _
              have hvI : (v : Int) < (n : Int) := by omega
              have hvdl : (v : Int) < (dl : Int) := by omega
              clear crow0 hnats hRf hRin
              go_wp2
              clear crow
              go_loopw [19] (fun jv wr2 => ∃ (j : Nat) (f : Nat → Value) (R : Nat → List Nat), j ≤ (adj v).length ∧ jv = .int .i64 j ∧ Rf w wr2 rb n f R ∧ Rin n adj (fun u d => comp d = comp u) v j R) (fun jv _ => (adj v).length - (intOf jv).toNat)
              case atStart => exact ⟨0, f, R, Nat.zero_le _, rfl, HRf1.out, HRi1.out⟩
              case round =>
                clear HRf1 HRi1
                obtain ⟨j, f2, R2, hj, rfl, hRf, hRin⟩ := hrel
                by_cases hjl : j < (adj v).length
                · obtain ⟨ab, ao, rfl, cdep⟩ := (HN.out.grow hRf.grow).2 j hjl
                  have hdx : (adj v)[j]? = some ((adj v).getD j 0) := by simp [List.getD, hjl]
                  have hdm : (adj v).getD j 0 ∈ adj v := List.mem_of_getElem? hdx
                  generalize (adj v).getD j 0 = d at *
                  have HDX : Hid ((adj v)[j]? = some d) := hdx
                  have hdn := HG.out.lt v hvn d hdm
                  have hdown := HP.out.down v hvn d hdm
                  have hcrow := row_by HC.out hRf.grow.grew (by simp)
                  have cd : wr.cell? ⟨cb, d, none⟩ = some (.int .i64 (comp d : Int)) := hcrow.cell hdn
                  have cv : wr.cell? ⟨cb, v, none⟩ = some (.int .i64 (comp v : Int)) := hcrow.cell hvn
                  have hd0 : (0 : Int) ≤ (d : Int) := Int.natCast_nonneg _
                  have hdI : (d : Int) < (n : Int) := by omega
                  have hj0 : (0 : Int) ≤ (j : Int) := Int.natCast_nonneg _
                  have hjI : (j : Int) < ((adj v).length : Int) := by omega
                  have hgt : ¬ comp v < comp d := by omega
                  have HRf2 : Hid (Rf w wr rb n f2 R2) := hRf
                  have HRi2 : Hid (Rin n adj (fun u d => comp d = comp u) v j R2) := hRin
                  clear hdx hdm hRf hRin hcrow hdown
                  go_wp2_with fail
                  go_quiet (fail)
                  have HRf3 : Hid (Rf w (wr.drewN nq) rb n f2 R2) := HRf2.out.more ((Grow.refl wr).drewN nq)
                  clear HRf2 cd cv cdep
                  generalize wr.drewN nq = W1 at *
                  have hcrow := row_by HC.out HRf3.out.grow.grew (by simp)
                  have cd : W1.cell? ⟨cb, d, none⟩ = some (.int .i64 (comp d : Int)) := hcrow.cell hdn
                  have cv : W1.cell? ⟨cb, v, none⟩ = some (.int .i64 (comp v : Int)) := hcrow.cell hvn
                  clear hcrow
                  by_cases hE : comp d = comp v
                  · have hb : ((comp d : Int) == (comp v : Int)) = true := by rw [hE]; simp
                    have HE : Hid (comp d = comp v) := hE
                    clear hE
                    go_wp2_with fail
                    go_quiet (fail)
                    have HRf4 : Hid (Rf w (W1.drewN nq) rb n f2 R2) := HRf3.out.more ((Grow.refl W1).drewN nq)
                    clear HRf3 cd cv
                    generalize W1.drewN nq = W2 at *
                    have hown := HRf4.out.own d hdn
                    obtain ⟨oa, oc, hfd, _⟩ := nats_own hown
                    have hRl := HRi2.out.len d
                    have hRl2 : (R2 d).length ≤ 131072 := by
                      have h1 := psum_le adj (show v + 1 ≤ n by omega)
                      simp only [psum] at h1
                      have h2 := HPs.out
                      omega
                    have cr := HRf4.out.row.cell hdn
                    rw [hfd] at cr hown
                    have hrow3 := HRf4.out.row.alloc (.cells #[.int .i64 (v : Int)] 3)
                    have HFD : Hid (f2 d = .slice oa (R2 d).length oc) := hfd
                    have hszW : rb + 1 ≤ W2.heap.size := HRf4.out.row.lt
                    have hfb : some rb ≠ (Value.slice oa (R2 d).length oc).ownBlock := fun e => by have := (hown.lt _ e.symm).1; omega
                    clear hfd hRl
                    go_wp2_with (at_builtin; refine wpList_append_lies _ rfl _ _ 25 rfl (rb + 1) 3 i3 (.int .i64 0) 1 8 Try.underlying25 hi3 hb0 hb1 hb2 rfl (by decide) (.slice oa (R2 d).length oc) (R2 d).length _ (by first | rfl | simp) (hown.alloc _) ⟨W2.heap.size, 0, none⟩ 1 1 [.int .i64 v] rfl rfl (cell_one_new _ _ _) (fun u hu => by simp at hu; subst hu; rfl) (by decide) (by unfold maxLen; omega) (by omega) (by simp; omega) (W2.heap.size + 1) (by simp) ?_; intro g3 cap3 w3 hown3 hgrow3 hat3 hlt3; have ob3 := row_by hrow3 hgrow3 hfb; have c9 := ob3.cell (i := d) hdn; have f9 := ob3.frozen d; rw [HFD.out] at c9)
                    have HRf5 : Hid (Rf w (w3.setCell ⟨rb, d, none⟩ (.slice (some ⟨g3, 0, none⟩) ((R2 d).length + 1) cap3)) rb n (fun y => if y = d then .slice (some ⟨g3, 0, none⟩) ((R2 d).length + 1) cap3 else f2 y) (fun y => if y = d then R2 d ++ [v] else R2 y)) :=
                      (HRf4.out.more ((Grow.refl W2).alloc (.cells #[.int .i64 (v : Int)] 3))).push hdn (by simpa [natV] using hown3) (by rw [HFD.out]; exact hgrow3) (by
                        rw [HFD.out]
                        rcases hat3 with h | h
                        · exact .inl h
                        · exact .inr (by simp; omega))
                    have HRi3 : Hid (Rin n adj (fun u d => comp d = comp u) v (j + 1) (fun y => if y = d then R2 d ++ [v] else R2 y)) := HRi2.out.push hvn HDX.out HE.out
                    clear HRf4 hown hrow3 hown3 hgrow3 hat3 hlt3 cr
                    go_wp2
                    go_roundw
                    case rel => exact ⟨j + 1, _, _, by omega, by go_num, HRf5.out, HRi3.out⟩
                    case measure => simp [intOf]; omega
                  · have hb : ((comp d : Int) == (comp v : Int)) = false := by rw [beq_eq_false_iff_ne]; omega
                    have HRi3 : Hid (Rin n adj (fun u d => comp d = comp u) v (j + 1) R2) := HRi2.out.skip HDX.out hE
                    clear hE
                    go_wp2_with fail
                    go_quiet (fail)
                    have HRf4 : Hid (Rf w (W1.drewN nq) rb n f2 R2) := HRf3.out.more ((Grow.refl W1).drewN nq)
                    clear HRf3 cd cv
                    go_wp2
                    go_roundw
                    case rel => exact ⟨j + 1, f2, R2, by omega, by go_num, HRf4.out, HRi3.out⟩
                    case measure => simp [intOf]; omega
                · have HRi2 : Hid (Rin n adj (fun u d => comp d = comp u) (v + 1) 0 R2) := hRin.next (by omega)
                  have HRf2 : Hid (Rf w wr rb n f2 R2) := hRf
                  clear hRf hRin
                  go_wp2
                  go_roundw
                  case rel => exact ⟨v + 1, f2, R2, by omega, by go_num, HRf2.out, HRi2.out⟩
                  case measure => simp [intOf]; omega
            · have hve : v = n := by omega
              have HRin : Hid (Rin n adj (fun u d => comp d = comp u) n 0 R) := by
                show Rin n adj (fun u d => comp d = comp u) n 0 R
                rw [hve] at hRin
                exact hRin
              have HFb0 : Hid (Fb w ((wr.alloc (.cells (madeCells #[.bool false] n) 4)).alloc (.cells (madeCells #[.bool false] n) 4)) rb n wr.heap.size (wr.heap.size + 1) R comp 0 0) := Fb.start n comp hRf.grow hRf.rows
              have hRl : ∀ d, (R d).length ≤ 131072 := fun d => by have h1 := HRin.out.len d; have h2 := HPs.out; omega
              have HRl : Hid (∀ d, (R d).length ≤ 131072) := hRl
              clear hRf hRin hRl hve
              go_wp2
              clear hmk
              generalize hfb : wr.heap.size = fb at *
              generalize hbb : fb + 1 = bb at *
              generalize hWr : (wr.alloc (.cells (madeCells #[.bool false] n) 4)).alloc (.cells (madeCells #[.bool false] n) 4) = W0 at *
              clear hWr hfb hbb
              go_loopw [23] (fun iv wr2 => ∃ c : Nat, c ≤ ML.length ∧ iv = .int .i64 c ∧ Fb w wr2 rb n fb bb R comp c c) (fun iv _ => ML.length - (intOf iv).toNat)
              case atStart => exact ⟨0, Nat.zero_le _, rfl, HFb0.out⟩
              case round =>
                clear HFb0
                obtain ⟨c, hc, rfl, hFb⟩ := hrel
                by_cases hlt : c < ML.length
                · obtain ⟨mb, mo, rfl, av, ac, crow0, hnats0⟩ := HMm.out c hlt
                  have hS : ML[c]? = some (ML.getD c []) := by simp [List.getD, hlt]
                  have crow : wr.cell? ⟨mb, mo + c, none⟩ = some (.slice av (ML.getD c []).length ac) := hFb.grow.cell crow0
                  have hnats : Nats wr av (ML.getD c []) := Nats.grow hnats0 hFb.grow
                  clear crow0 hnats0
                  generalize ML.getD c [] = S at *
                  obtain ⟨hSnd, hSne, hSm⟩ := HP.out.at hS
                  have hSl : 0 < S.length := List.length_pos_iff.2 hSne
                  obtain ⟨ab, ao, rfl, c0⟩ := hnats.2 0 hSl
                  have hs0 : S.getD 0 0 ∈ S := List.mem_of_getElem? (by simp [List.getD, hSl] : S[0]? = some (S.getD 0 0))
                  generalize S.getD 0 0 = s at *
                  obtain ⟨hsn, hsc⟩ := (hSm s).1 hs0
                  have hW1 := HP.out.whole HG.out.lt hsn hsc
                  have hW2 := HP.out.wholeR HG.out.lt HRin.out hsn hsc
                  have c0 : wr.cell? ⟨ab, ao, none⟩ = some (.int .i64 (s : Int)) := by simpa using c0
                  have crowd : wr.drew.cell? ⟨mb, mo + c, none⟩ = some (.slice (some ⟨ab, ao, none⟩) S.length ac) := crow
                  have HS1 : Hid (S.Nodup ∧ ∀ v, v ∈ S ↔ v < n ∧ comp v = c) := ⟨hSnd, hSm⟩
                  have HW1 : Hid (Whole n adj comp c s) := hW1
                  have HW2 : Hid (Whole n R comp c s) := hW2
                  have HFbd : Hid (Fb w wr.drew rb n fb bb R comp c c) := hFb.more (Grow.refl wr).drew
                  have hSln : S.length ≤ n := by
                    have := nodup_len hSnd (fun u hu => (by simpa using ((hSm u).1 hu).1 : u ∈ List.range n))
                    simpa using this
                  have hSlI : (0 : Int) < (S.length : Int) := by omega
                  have hsc' : comp s = c := hsc
                  have HSC : Hid (comp s = c) := hsc
                  clear hFb hnats hS hSnd hSne hSm hs0 hW1 hW2 hsc hsc'
                  go_upto_region 42 with fail
                  go_region_held3 (fun w' => w'.cell? ⟨mb, mo + c, none⟩ = some (.slice (some ⟨ab, ao, none⟩) S.length ac)) (first | (go_keep; done) | exact hScall)
                    ((go_at_call 35; refine (spread_any s c n cb fb dl dc da adj comp (fun j => decide (comp j < c)) S wr.drew hn (HR.out.grow HFbd.out.grow) hdl HG.out.lt (fun v hv => by have := HG.out.len v hv; omega) (row_by HC.out HFbd.out.grow.grew (by simp)) HFbd.out.frow hsn HSC.out HW1.out HS1.out.1 HS1.out.2 (fun v _ hvc => by simp [hvc])).mono ?_; rintro e w1 ⟨rfl, hby, hrow⟩; have hScall := cell_by hby crowd (sne (ne_block HFbd.out.frow (fun j hj e => by cases e) crowd))))
                  have HFb1 : Hid (Fb w w1 rb n fb bb R comp (c + 1) c) := HFbd.out.fw hby hrow HS1.out.2
                  have crow1 : w1.cell? ⟨mb, mo + c, none⟩ = some (.slice (some ⟨ab, ao, none⟩) S.length ac) := cell_by hby crowd (sne (ne_block HFbd.out.frow (fun j hj e => by cases e) crowd))
                  clear HFbd hby hrow crow crowd c0
                  have crowd : w1.drew.cell? ⟨mb, mo + c, none⟩ = some (.slice (some ⟨ab, ao, none⟩) S.length ac) := crow1
                  have HFbd : Hid (Fb w w1.drew rb n fb bb R comp (c + 1) c) := HFb1.out.more (Grow.refl w1).drew
                  go_upto_region 44 with fail
                  go_region_held3 (fun w' => w'.cell? ⟨mb, mo + c, none⟩ = some (.slice (some ⟨ab, ao, none⟩) S.length ac)) (first | (go_keep; done) | exact hScall)
                    ((go_at_call 35; refine (spread_any s c n cb bb n n (some ⟨rb, 0, none⟩) R comp (fun j => decide (comp j < c)) S w1.drew hn HFbd.out.rows (Nat.le_refl _) (fun v hv d hd => (HRin.out.sound v d hd).1) (fun v hv => by have := HRl.out v; omega) (row_by HC.out HFbd.out.grow.grew (by simp)) HFbd.out.brow hsn HSC.out HW2.out HS1.out.1 HS1.out.2 (fun v _ hvc => by simp [hvc])).mono ?_; rintro e w2 ⟨rfl, hby, hrow⟩; have hScall := cell_by hby crowd (sne (ne_block HFbd.out.brow (fun j hj e => by cases e) crowd))))
                  have HFb2 : Hid (Fb w w2 rb n fb bb R comp (c + 1) (c + 1)) := HFbd.out.bw hby hrow HS1.out.2
                  clear HFbd HFb1 hby hrow crow1 crowd
                  go_wp2
                  go_roundw
                  case rel => exact ⟨c + 1, by omega, by go_num, HFb2.out⟩
                  case measure => simp [intOf]; omega
                · have HG3 : Hid (Grow w wr) := hFb.grow
                  clear hFb
                  go_wp2
                  go_ret
                  exact ⟨rfl, HG3.out⟩

end Go.Proofs.Qxb6601698a
