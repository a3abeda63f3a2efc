/-
  The walk of FnComponentsSameUnderReversal (6).
-/
import Derived.Test.Qxb6601698aSi
namespace Go.Proofs.Qxb6601698a
open Go.RowKit

set_option maxRecDepth 100000 in
set_option maxHeartbeats 8000000 in
theorem law6_any (a : Option Addr) (xs : List ByteArray) (d : Nat) (a2 : Option Addr) (xss : List (List Int)) (d2 : Nat) (w : World) (hs : Strs w a xs) (h : Ints2 w a2 xss) :
    Calls Try.prog 6 #[.slice a xs.length d, .slice a2 xss.length d2] w fun e w' => LawTrue w e w' := by
  obtain ⟨i3, hi3, hb0, hb1, hb2⟩ := info_parts info3
  have HS : Hid (Strs w a xs) := hs
  have HI : Hid (Ints2 w a2 xss) := h
  clear hs h
  go_enter Try.func6, Try.ntmps6
  go_wp2_with fail
  refine (bytes25_any a xs d a2 xss d2 w HS.out HI.out).mono ?_
  rintro e w1 ⟨⟨b, rfl⟩, rfl⟩
  cases b with
  | false =>
    go_wp2
    go_ret
    exact ⟨rfl, Grow.refl _⟩
  | true =>
  by_cases hn : xs.length ≤ 65536
  case neg =>
    go_wp2
    go_ret
    exact ⟨rfl, Grow.refl _⟩
  by_cases hm : xss.length ≤ 65536
  case neg =>
    go_wp2
    go_ret
    exact ⟨rfl, Grow.refl _⟩
  go_wp2_with fail
  refine (strBytes_any a xs d w1 HS.out).mono ?_
  rintro e w2 ⟨⟨z1, rfl, hz1, hz1', _⟩, rfl⟩
  go_wp2_with fail
  refine (intsBytes_any a2 xss d2 w2 HI.out).mono ?_
  rintro e w1 ⟨⟨z2, rfl, hz2, hz2', hbd⟩, rfl⟩
  have HBd : Hid (z2 ≤ 1048576 → 8 * (xss.length : Int) + 8 * (tot xss xss.length : Int) ≤ z2) := hbd
  clear hbd
  by_cases hz : z1 + z2 ≤ 1048576
  case neg =>
    go_wp2
    go_ret
    exact ⟨rfl, Grow.refl _⟩
  have ht : tot xss xss.length ≤ 131072 := by have := HBd.out (by omega); omega
  have HT : Hid (tot xss xss.length ≤ 131072) := ht
  have hrl : ∀ v, v < xss.length → (rowOf xss v).length ≤ 1048576 := fun v hv => by have := row_le xss hv; omega
  have HRl : Hid (∀ v, v < xss.length → (rowOf xss v).length ≤ 1048576) := hrl
  clear ht hrl
  go_wp2_with fail
  refine (range_any xs.length a2 xss d2 w1 (by omega) (by omega) HRl.out HI.out).mono ?_
  rintro e w2 ⟨⟨b, rfl, hir⟩, rfl⟩
  cases b with
  | false =>
    go_wp2
    go_ret
    exact ⟨rfl, Grow.refl _⟩
  | true =>
  have HIR : Hid (InRange xs.length xss) := hir rfl
  clear hir
  go_wp2_with fail
  refine (cloneStrs_any a xs d w2 (by omega) HS.out).mono ?_
  rintro e w3 ⟨na, rfl, _, hg3, _, _⟩
  have HG3 : Hid (Grow w2 w3) := hg3
  clear hg3
  go_wp2_with fail
  refine (cloneInts2_any a2 xss d2 w3 (by omega) HRl.out (HI.out.grow HG3.out)).mono ?_
  rintro e w4 ⟨da, rfl, hi4, hg4⟩
  have HI4 : Hid (Ints2 w4 da xss) := hi4
  have HG4 : Hid (Grow w3 w4) := hg4
  clear hi4 hg4
  go_wp2_with fail
  refine (makeLinks_any na da xs.length xs.length xss.length xss.length w4).mono ?_
  rintro e w5 ⟨rfl, hg5⟩
  have HG5 : Hid (Grow w4 w5) := hg5
  clear hg5
  go_wp2_with fail
  have hR5 := (rows_of HI4.out HIR.out).grow HG5.out
  have hGr := graph_of hn HT.out HIR.out
  refine (zzComponents_any _ _ _ _ na da xs.length xs.length xss.length xss.length (adjI xss) w5 hGr hR5 HIR.out.1 rfl rfl rfl rfl).mono ?_
  rintro e w6 ⟨ma, mc, cb, comp, ML, rfl, hg6, hP, hrM, hrC, _⟩
  have HP : Hid (Parted xs.length (adjI xss) comp ML) := hP
  have HRC : Hid (w6.rowIs cb 3 xs.length (fun j => natV (comp j))) := hrC
  have HR : Hid (Rows2 w6 da xs.length (adjI xss)) := hR5.grow hg6
  have HGr : Hid (Graph xs.length (adjI xss)) := hGr
  have HPs : Hid (psum (adjI xss) xs.length ≤ 131072) := by
    show psum (adjI xss) xs.length ≤ 131072
    rw [psum_tot]
    have := tot_le xss HIR.out.1
    have := HT.out
    omega
  have HGW : Hid (Grow w2 w6) := HG3.out.trans (HG4.out.trans (HG5.out.trans hg6))
  have hdl := HIR.out.1
  have hlw := HP.out.lenle
  clear hg6 hP hrM hrC hR5 hGr HG3 HG4 HG5 HI4 HIR HT HRl HBd HI HS hm hz hz1 hz1' hz2 hz2'
  generalize adjI xss = adj at *
  generalize xss.length = dl at *
  generalize xs.length = n at *
  have hmk2 := make25 n (by omega)
  have HRf0 : Hid (Rf w6 (w6.alloc (.cells (madeCells #[.slice none 0 0] n) 25)) w6.heap.size n (fun _ => .slice none 0 0) (fun _ => [])) := Rf.start n (Grow.refl w6)
  go_wp2
  clear hmk2
  generalize hrb : w6.heap.size = rb at *
  generalize hWr : w6.alloc (.cells (madeCells #[.slice none 0 0] n) 25) = W0 at *
  clear hWr hrb
  go_loopw [9] (fun iv wr => ∃ (v : Nat) (f : Nat → Value) (R : Nat → List Nat), v ≤ n ∧ iv = .int .i64 v ∧ Rf w6 wr rb n f R ∧ Rin n adj (fun _ _ => True) v 0 R) (fun iv _ => n - (intOf iv).toNat)
  case atStart => exact ⟨0, _, _, Nat.zero_le _, rfl, HRf0.out, rin_start _ _ _⟩
  case round =>
    clear HRf0
    obtain ⟨v, f, R, hv, rfl, hRf, hRin⟩ := hrel
    by_cases hvn : v < n
    · obtain ⟨db, dob, rfl, av, ac, crow0, hnats⟩ := HR.out v hvn
      have crow := hRf.grow.cell crow0
      have HN : Hid (Nats w6 av (adj v)) := hnats
      have hal := HGr.out.len v hvn
      have HRf1 : Hid (Rf w6 wr rb n f R) := hRf
      have HRi1 : Hid (Rin n adj (fun _ _ => True) v 0 R) := hRin
      have hv0 : (0 : Int) ≤ (v : Int) := Int.natCast_nonneg _
      have hvI : (v : Int) < (n : Int) := by omega
      have hvdl : (v : Int) < (dl : Int) := by omega
      clear crow0 hnats hRf hRin
      go_wp2
      clear crow
      go_loopw [11] (fun jv wr2 => ∃ (j : Nat) (f : Nat → Value) (R : Nat → List Nat), j ≤ (adj v).length ∧ jv = .int .i64 j ∧ Rf w6 wr2 rb n f R ∧ Rin n adj (fun _ _ => True) v j R) (fun jv _ => (adj v).length - (intOf jv).toNat)
      case atStart => exact ⟨0, f, R, Nat.zero_le _, rfl, HRf1.out, HRi1.out⟩
      case round =>
        clear HRf1 HRi1
        obtain ⟨j, f2, R2, hj, rfl, hRf, hRin⟩ := hrel
        by_cases hjl : j < (adj v).length
        · obtain ⟨ab, ao, rfl, cdep⟩ := (HN.out.grow hRf.grow).2 j hjl
          have hdx : (adj v)[j]? = some ((adj v).getD j 0) := by simp [List.getD, hjl]
          have hdm : (adj v).getD j 0 ∈ adj v := List.mem_of_getElem? hdx
          generalize (adj v).getD j 0 = d at *
          have HDX : Hid ((adj v)[j]? = some d) := hdx
          have hdn := HGr.out.lt v hvn d hdm
          have hd0 : (0 : Int) ≤ (d : Int) := Int.natCast_nonneg _
          have hdI : (d : Int) < (n : Int) := by omega
          have hj0 : (0 : Int) ≤ (j : Int) := Int.natCast_nonneg _
          have hjI : (j : Int) < ((adj v).length : Int) := by omega
          have HRf2 : Hid (Rf w6 wr rb n f2 R2) := hRf
          have HRi2 : Hid (Rin n adj (fun _ _ => True) v j R2) := hRin
          clear hdx hdm hRf hRin
          have hown := HRf2.out.own d hdn
          obtain ⟨oa, oc, hfd, _⟩ := nats_own hown
          have hRl := HRi2.out.len d
          have hRl2 : (R2 d).length ≤ 131072 := by
            have h1 := psum_le adj (show v + 1 ≤ n by omega)
            simp only [psum] at h1
            have h2 := HPs.out
            omega
          have cr := HRf2.out.row.cell hdn
          rw [hfd] at cr hown
          have hrow3 := HRf2.out.row.alloc (.cells #[.int .i64 (v : Int)] 3)
          have HFD : Hid (f2 d = .slice oa (R2 d).length oc) := hfd
          have hszW : rb + 1 ≤ wr.heap.size := HRf2.out.row.lt
          have hfb : some rb ≠ (Value.slice oa (R2 d).length oc).ownBlock := fun e => by have := (hown.lt _ e.symm).1; omega
          clear hfd hRl
          go_wp2_with (at_builtin; refine wpList_append_lies _ rfl _ _ 25 rfl (rb + 1) 3 i3 (.int .i64 0) 1 8 Try.underlying25 hi3 hb0 hb1 hb2 rfl (by decide) (.slice oa (R2 d).length oc) (R2 d).length _ (by first | rfl | simp) (hown.alloc _) ⟨wr.heap.size, 0, none⟩ 1 1 [.int .i64 v] rfl rfl (cell_one_new _ _ _) (fun u hu => by simp at hu; subst hu; rfl) (by decide) (by unfold maxLen; omega) (by omega) (by simp; omega) (wr.heap.size + 1) (by simp) ?_; intro g3 cap3 w3 hown3 hgrow3 hat3 hlt3; have ob3 := row_by hrow3 hgrow3 hfb; have c9 := ob3.cell (i := d) hdn; have f9 := ob3.frozen d; rw [HFD.out] at c9)
          have HRf5 : Hid (Rf w6 (w3.setCell ⟨rb, d, none⟩ (.slice (some ⟨g3, 0, none⟩) ((R2 d).length + 1) cap3)) rb n (fun y => if y = d then .slice (some ⟨g3, 0, none⟩) ((R2 d).length + 1) cap3 else f2 y) (fun y => if y = d then R2 d ++ [v] else R2 y)) :=
            (HRf2.out.more ((Grow.refl wr).alloc (.cells #[.int .i64 (v : Int)] 3))).push hdn (by simpa [natV] using hown3) (by rw [HFD.out]; exact hgrow3) (by
              rw [HFD.out]
              rcases hat3 with h | h
              · exact .inl h
              · exact .inr (by simp; omega))
          have HRi3 : Hid (Rin n adj (fun _ _ => True) v (j + 1) (fun y => if y = d then R2 d ++ [v] else R2 y)) := HRi2.out.push hvn HDX.out trivial
          clear HRf2 hown hrow3 hown3 hgrow3 hat3 hlt3 cr cdep
          go_wp2
          go_roundw
          case rel => exact ⟨j + 1, _, _, by omega, by go_num, HRf5.out, HRi3.out⟩
          case measure => simp [intOf]; omega
        · have HRi2 : Hid (Rin n adj (fun _ _ => True) (v + 1) 0 R2) := hRin.next (by omega)
          have HRf2 : Hid (Rf w6 wr rb n f2 R2) := hRf
          clear hRf hRin
          go_wp2
          go_roundw
          case rel => exact ⟨v + 1, f2, R2, by omega, by go_num, HRf2.out, HRi2.out⟩
          case measure => simp [intOf]; omega
    · have hve : v = n := by omega
      have HRin : Hid (Rin n adj (fun _ _ => True) n 0 R) := by
        show Rin n adj (fun _ _ => True) n 0 R
        rw [hve] at hRin
        exact hRin
      have HG7 : Hid (Grow w6 wr) := hRf.grow
      have HRR : Hid (Rows2 wr (some ⟨rb, 0, none⟩) n R) := hRf.rows
      have HGrR : Hid (Graph n R) := ⟨hn, fun u _ d hd => (HRin.out.sound u d hd).1, fun u _ => by have h1 := HRin.out.len u; have h2 := HPs.out; omega⟩
      clear hRf hRin hve
      go_wp2_with fail
      refine (makeLinks_any na (some ⟨rb, 0, none⟩) n n n n wr).mono ?_
      rintro e w7 ⟨rfl, hg7⟩
      have HG8 : Hid (Grow wr w7) := hg7
      clear hg7
      go_wp2_with fail
      have hR7 := HRR.out.grow HG8.out
      have hGR := HGrR.out
      refine (zzComponents_any _ _ _ _ na (some ⟨rb, 0, none⟩) n n n n R w7 hGR hR7 (Nat.le_refl _) rfl rfl rfl rfl).mono ?_
      rintro e w8 ⟨ma2, mc2, cb2, comp2, ML2, rfl, hg8, hP2, hrM2, hrC2, _⟩
      have HP2 : Hid (Parted n R comp2 ML2) := hP2
      have HG9 : Hid (Grow w6 w8) := HG7.out.trans (HG8.out.trans hg8)
      have HRC2 : Hid (w8.rowIs cb2 3 n (fun j => natV (comp2 j))) := hrC2
      have HRC1 : Hid (w8.rowIs cb 3 n (fun j => natV (comp j))) := row_by HRC.out HG9.out.grew (by simp)
      have HSm : Hid (∀ u, u < n → ∀ v, v < n → (comp u = comp v ↔ comp2 u = comp2 v)) := fun u hu v hv => same_class HP.out HP2.out HGr.out.lt HRin.out hu hv
      have hlen := same_len HP.out HP2.out HGr.out.lt HRin.out
      have HK1 : Hid (∀ u, u < n → comp u < ML.length) := fun u hu => HP.out.inK hu
      have HK2 : Hid (∀ u, u < n → comp2 u < ML.length) := fun u hu => by have := HP2.out.inK hu; rw [hlen]; exact this
      have HGA : Hid (Grow w2 w8) := HGW.out.trans HG9.out
      rw [← hlen]
      clear hP2 hg8 hrM2 hrC2 hR7 hGR HG7 HG8 HG9 HRR HGrR HRC HP2 HP HR HGr HRin HPs hlen HGW
      generalize ML.length = k at *
      have hmk := make3 k (by omega)
      have hnn : ((n : Int) != (n : Int)) = false := by simp
      have hkk : ((k : Int) != (k : Int)) = false := by simp
      have HFg0 : Hid (Fg w8 ((w8.alloc (.cells (madeCells #[.int .i64 0] k) 3)).alloc (.cells (madeCells #[.int .i64 0] k) 3)) w8.heap.size (w8.heap.size + 1) k (fun j => if j < 0 then -1 else 0) (fun j => if j < 0 then -1 else 0)) := Fg.start k (Grow.refl w8)
      go_wp2
      clear hmk hnn hkk
      generalize hfb : w8.heap.size = fb at *
      generalize hgb : fb + 1 = gb at *
      generalize hWr : (w8.alloc (.cells (madeCells #[.int .i64 0] k) 3)).alloc (.cells (madeCells #[.int .i64 0] k) 3) = W0 at *
      clear hWr hfb hgb
      go_loopw [18] (fun iv wr => ∃ c : Nat, c ≤ k ∧ iv = .int .i64 c ∧ Fg w8 wr fb gb k (fun j => if j < c then -1 else 0) (fun j => if j < c then -1 else 0)) (fun iv _ => k - (intOf iv).toNat)
      case atStart => exact ⟨0, Nat.zero_le _, rfl, HFg0.out⟩
      case round =>
        clear HFg0
        obtain ⟨c, hc, rfl, hFg⟩ := hrel
        by_cases hck : c < k
        · have hc0 : (0 : Int) ≤ (c : Int) := Int.natCast_nonneg _
          have hcI : (c : Int) < (k : Int) := by omega
          have cF := hFg.frow.cell hck
          have fF := hFg.frow.frozen c
          have hF1 := hFg.setF c (-1)
          have cG := hF1.grow2.cell hck
          have fG := hF1.grow2.frozen c
          have HF2 : Hid (Fg w8 ((wr.setCell ⟨fb, c, none⟩ (.int .i64 (-1))).setCell ⟨gb, c, none⟩ (.int .i64 (-1))) fb gb k (fun j => if j < c + 1 then -1 else 0) (fun j => if j < c + 1 then -1 else 0)) :=
            (hF1.setG c (-1)).congr (fun j _ => by
              by_cases e : j = c
              · simp [e]
              · by_cases e2 : j < c
                · simp [e2, show j < c + 1 by omega]
                · simp [e, e2, show ¬ j < c + 1 by omega]) (fun j _ => by
              by_cases e : j = c
              · simp [e]
              · by_cases e2 : j < c
                · simp [e2, show j < c + 1 by omega]
                · simp [e, e2, show ¬ j < c + 1 by omega])
          clear hFg hF1
          go_wp2
          go_roundw
          case rel => exact ⟨c + 1, by omega, by go_num, HF2.out⟩
          case measure => simp [intOf]; omega
        · have HFg1 : Hid (Fg w8 wr fb gb k (fun _ => -1) (fun _ => -1)) := hFg.congr (fun j hj => by simp [show j < c by omega]) (fun j hj => by simp [show j < c by omega])
          clear hFg
          go_wp2
          go_loopw [19, 20, 21] (fun iv av bv wr => ∃ (v : Nat) (F G : Nat → Int), v ≤ n ∧ iv = .int .i64 v ∧ Fg w8 wr fb gb k F G ∧ Mt comp comp2 v F G) (fun iv _ _ _ => n - (intOf iv).toNat)
          case atStart => exact ⟨0, _, _, Nat.zero_le _, rfl, HFg1.out, mt_start _ _⟩
          case round =>
            clear HFg1
            obtain ⟨v, F, G, hv, rfl, hFg, hMt⟩ := hrel
            by_cases hvn : v < n
            · have hv0 : (0 : Int) ≤ (v : Int) := Int.natCast_nonneg _
              have hvI : (v : Int) < (n : Int) := by omega
              have ca : wr.cell? ⟨cb, v, none⟩ = some (.int .i64 (comp v : Int)) := (row_by HRC1.out hFg.grow.grew (by simp)).cell hvn
              have cb' : wr.cell? ⟨cb2, v, none⟩ = some (.int .i64 (comp2 v : Int)) := (row_by HRC2.out hFg.grow.grew (by simp)).cell hvn
              have ha := HK1.out v hvn
              have hb := HK2.out v hvn
              have cF := hFg.frow.cell ha
              have fF := hFg.frow.frozen (comp v)
              have cG := hFg.grow2.cell hb
              have hF1 := hFg.setF (comp v) (comp2 v)
              have cG1 := hF1.grow2.cell hb
              have fG1 := hF1.grow2.frozen (comp2 v)
              have hF2 := hF1.setG (comp2 v) (comp v)
              have hcs := hMt.cases HSm.out hvn
              have HFg : Hid (Fg w8 wr fb gb k F G) := hFg
              have HF2 : Hid (Fg w8 ((wr.setCell ⟨fb, comp v, none⟩ (.int .i64 (comp2 v : Int))).setCell ⟨gb, comp2 v, none⟩ (.int .i64 (comp v : Int))) fb gb k (fun j => if j = comp v then (comp2 v : Int) else F j) (fun j => if j = comp2 v then (comp v : Int) else G j)) := hF2
              clear hFg hMt hF1 hF2
              rcases hcs with ⟨e1, e2, hM⟩ | ⟨e1, e2, hM⟩
              · have HM : Hid (Mt comp comp2 (v + 1) F G) := hM
                clear hM HF2 cG1 fG1
                rw [e1] at cF
                rw [e2] at cG
                clear e1 e2
                generalize comp v = a at *
                generalize comp2 v = b at *
                have ha0 : (0 : Int) ≤ (a : Int) := Int.natCast_nonneg _
                have haI : (a : Int) < (k : Int) := by omega
                have hb0' : (0 : Int) ≤ (b : Int) := Int.natCast_nonneg _
                have hbI : (b : Int) < (k : Int) := by omega
                have haN : ¬ ((a : Int) < 0) := by omega
                have haK : ¬ ((k : Int) ≤ (a : Int)) := by omega
                have hbN : ¬ ((b : Int) < 0) := by omega
                have hbK : ¬ ((k : Int) ≤ (b : Int)) := by omega
                have hq1 : ((b : Int) == -1) = false := by rw [beq_eq_false_iff_ne]; omega
                have hq2 : ((b : Int) != (b : Int)) = false := by simp
                have hq3 : ((a : Int) != (a : Int)) = false := by simp
                go_wp2
                go_roundw
                case rel => exact ⟨v + 1, F, G, by omega, by go_num, HFg.out, HM.out⟩
                case measure => simp [intOf]; omega
              · have HM : Hid (Mt comp comp2 (v + 1) (fun j => if j = comp v then (comp2 v : Int) else F j) (fun j => if j = comp2 v then (comp v : Int) else G j)) := hM
                clear hM HFg
                rw [e1] at cF
                rw [e2] at cG cG1
                clear e1 e2
                have ha0 : (0 : Int) ≤ (comp v : Int) := Int.natCast_nonneg _
                have haI : (comp v : Int) < (k : Int) := by omega
                have hb0' : (0 : Int) ≤ (comp2 v : Int) := Int.natCast_nonneg _
                have hbI : (comp2 v : Int) < (k : Int) := by omega
                have haN : ¬ ((comp v : Int) < 0) := by omega
                have haK : ¬ ((k : Int) ≤ (comp v : Int)) := by omega
                have hbN : ¬ ((comp2 v : Int) < 0) := by omega
                have hbK : ¬ ((k : Int) ≤ (comp2 v : Int)) := by omega
                have hq1 : ((-1 : Int) == -1) = true := by decide
                go_wp2
                go_roundw
                case rel => exact ⟨v + 1, _, _, by omega, by go_num, HF2.out, HM.out⟩
                case measure => simp [intOf]; omega
            · have HGZ : Hid (Grow w8 wr) := hFg.grow
              clear hFg hMt
              go_wp2
              go_ret
              exact ⟨rfl, HGA.out.trans HGZ.out⟩

end Go.Proofs.Qxb6601698a
