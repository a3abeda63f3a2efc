/-
  The walk of zzB1Acyclic (29).
-/
import Derived.Test.Qxb6601698aKd
import Derived.Test.Qxb6601698aGb
namespace Go.Proofs.Qxb6601698a
open Go.RowKit

theorem tally_le' {adj : Nat → List Nat} {R : List Nat} {u L : Nat} : ∀ n, (∀ w, w < n → (adj w).length ≤ L) → tally adj R u n ≤ n * L
  | 0, _ => by simp [tally]
  | n + 1, h => by
    have ih := tally_le' (R := R) (u := u) n (fun w hw => h w (by omega))
    have h1 := h n (by omega)
    have h2 := List.count_le_length (a := u) (l := adj n)
    have e : (n + 1) * L = n * L + L := Nat.succ_mul n L
    unfold tally
    rw [e]
    split <;> omega
theorem tally_next {adj : Nat → List Nat} {u n : Nat} : tally adj [] u (n + 1) = tally adj [] u n + (adj n).count u := by
  conv => lhs; unfold tally
  simp

def natV (x : Nat) : Value := .int .i64 x

/-- The memory of Kahn's algorithm. -/
structure Am (w wr : World) (n : Nat) (g : Nat → Nat) (qv : Value) (Q : List Nat) : Prop where
  grow : Grow w wr
  row : wr.rowIs w.heap.size 3 n (fun j => .int .i64 (g j))
  own : wr.ownsRow (w.heap.size + 1) 3 1 qv Q.length (Q.map natV)
theorem Am.start (w : World) (n : Nat) : Am w (w.alloc (.cells (madeCells #[.int .i64 0] n) 3)) n (fun _ => 0) (.slice none 0 0) [] :=
  ⟨(Grow.refl w).alloc _, World.rowIs_made w _ _ _, rfl, .inl ⟨rfl, rfl⟩⟩
theorem Am.ne {w wr : World} {n : Nat} {g : Nat → Nat} {qv : Value} {Q : List Nat} (h : Am w wr n g qv Q) : qv.ownBlock ≠ some w.heap.size := fun e => by
  have := (h.own.lt _ e).1
  omega
theorem Am.set {w wr : World} {n : Nat} {g : Nat → Nat} {qv : Value} {Q : List Nat} (h : Am w wr n g qv Q) (u x : Nat) : Am w (wr.setCell ⟨w.heap.size, u, none⟩ (.int .i64 x)) n (fun y => if y = u then x else g y) qv Q := by
  refine ⟨h.grow.setCell (Nat.le_refl _) _, (h.row.set u _).congr (fun j _ => ?_), ownsRow_setCell_other h.own h.ne _⟩
  by_cases e : j = u
  · simp [e]
  · simp [e]
theorem Am.push {w wr w3 : World} {n : Nat} {g : Nat → Nat} {qv v' : Value} {Q : List Nat} {o : Obj} {u : Nat} (h : Am w wr n g qv Q) (hown3 : w3.ownsRow (w.heap.size + 1) 3 1 v' (Q.length + 1) (Q.map natV ++ [.int .i64 u])) (hg3 : (wr.alloc o).grownBy w3 qv.ownBlock) : Am w w3 n g v' (Q ++ [u]) := by
  refine ⟨(h.grow.alloc o).grown hg3 (fun k hk => by have := (h.own.lt k hk).1; omega), ?_, by simpa [natV] using hown3⟩
  have h1 := h.row.alloc o
  exact h1.of_block (hg3.block _ h1.lt (fun e => h.ne e.symm))
theorem Am.pop {w wr : World} {n : Nat} {g : Nat → Nat} {b cap : Nat} {Q : List Nat} {v : Nat} (h : Am w wr n g (.slice (some ⟨b, 0, none⟩) (Q.length + 1) cap) (Q ++ [v])) : Am w wr n g (.slice (some ⟨b, 0, none⟩) Q.length cap) Q := by
  have h1 := h.own
  simp only [List.length_append, List.length_cons, List.length_nil, Nat.zero_add, List.map_append] at h1
  exact ⟨h.grow, h.row, ownsRow_pop (by simp) h1⟩
theorem nats_own {w : World} {v : Value} {xs : List Nat} {base : Nat} (h : w.ownsRow base 3 1 v xs.length (xs.map natV)) : ∃ a cap, v = .slice a xs.length cap ∧ ∀ i, i < xs.length → ∃ g, a = some ⟨g, 0, none⟩ ∧ w.cell? ⟨g, i, none⟩ = some (.int .i64 (xs.getD i 0)) ∧ w.frozen? ⟨g, i, none⟩ = false := by
  rcases h.2 with ⟨rfl, h0⟩ | ⟨g, cap, cur, rfl, _, hg, _, _, _, ht⟩
  · obtain rfl := List.eq_nil_of_length_eq_zero h0
    exact ⟨none, 0, rfl, fun i hi => by simp at hi⟩
  · refine ⟨_, cap, rfl, fun i hi => ⟨g, rfl, ?_, by simp [World.frozen?, hg]⟩⟩
    have h1 : (xs.map natV)[i]? = some (.int .i64 (xs.getD i 0)) := by simp [hi, List.getD, natV]
    rw [← ht, List.getElem?_take, if_pos (by omega)] at h1
    simp only [World.cell?, hg]
    simpa using h1

theorem info3 : (Try.prog.info? 3).map (fun i => (i.zero, i.size, i.bytes)) = some (some (.int .i64 0), 1, 8) := by kernel_rfl
theorem make3 (n : Nat) (hn : n ≤ 1048576) (w : World) :
    (Instr.makeSlice 25 (.int .i64 (n : Int)) (.int .i64 (n : Int))).run Try.prog w = .ok (.slice (some ⟨w.heap.size, 0, none⟩) n n) (w.alloc (.cells (madeCells #[.int .i64 0] n) 3)) :=
  run_make_row' 25 3 _ 8 Try.underlying25 info3 rfl .i64 .i64 n (by omega) (by omega) w

theorem adj_at {deps : ByteArray → List ByteArray} {N : List ByteArray} (hC : Closed deps N) {q j : Nat} (hq : q < N.length) (hj : j < (deps (N.getD q noS)).length) :
    ∃ u, u < N.length ∧ idF N ((deps (N.getD q noS)).getD j noS) = some (.int .i64 u) ∧ (adjOf deps N q)[j]? = some u ∧ ((deps (N.getD q noS)).getD j noS).size ≤ 1048576 := by
  have hd := hC.closed _ (getm hq) _ (getm hj)
  unfold adjOf
  generalize deps (N.getD q noS) = L at *
  have e : L[j]? = some (L.getD j noS) := by simp [List.getD, hj]
  rw [List.getElem?_map, e]
  generalize L.getD j noS = y at *
  obtain ⟨u, hu⟩ := idOf_mem hd
  exact ⟨u, (idOf_get hu).1, by unfold idF; rw [hu]; rfl, by rw [Option.map_some, hu]; rfl, hC.small _ hd⟩
theorem adj_len (deps : ByteArray → List ByteArray) (N : List ByteArray) (q : Nat) : (adjOf deps N q).length = (deps (N.getD q noS)).length := by simp [adjOf]
theorem count_take {l : List Nat} {j u v : Nat} (h : l[j]? = some u) : (l.take (j + 1)).count v = (l.take j).count v + if v = u then 1 else 0 := by
  rw [List.take_add_one, h, List.count_append]
  by_cases e : v = u
  · simp [e]
  · have : ¬ u = v := fun h => e h.symm
    simp [e, this]
theorem drop_cons {l : List Nat} {j u : Nat} (h : l[j]? = some u) : l.drop j = u :: l.drop (j + 1) := by
  obtain ⟨hj, e⟩ := List.getElem?_eq_some_iff.1 h
  rw [List.drop_eq_getElem_cons hj, e]

theorem Kahn.qlen {n : Nat} {adj : Nat → List Nat} {R ex : List Nat} {g : Nat → Nat} {Q : List Nat} (h : Kahn n adj R ex g Q) : Q.length ≤ n := by
  have : (R ++ Q).length ≤ (List.range n).length := nodup_len h.nodup (fun u hu => by simpa using h.lt u hu)
  simp at this
  omega

theorem own_cap {w : World} {base : Nat} {e : TypeId} {size g n m cap : Nat} {xs : List Value} (h : w.ownsRow base e size (.slice (some ⟨g, 0, none⟩) n cap) m xs) : n ≤ cap := by
  rcases h.2 with ⟨h0, _⟩ | ⟨g', cap', cur, hv, _, _, hn, _⟩
  · cases h0
  · cases hv; exact hn

/-- What zzB1Acyclic answers. -/
def RetAcy (w w' : World) (deps : ByteArray → List ByteArray) (N : List ByteArray) (e : Ending) : Prop := ∃ R, Taken N.length (adjOf deps N) R ∧ e = .returned (.bool (decide (R.length = N.length))) ∧ Grow w w'

set_option maxRecDepth 100000 in
set_option maxHeartbeats 8000000 in
theorem acyclic_any (mv : Value) (na : Option Addr) (N : List ByteArray) (nc mb mk : Nat) (dep : ByteArray → Option (List ByteArray)) (w : World) (hR : Res w mv dep) (hmv : ∃ m, mv = .map m) (hN : Strs w na N) (hI : Mp w mb mk (idF N)) (hC : Closed (depsOf dep) N) :
    Calls Try.prog 29 #[mv, .slice na N.length nc, .map (some mb)] w fun e w' => RetAcy w w' (depsOf dep) N e := by
  obtain ⟨mo, rfl⟩ := hmv
  obtain ⟨i0, hi, hz0, hz1, hz2⟩ := info_parts info3
  have hNl := hC.len
  have hmk := make3 N.length (by omega)
  have HC : Hid (Closed (depsOf dep) N) := hC
  have HR : Hid (Res w (.map mo) dep) := hR
  have HN : Hid (Strs w na N) := hN
  have HI : Hid (Mp w mb mk (idF N)) := hI
  clear hC hR hN hI
  go_enter Try.func29, Try.ntmps29
  go_wp2
  clear hmk
  go_loopw [9, 10, 11] (fun qv _ _ wr => ∃ (q : Nat) (g : Nat → Nat), q ≤ N.length ∧ qv = .int .i64 q ∧ Am w wr N.length g (.slice none 0 0) [] ∧ ∀ u, u < N.length → g u = tally (adjOf (depsOf dep) N) [] u q) (fun qv _ _ _ => N.length - (intOf qv).toNat)
  case atStart => exact ⟨0, fun _ => 0, Nat.zero_le _, rfl, Am.start w N.length, fun u _ => rfl⟩
  case round =>
    obtain ⟨q, g, hq, rfl, hA, hg⟩ := hrel
    by_cases hlt : q < N.length
    · obtain ⟨b, o, rfl, c0⟩ := (HN.out.grow hA.grow).at hlt
      have hsm := HC.out.small _ (getm hlt)
      have hxm : (N.getD q noS).size ≤ maxLen := by unfold maxLen; omega
      obtain ⟨la, lc, hl1, _, hls⟩ := HR.out.look hA.grow hxm
      have hdl := HC.out.dlen _ (getm hlt)
      generalize hxq : N.getD q noS = x at *
      generalize hld : depsOf dep x = l at *
      have HXQ : Hid (N.getD q noS = x) := hxq
      have HLD : Hid (depsOf dep x = l) := hld
      have HLs : Hid (Strs w la l) := hls
      have HA : Hid (Am w wr N.length g (.slice none 0 0) []) := hA
      have Hg : Hid _ := hg
      clear hA hg hls hxq hld
      go_wp2
      clear hl1 c0
      go_loopw [11] (fun jv wr2 => ∃ (j : Nat) (g2 : Nat → Nat), j ≤ l.length ∧ jv = .int .i64 j ∧ Am w wr2 N.length g2 (.slice none 0 0) [] ∧ ∀ u, u < N.length → g2 u = tally (adjOf (depsOf dep) N) [] u q + ((adjOf (depsOf dep) N q).take j).count u) (fun jv _ => l.length - (intOf jv).toNat)
      case atStart => exact ⟨0, g, Nat.zero_le _, rfl, HA.out, fun u hu => by rw [Hg.out u hu]; simp⟩
      case round =>
        clear HA Hg
        obtain ⟨j, g2, hj, rfl, hA, hg⟩ := hrel
        by_cases hltj : j < l.length
        · obtain ⟨b2, o2, rfl, c1⟩ := (HLs.out.grow hA.grow).at hltj
          obtain ⟨u, hu, hid, hadj, hsz⟩ := adj_at HC.out hlt (j := j) (by rw [HXQ.out, HLD.out]; exact hltj)
          rw [HXQ.out, HLD.out] at hid hsz
          have hlk := (HI.out.grow hA.grow).look Try.underlying22 (zero3 _) (s := l.getD j noS) (by unfold maxLen; omega)
          rw [hid] at hlk
          simp only [Option.getD_some] at hlk
          have r0 := hA.row.cell hu
          have f0 := hA.row.frozen u
          have hgu := hg u hu
          have hb1 := tally_le' (adj := adjOf (depsOf dep) N) (R := []) (u := u) (L := 131072) q (fun w hw => by rw [adj_len]; exact HC.out.dlen _ (getm (by omega)))
          have hb2 : ((adjOf (depsOf dep) N q).take j).count u ≤ j := Nat.le_trans List.count_le_length (by simp; omega)
          have hgb : g2 u ≤ 17179869184 + 131072 := by omega
          have hstep : ∀ v, v < N.length → (if v = u then g2 u + 1 else g2 v) = tally (adjOf (depsOf dep) N) [] v q + ((adjOf (depsOf dep) N q).take (j + 1)).count v := fun v hv => by
            rw [count_take hadj]
            by_cases e : v = u
            · subst e; simp [hg v hv]; omega
            · simp [e, hg v hv]
          have HStep : Hid _ := hstep
          have HA2 : Hid (Am w wr N.length g2 (.slice none 0 0) []) := hA
          generalize hgg : g2 u = gu at *
          have HGG : Hid (g2 u = gu) := hgg
          clear hA hg hid hadj hsz hgu hb1 hb2 hstep hgg
          generalize l.getD j noS = dn at *
          have hu0 : (0 : Int) ≤ (u : Int) := Int.natCast_nonneg _
          have huN : (u : Int) < (N.length : Int) := by omega
          go_wp2
          go_roundw
          case rel => exact ⟨j + 1, fun y => if y = u then gu + 1 else g2 y, by omega, by go_num, HA2.out.set u (gu + 1), HStep.out⟩
          case measure => simp [intOf]; omega
        · obtain rfl : j = l.length := by omega
          have hfin : ∀ u, u < N.length → g2 u = tally (adjOf (depsOf dep) N) [] u (q + 1) := fun u hu => by
            rw [hg u hu, tally_next, List.take_of_length_le (by rw [adj_len, HXQ.out, HLD.out]; exact Nat.le_refl _)]
          have HFin : Hid _ := hfin
          have HA2 : Hid (Am w wr N.length g2 (.slice none 0 0) []) := hA
          clear hA hg hfin
          go_wp2
          go_roundw
          case rel => exact ⟨q + 1, g2, by omega, by go_num, HA2.out, HFin.out⟩
          case measure => simp [intOf]; omega
    · obtain rfl : q = N.length := by omega
      have HA : Hid (Am w wr N.length g (.slice none 0 0) []) := hA
      have Hg : Hid (∀ u, u < N.length → g u = tally (adjOf (depsOf dep) N) [] u N.length) := hg
      clear hA hg
      go_wp2
      clear hq hlt
      go_loopw [12, 13] (fun qv iv wr => ∃ (k : Nat) (Q : List Nat), k ≤ N.length ∧ iv = .int .i64 k ∧ Am w wr N.length g qv Q ∧ Q.Nodup ∧ (∀ u, u ∈ Q ↔ u < k ∧ g u = 0) ∧ Q.length ≤ k) (fun _ iv _ => N.length - (intOf iv).toNat)
      case atStart => exact ⟨0, [], Nat.zero_le _, rfl, HA.out, List.nodup_nil, fun u => by simp, Nat.le_refl _⟩
      case round =>
        clear HA
        obtain ⟨k, Q, hk, rfl, hA, hQn, hQm, hQl⟩ := hrel
        obtain ⟨qa, qc, rfl, hqs⟩ := nats_own hA.own
        by_cases hlt : k < N.length
        · have r0 := hA.row.cell hlt
          have HA2 : Hid (Am w wr N.length g (.slice qa Q.length qc) Q) := hA
          have own1 := hA.own
          have hszw : w.heap.size + 1 ≤ wr.heap.size := hA.row.lt
          have HQ : Hid (Q.Nodup ∧ (∀ u, u ∈ Q ↔ u < k ∧ g u = 0)) := ⟨hQn, hQm⟩
          generalize hgk : g k = gk0 at *
          have HGK : Hid (g k = gk0) := hgk
          clear hA hqs hQn hQm hgk
          by_cases hz : gk0 = 0
          · have hzb : ((gk0 : Int) == 0) = true := by rw [hz]; rfl
            have HZ : Hid _ := hz
            clear hz
            go_wp2_with (at_builtin; refine wpList_append_own _ rfl _ _ 25 rfl (w.heap.size + 1) 3 i0 (.int .i64 0) 1 8 Try.underlying25 hi hz0 hz1 hz2 rfl (by decide) _ _ _ rfl (own1.alloc _) ⟨wr.heap.size, 0, none⟩ 1 1 [.int .i64 k] rfl rfl (cell_one_new _ _ _) (fun u hu => by simp at hu; subst hu; rfl) (by unfold maxLen; omega) (by omega) (by simp; omega) ?_; intro v' w3 hown3 hgrow3 _)
            go_roundw
            case rel =>
              refine ⟨k + 1, Q ++ [k], by omega, by go_num, HA2.out.push (by assumption) (by assumption), ?_, fun u => ?_, by simp; omega⟩
              · rw [List.nodup_append]
                exact ⟨HQ.out.1, by simp, fun a ha b hb => by
                  simp at hb; subst hb
                  have := ((HQ.out.2 a).1 ha).1
                  omega⟩
              · rw [List.mem_append, HQ.out.2 u]
                by_cases e : u = k
                · subst e; simp [HGK.out, HZ.out]
                · simp [e]; intro _; omega
            case measure => simp [intOf]; omega
          · have hzb : ((gk0 : Int) == 0) = false := by rw [beq_eq_false_iff_ne]; omega
            have HZ : Hid _ := hz
            clear hz
            go_wp2
            go_roundw
            case rel =>
              refine ⟨k + 1, Q, by omega, by go_num, HA2.out, HQ.out.1, fun u => ?_, by omega⟩
              rw [HQ.out.2 u]
              by_cases e : u = k
              · subst e
                constructor
                · intro h; omega
                · intro h; exact absurd (HGK.out.symm.trans h.2) HZ.out
              · omega
            case measure => simp [intOf]; omega
        · obtain rfl : k = N.length := by omega
          have hK : Kahn N.length (adjOf (depsOf dep) N) [] [] g Q := ⟨by simpa using hQn, fun u hu => ((hQm u).1 (by simpa using hu)).1, fun u hu => by rw [Hg.out u hu]; rfl, fun u hu => by rw [List.nil_append, hQm u]; simp [hu], fun i hi => by simp at hi⟩
          have HK : Hid (Kahn N.length (adjOf (depsOf dep) N) [] [] g Q) := hK
          have HA2 : Hid (Am w wr N.length g (.slice qa Q.length qc) Q) := hA
          clear hA hqs hQn hQm hK
          go_wp2
          clear hk hlt Hg
          go_loopw [12, 14, 15, 16, 17, 18] (fun qv rv _ _ _ _ wr => ∃ (R : List Nat) (Q : List Nat) (g : Nat → Nat), rv = .int .i64 R.length ∧ Kahn N.length (adjOf (depsOf dep) N) R [] g Q ∧ Am w wr N.length g qv Q ∧ R.length ≤ N.length) (fun _ rv _ _ _ _ _ => N.length - (intOf rv).toNat)
          case atStart => exact ⟨[], Q, g, rfl, HK.out, HA2.out, Nat.zero_le _⟩
          case round =>
            clear HK HA2
            obtain ⟨R, Q, g, rfl, hK, hA, hRl⟩ := hrel
            rcases List.eq_nil_or_concat Q with hQ | ⟨Q', v, hQ⟩
            · subst hQ
              obtain ⟨qa, qc, rfl, _⟩ := nats_own hA.own
              have hT := hK.done
              have HT : Hid (Taken N.length (adjOf (depsOf dep) N) R) := hT
              have HG : Hid (Grow w wr) := hA.grow
              clear hK hA hT
              go_wp2
              go_ret
              refine ⟨R, HT.out, ?_, HG.out⟩
              have hdec : ((R.length : Int) == (N.length : Int)) = decide (R.length = N.length) := by
                by_cases h : R.length = N.length
                · simp [h]
                · rw [decide_eq_false h, beq_eq_false_iff_ne]
                  omega
              rw [← hdec]
              rfl
            · rw [List.concat_eq_append] at hQ
              subst hQ
              obtain ⟨hK2, hv, hRn⟩ := hK.take
              have hQl := hK2.qlen
              obtain ⟨qb, qc, rfl, _, _⟩ := hA.own.form (by simp)
              obtain ⟨qa', qc', hqe, hqs⟩ := nats_own hA.own
              obtain ⟨qb', hqb', hqc, _⟩ := hqs Q'.length (by simp)
              have e1 : qa' = some ⟨qb, 0, none⟩ := by simpa using (Value.slice.inj hqe).1.symm
              rw [e1] at hqb'
              have e2 : qb' = qb := by simpa using hqb'.symm
              rw [e2, nget_new] at hqc
              have hlenQ : (Q' ++ [v]).length = Q'.length + 1 := by simp
              rw [hlenQ] at hA ⊢
              have hAp := hA.pop
              have hcap : Q'.length + 1 ≤ qc := own_cap hA.own
              have hcapI : (Q'.length : Int) ≤ (qc : Int) := by omega
              have hszw := hA.row.lt
              obtain ⟨b, o, rfl, c0⟩ := (HN.out.grow hA.grow).at hv
              have hsm := HC.out.small _ (getm hv)
              have hxm : (N.getD v noS).size ≤ maxLen := by unfold maxLen; omega
              obtain ⟨la, lc, hl1, _, hls⟩ := HR.out.look hA.grow hxm
              have hdl := HC.out.dlen _ (getm hv)
              generalize hxq : N.getD v noS = x at *
              generalize hld : depsOf dep x = l at *
              have HXQ : Hid (N.getD v noS = x) := hxq
              have HLD : Hid (depsOf dep x = l) := hld
              have HLs : Hid (Strs w la l) := hls
              have HAp : Hid (Am w wr N.length g (.slice (some ⟨qb, 0, none⟩) Q'.length qc) Q') := hAp
              have HK2 : Hid (Kahn N.length (adjOf (depsOf dep) N) (R ++ [v]) (adjOf (depsOf dep) N v) g Q') := hK2
              clear hA hK hls hxq hld hAp hK2 hqe hqs hqb' e1 e2 hlenQ
              have hv0 : (0 : Int) ≤ (v : Int) := Int.natCast_nonneg _
              have hvN : (v : Int) < (N.length : Int) := by omega
              go_wp2
              clear hl1 c0 hqc hcap hcapI
              go_loopw [12, 17, 18] (fun qv jv _ wr2 => ∃ (j : Nat) (Q2 : List Nat) (g2 : Nat → Nat), j ≤ l.length ∧ jv = .int .i64 j ∧ Kahn N.length (adjOf (depsOf dep) N) (R ++ [v]) ((adjOf (depsOf dep) N v).drop j) g2 Q2 ∧ Am w wr2 N.length g2 qv Q2) (fun _ jv _ _ => l.length - (intOf jv).toNat)
              case atStart => exact ⟨0, Q', g, Nat.zero_le _, rfl, HK2.out, HAp.out⟩
              case round =>
                clear HK2 HAp
                obtain ⟨j, Q2, g2, hj, rfl, hK, hA⟩ := hrel
                obtain ⟨qa, qc, rfl, _⟩ := nats_own hA.own
                have hQl2 := hK.qlen
                by_cases hltj : j < l.length
                · obtain ⟨b2, o2, rfl, c1⟩ := (HLs.out.grow hA.grow).at hltj
                  obtain ⟨u, hu, hid, hadj, hsz⟩ := adj_at HC.out hv (j := j) (by rw [HXQ.out, HLD.out]; exact hltj)
                  rw [HXQ.out, HLD.out] at hid hsz
                  have hlk := (HI.out.grow hA.grow).look Try.underlying22 (zero3 _) (s := l.getD j noS) (by unfold maxLen; omega)
                  rw [hid] at hlk
                  simp only [Option.getD_some] at hlk
                  have r0 := hA.row.cell hu
                  have f0 := hA.row.frozen u
                  rw [drop_cons hadj] at hK
                  obtain ⟨hpos, hno, hyes⟩ := hK.strike hu
                  have hgu := hK.deg u hu
                  have hb1 := tally_le' (adj := adjOf (depsOf dep) N) (R := R ++ [v]) (u := u) (L := 131072) N.length (fun w hw => by rw [adj_len]; exact HC.out.dlen _ (getm hw))
                  have hb2 : (u :: (adjOf (depsOf dep) N v).drop (j + 1)).count u ≤ 131073 := Nat.le_trans List.count_le_length (by rw [List.length_cons, List.length_drop, adj_len, HXQ.out, HLD.out]; omega)
                  have hgb : g2 u ≤ 17179869184 + 131073 := by omega
                  have HA2 : Hid (Am w wr N.length g2 (.slice qa Q2.length qc) Q2) := hA
                  have hszw : w.heap.size + 1 ≤ wr.heap.size := hA.row.lt
                  have own1 := (hA.set u (g2 u - 1)).own
                  have hset := hA.set u (g2 u - 1)
                  generalize hgg : g2 u = gu at *
                  have HGG : Hid (g2 u = gu) := hgg
                  have HNo : Hid _ := hno
                  have HYes : Hid _ := hyes
                  have HSet : Hid (Am w (wr.setCell ⟨w.heap.size, u, none⟩ (.int .i64 ((gu - 1 : Nat) : Int))) N.length (fun y => if y = u then gu - 1 else g2 y) (.slice qa Q2.length qc) Q2) := hset
                  clear hA hK hid hadj hsz hgu hb1 hb2 hno hyes hset hgg
                  generalize l.getD j noS = dn at *
                  obtain ⟨gp, rfl⟩ : ∃ p, gu = p + 1 := ⟨gu - 1, by omega⟩
                  simp only [Nat.add_sub_cancel] at own1 HSet HNo HYes
                  have hu0 : (0 : Int) ≤ (u : Int) := Int.natCast_nonneg _
                  have huN : (u : Int) < (N.length : Int) := by omega
                  have hcast : ((gp + 1 : Nat) : Int) - 1 = (gp : Int) := by omega
                  by_cases hz : gp = 0
                  · have HZ : Hid _ := hz
                    have hzb : ((gp : Int) == 0) = true := by rw [hz]; rfl
                    clear hz
                    go_wp2_with (at_builtin; refine wpList_append_own _ rfl _ _ 25 rfl (w.heap.size + 1) 3 i0 (.int .i64 0) 1 8 Try.underlying25 hi hz0 hz1 hz2 rfl (by decide) _ _ _ rfl (own1.alloc _) ⟨wr.heap.size, 0, none⟩ 1 1 [.int .i64 u] rfl rfl (by simpa [World.setCell] using cell_one_new (wr.setCell ⟨w.heap.size, u, none⟩ (.int .i64 (gp : Int))) _ _) (fun u hu => by simp at hu; subst hu; rfl) (by unfold maxLen; omega) (by omega) (by simp [World.setCell]; omega) ?_; intro v' w3 hown3 hgrow3 _)
                    go_roundw
                    case rel => exact ⟨j + 1, Q2 ++ [u], _, by omega, by go_num, HYes.out (by rw [HZ.out]), HSet.out.push (by assumption) (by assumption)⟩
                    case measure => simp [intOf]; omega
                  · have hzb : ((gp : Int) == 0) = false := by rw [beq_eq_false_iff_ne]; omega
                    have HZ : Hid _ := hz
                    clear hz
                    go_wp2
                    go_roundw
                    case rel => exact ⟨j + 1, Q2, _, by omega, by go_num, HNo.out (fun e => HZ.out (by omega)), HSet.out⟩
                    case measure => simp [intOf]; omega
                · obtain rfl : j = l.length := by omega
                  have hdr : (adjOf (depsOf dep) N v).drop l.length = [] := List.drop_eq_nil_of_le (by rw [adj_len, HXQ.out, HLD.out]; exact Nat.le_refl _)
                  rw [hdr] at hK
                  have HK2 : Hid (Kahn N.length (adjOf (depsOf dep) N) (R ++ [v]) [] g2 Q2) := hK
                  have HA2 : Hid (Am w wr N.length g2 (.slice qa Q2.length qc) Q2) := hA
                  clear hK hA hdr
                  go_wp2
                  go_roundw
                  case rel => exact ⟨R ++ [v], Q2, g2, by simp, HK2.out, HA2.out, by simp; omega⟩
                  case measure => simp [intOf]; omega

end Go.Proofs.Qxb6601698a
