/-
  The walk of '(Graph).cycle' (36).
-/
import Derived.Test.Qxb6601698aKe
import Derived.Deep.LoopGhost
import Derived.Deep.DrawnRows
import Derived.Deep.DeepCutAuto
import Derived.Deep.QuietTactic
import Derived.BigQuiet
namespace Go.Proofs.Qxb6601698a
open Go.RowKit

theorem Res.looks {w : World} {mv : Value} {dep : ByteArray → Option (List ByteArray)} (h : Res w mv dep) {s : ByteArray} (hs : s.size ≤ maxLen) :
    ∃ a cap, Strs w a (depsOf dep s) ∧ ∀ wr, Grow w wr → (Instr.lookup 49 mv (.string s) false).run Try.prog wr = .ok (.slice a (depsOf dep s).length cap) wr ∧ (Instr.lookup 49 mv (.string s) true).run Try.prog wr = .ok (.tuple #[.slice a (depsOf dep s).length cap, .bool (dep s).isSome]) wr := by
  rcases h with ⟨rfl, h⟩ | ⟨b, n, f, rfl, h2, h3⟩
  · have hd : depsOf dep s = [] := by simp [depsOf, h s]
    rw [hd, h s]
    refine ⟨none, 0, ⟨fun _ => rfl, fun i hi => by simp at hi⟩, fun wr _ => ⟨?_, ?_⟩⟩
    · exact Maps.look_nil false keyed9 Try.underlying49 (zero23 wr) (key9 hs)
    · exact Maps.look_nil true keyed9 Try.underlying49 (zero23 wr) (key9 hs)
  · have l1 := fun wr (g : Grow w wr) => (h2.grow g).look Try.underlying49 (zero23 wr) hs
    have l2 := fun wr (g : Grow w wr) => (h2.grow g).look_ok Try.underlying49 (zero23 wr) hs
    rcases h3 s with ⟨e1, e2⟩ | ⟨l, a, cap, e1, e2, e3⟩
    · have hd : depsOf dep s = [] := by simp [depsOf, e1]
      rw [e2] at l1 l2
      rw [hd, e1]
      exact ⟨none, 0, ⟨fun _ => rfl, fun i hi => by simp at hi⟩, fun wr g => ⟨l1 wr g, l2 wr g⟩⟩
    · have hd : depsOf dep s = l := by simp [depsOf, e1]
      rw [e2] at l1 l2
      rw [hd, e1]
      exact ⟨a, cap, e3, fun wr g => ⟨l1 wr g, l2 wr g⟩⟩

/-- What '(Graph).cycle' hands back. -/
def RetCyc (w w' : World) (deps : ByteArray → List ByteArray) (N roots : List ByteArray) (e : Ending) : Prop :=
  (e = .returned (.slice none 0 0) ∧ Grow w w' ∧ ∃ D, Topo deps D ∧ (∀ s ∈ D, s ∈ N) ∧ ∀ i, i < roots.length → roots.getD i noS ∈ D) ∨
  ∃ a cap l, e = .returned (.slice (some a) l.length cap) ∧ Strs w' (some a) l ∧ Cyc deps N l ∧ Grow w w'

/-- What the loop over the roots holds. -/
structure Rts (deps : ByteArray → List ByteArray) (N roots D : List ByteArray) (k : Nat) : Prop where
  topo : Topo deps D
  dN : ∀ s ∈ D, s ∈ N
  did : ∀ i, i < k → roots.getD i noS ∈ D
theorem Rts.start (deps : ByteArray → List ByteArray) (N roots : List ByteArray) : Rts deps N roots [] 0 :=
  ⟨⟨List.nodup_nil, fun i hi => by simp at hi⟩, (fun s hs => by cases hs), fun i hi => by omega⟩
theorem Rts.step {deps : ByteArray → List ByteArray} {N roots D D2 : List ByteArray} {k : Nat} (h : Rts deps N roots D k) (ht : Topo deps D2) (hN : ∀ s ∈ D2, s ∈ N) (hs : ∀ s ∈ D, s ∈ D2) (hk : roots.getD k noS ∈ D2) : Rts deps N roots D2 (k + 1) :=
  ⟨ht, hN, fun i hi => by
    by_cases e : i = k
    · subst e; exact hk
    · exact hs _ (h.did i (by omega))⟩

/-- What the walk down from one root holds. -/
structure Walk (deps : ByteArray → List ByteArray) (N : List ByteArray) (D0 : List ByteArray) (x : ByteArray) (P : List ByteArray) (X : List Nat) (D : List ByteArray) : Prop where
  dfs : Dfs deps N P X D
  old : ∀ s ∈ D0, s ∈ D
  root : x ∈ P ∨ x ∈ D

theorem mu_pop {N P : List ByteArray} {X : List Nat} {D : List ByteArray} {s : ByteArray} {t : Nat} (ht : t ≤ 131072) : mu N P X (D ++ [s]) < mu N (P ++ [s]) (X ++ [t]) D := by
  unfold mu
  rw [muX_snoc, List.length_append, List.length_append]
  simp only [List.length_cons, List.length_nil]
  have e : N.length - (D.length + (0 + 1)) - P.length = N.length - D.length - (P.length + (0 + 1)) := by omega
  rw [e]
  omega
theorem mu_inc {N P : List ByteArray} {X : List Nat} {D : List ByteArray} {t : Nat} (ht : t < 131072) : mu N P (X ++ [t + 1]) D < mu N P (X ++ [t]) D := by
  unfold mu
  rw [muX_snoc, muX_snoc]
  omega
theorem mu_push {N P : List ByteArray} {X : List Nat} {D : List ByteArray} {d : ByteArray} {t : Nat} (hroom : D.length + (P ++ [d]).length ≤ N.length) (ht : t < 131072) : mu N (P ++ [d]) (X ++ [t + 1] ++ [0]) D < mu N P (X ++ [t]) D := by
  unfold mu
  rw [muX_snoc, muX_snoc, muX_snoc, List.length_append]
  rw [List.length_append] at hroom
  simp only [List.length_cons, List.length_nil] at *
  have e : N.length - D.length - P.length = (N.length - D.length - (P.length + (0 + 1))) + 1 := by omega
  rw [e]
  omega

set_option maxRecDepth 100000 in
set_option maxHeartbeats 8000000 in
theorem cycle_any (mv : Value) (ra : Option Addr) (roots : List ByteArray) (rd : Nat) (dep : ByteArray → Option (List ByteArray)) (N : List ByteArray) (w : World) (hR : Res w mv dep) (hmv : ∃ m, mv = .map m) (hr : Strs w ra roots) (hC : Closed (depsOf dep) N) (hrN : ∀ i, i < roots.length → roots.getD i noS ∈ N) (hrl : roots.length ≤ 1048576) :
    Calls Try.prog 36 #[.agg #[mv], .slice ra roots.length rd] w fun e w' => RetCyc w w' (depsOf dep) N roots e := by
  obtain ⟨mo, rfl⟩ := hmv
  obtain ⟨i9, hi9, ha0, ha1, ha2⟩ := info_parts info9
  obtain ⟨i3, hi3, hb0, hb1, hb2⟩ := info_parts info3
  have hNl := hC.len
  have hmm := @run_makeMap Try.prog
  have HC : Hid (Closed (depsOf dep) N) := hC
  have HR : Hid (Res w (.map mo) dep) := hR
  have HRN : Hid (∀ i, i < roots.length → roots.getD i noS ∈ N) := hrN
  have HRr : Hid (Strs w ra roots) := hr
  clear hC hR hrN hr
  go_enter Try.func36, Try.ntmps36
  go_wp2
  clear hmm
  go_loopw [20] (fun iv wr => ∃ (k : Nat) (D : List ByteArray), k ≤ roots.length ∧ iv = .int .i64 k ∧ Mo w wr (.map mo) [] D ∧ Rts (depsOf dep) N roots D k) (fun iv _ => roots.length - (intOf iv).toNat)
  case atStart => exact ⟨0, [], Nat.zero_le _, rfl, Mo.start w _, Rts.start _ _ _⟩
  case round =>
    obtain ⟨k, D, hk, rfl, hMo, hT⟩ := hrel
    by_cases hlt : k < roots.length
    · obtain ⟨rb, ro, rfl, c0⟩ := (HRr.out.grow hMo.grow).at hlt
      have hxN := HRN.out k hlt
      have hxs := HC.out.small _ hxN
      have hDl := nodup_le hT.topo.nodup hT.dN
      obtain ⟨n1, g1, hn1, hm1, hs1⟩ := hMo.on
      obtain ⟨n2, g2, hn2, hm2, hs2⟩ := hMo.dn
      have hstep := fun D2 => hT.step (D2 := D2)
      generalize hxx : roots.getD k noS = x at *
      have hxm : x.size ≤ maxLen := by unfold maxLen; omega
      have hlk := hm2.look Try.underlying74 (zero4 _) hxm
      rw [hs2 x] at hlk
      have HStep : Hid _ := hstep
      have HMo : Hid (Mo w wr (.map mo) [] D) := hMo
      have HT : Hid (Rts (depsOf dep) N roots D k) := hT
      by_cases hx : x ∈ D
      · rw [inL_true hx] at hlk
        clear hMo hT hm1 hs1 hm2 hs2 hstep hxx
        go_wp2
        go_roundw
        case rel => exact ⟨k + 1, D, by omega, by go_num, HMo.out, HStep.out D HT.out.topo HT.out.dN (fun s hs => hs) hx⟩
        case measure => simp [intOf]; omega
      · rw [inL_false hx] at hlk
        have hmB := (hm1.grow (((Grow.refl wr).alloc (.cells #[.string x] 9)).alloc (.cells #[.int .i64 0] 3)))
        obtain ⟨w2, hr2, hmB2, hgB2⟩ := hmB.put Try.underlying74 (by simp at hn1; unfold maxLen; omega) hxm (.bool true)
        have hMo2 : Mo w w2 (.map mo) [x] D := (hMo.kept (wr' := (wr.alloc (.cells #[.string x] 9)).alloc (.cells #[.int .i64 0] 3)) (((Grow.refl wr).alloc _).alloc _).grew (fun k hk => by cases hk)).put hn1 hs1 hmB2 hgB2
        have hPn2 : Pn w w2 (.slice (some ⟨wr.heap.size, 0, none⟩) 1 1) (.slice (some ⟨wr.heap.size + 1, 0, none⟩) 1 1) [x] [0] := (Pn.root hMo.sized).kept hgB2 (fun k hk => by have := Option.some.inj hk; omega)
        have hDf : Dfs (depsOf dep) N [x] [0] D := Dfs.root hT.topo hT.dN hxN hx
        have HW : Hid (Walk (depsOf dep) N D x [x] [0] D) := ⟨hDf, fun s hs => hs, .inl (by simp)⟩
        have HM2 : Hid (Mo w w2 (.map mo) [x] D ∧ Pn w w2 (.slice (some ⟨wr.heap.size, 0, none⟩) 1 1) (.slice (some ⟨wr.heap.size + 1, 0, none⟩) 1 1) [x] [0]) := ⟨hMo2, hPn2⟩
        clear hMo hT hm1 hs1 hm2 hs2 hstep hxx hmB hmB2 hgB2 hMo2 hPn2 hDf
        go_wp2
        clear hr2 hlk c0
        go_loopg [9, 10] (mu N [x] [0] D) (fun gn pv xv wr2 => ∃ (P : List ByteArray) (X : List Nat) (D2 : List ByteArray), gn = mu N P X D2 ∧ Walk (depsOf dep) N D x P X D2 ∧ Mo w wr2 (.map mo) P D2 ∧ Pn w wr2 pv xv P X)
        case atStart => exact ⟨[x], [0], D, rfl, HW.out, HM2.out.1, HM2.out.2⟩
        case round =>
          clear HW HM2 HMo
          obtain ⟨P, X, D2, rfl, hW, hMo, hPn⟩ := hrel
          rcases List.eq_nil_or_concat P with hP | ⟨P', s, hP⟩
          · subst hP
            obtain ⟨pa, pc, rfl, _⟩ := strs_own hPn.path
            have hxD : x ∈ D2 := hW.root.resolve_left (by simp)
            have HMo : Hid (Mo w wr (.map mo) [] D2) := hMo
            have HW : Hid (Walk (depsOf dep) N D x [] X D2) := hW
            clear hMo hW hPn
            go_wp2
            go_roundw
            case rel => exact ⟨k + 1, D2, by omega, by go_num, HMo.out, HStep.out D2 HW.out.dfs.topo HW.out.dfs.dN HW.out.old hxD⟩
            case measure => simp [intOf]; omega
          · rw [List.concat_eq_append] at hP
            subst hP
            obtain ⟨X', t, rfl⟩ : ∃ X' t, X = X' ++ [t] := by
              rcases List.eq_nil_or_concat X with h | ⟨X', t, h⟩
              · have := hW.dfs.len
                rw [h] at this
                simp at this
              · exact ⟨X', t, by rw [h, List.concat_eq_append]⟩
            have hXl : X'.length = P'.length := by have := hW.dfs.len; simpa using this
            have hroom := hW.dfs.room
            have hPl : P'.length < 131072 := by simp at hroom; omega
            obtain ⟨pb, pc, xb, xc, rfl, rfl, hpc, hxc, hpb, hxb, hpx, cp, cx, fx, hcells⟩ := hPn.tops
            have hsN := hW.dfs.inN s (by simp)
            have hss := HC.out.small _ hsN
            have hsm : s.size ≤ maxLen := by unfold maxLen; omega
            have hdl := HC.out.dlen _ hsN
            have htl := hW.dfs.le P'.length (by simp)
            rw [← hXl, xnew, hXl, getD_new] at htl
            obtain ⟨la, lc, hls, hlook⟩ := HR.out.looks hsm
            have hl1 := fun n => (hlook (wr.drewN n) (hMo.grow.drewN n)).1
            clear hlook
            have cb := hMo.box
            obtain ⟨n3, g3, hn3, hm3, hs3⟩ := hMo.on
            obtain ⟨n4, g4, hn4, hm4, hs4⟩ := hMo.dn
            have hDl2 := nodup_le hW.dfs.topo.nodup hW.dfs.dN
            have hn3b : n3 < 1048576 := by simp at hn3 hroom; omega
            have hn4b : n4 < 1048576 := by omega
            have HW : Hid (Walk (depsOf dep) N D x (P' ++ [s]) (X' ++ [t]) D2) := hW
            have HMo : Hid (Mo w wr (.map mo) (P' ++ [s]) D2) := hMo
            have HPn : Hid (Pn w wr (.slice (some ⟨pb, 0, none⟩) (P'.length + 1) pc) (.slice (some ⟨xb, 0, none⟩) (X'.length + 1) xc) (P' ++ [s]) (X' ++ [t])) := hPn
            have HXl : Hid (X'.length = P'.length) := hXl
            have HM3 : Hid (Mp wr (w.heap.size + 1) n3 g3 ∧ (∀ s_1, (g3 s_1).getD (.bool false) = .bool (inL (P' ++ [s]) s_1)) ∧ n3 ≤ 2 * D2.length + (P' ++ [s]).length) := ⟨hm3, hs3, hn3⟩
            have HM4 : Hid (Mp wr (w.heap.size + 2) n4 g4 ∧ (∀ s_1, (g4 s_1).getD (.bool false) = .bool (inL D2 s_1)) ∧ n4 ≤ D2.length) := ⟨hm4, hs4, hn4⟩
            rw [hXl] at cx fx hxc ⊢
            generalize hld : depsOf dep s = l at *
            have HLD : Hid (depsOf dep s = l) := hld
            have HLs : Hid (Strs w la l) := hls
            have HCells : Hid _ := hcells
            clear hW hMo hPn hXl hm3 hs3 hn3 hm4 hs4 hn4 hld hls hcells hroom hn1 hn2 hDl hDl2
            have hp0 : (0 : Int) ≤ (P'.length : Int) := Int.natCast_nonneg _
            have hp1 : (P'.length : Int) < (P'.length : Int) + 1 := by omega
            have hpcI : (P'.length : Int) ≤ (pc : Int) := by omega
            have hxcI : (P'.length : Int) ≤ (xc : Int) := by omega
            by_cases hend : t = l.length
            · have hbe : ((t : Int) == (l.length : Int)) = true := by rw [hend]; simp
              have HE : Hid _ := hend
              clear hend
              go_wp2_with fail
              go_quiet (fail)
              go_upto_region 12 with fail
              obtain ⟨v1, st1, wa, wb, e1, ga, e2, mb, gb⟩ := Mp.entry (w := (wr.drewN nq).drew) (b := w.heap.size + 1) HM3.out.1 Try.underlying74 zero4 (by unfold maxLen; omega) hsm (.bool false)
              have hm4b : Mp wb (w.heap.size + 2) n4 g4 := Mp.kept (w := (wr.drewN nq).drew) HM4.out.1 gb (fun e => by have := Option.some.inj e; omega)
              obtain ⟨v2, st2, wd, we, e3, gd, e4, me, ge⟩ := hm4b.entry Try.underlying74 zero4 (by unfold maxLen; omega) hsm (.bool true)
              have cpd : (wr.drewN nq).drew.cell? ⟨pb, P'.length, none⟩ = some (.string s) := cp
              have ca := cell_by ga cpd (fun e => by have := Option.some.inj e; omega)
              have cb' := cell_by gb cpd (fun e => by have := Option.some.inj e; omega)
              have cd := cell_by gd cb' (fun e => by have := Option.some.inj e; omega)
              refine wp_region_noPanic ?_
              refine reg12 _ (by kernel_rfl) _ _ _ _ _ _ _ _ _ _ _ _ _ _ _ _ _ _ _ _ _ _ _ _ _ _ _ _ _ _ _ _ _ _ _ _ _ _ _ _ _ _ _ _ _ _ _ _ _ _ _ _ _ _ _ _ _ _ _ _ _ _ _ _ _ _ _ _ _ _ _ _ _ _ _ _ _ _ _ _ _ _ _ _ _ _ _ _ _ _ _ _ _ _ _ _ _ _ _ _ _ _ _ _ _ _ _ _ _ _ _ _ _ _ _ _ (w.heap.size + 1) (w.heap.size + 2) pb pc P'.length st1 st2 s v1 v2 _ wa wb wd we _ (fun _ _ _ _ _ h => h) (by omega) cp e1 e2 e3 e4 ca cb' cd ?_
              intro v52 v53 v54 v55 v56 v57 v58 v59 v60 v61 v62 v63 v64 v65
              refine NoPanic.normal ?_
              obtain ⟨hD2, hsD, hsP⟩ := HW.out.dfs.pop (by rw [HLD.out]; exact HE.out)
              have hMoP : Mo w we (.map mo) P' (D2 ++ [s]) := Mo.pop (wr := (wr.drewN nq).drew) (HMo.out.kept (wr' := (wr.drewN nq).drew) (((Grow.refl wr).drewN nq).drew).grew (fun k hk => by cases hk)) hsP HM3.out.2.2 HM3.out.2.1 HM4.out.2.2 HM4.out.2.1 mb gb me ge
              have hPnP : Pn w we (.slice (some ⟨pb, 0, none⟩) P'.length pc) (.slice (some ⟨xb, 0, none⟩) P'.length xc) P' X' := by
                have h0 := ((HPn.out.kept (wr' := (wr.drewN nq).drew) (((Grow.refl wr).drewN nq).drew).grew (fun k hk => by cases hk)).kept gb (fun k hk => by have := Option.some.inj hk; omega)).kept ge (fun k hk => by have := Option.some.inj hk; omega)
                have := h0.pop
                rwa [HXl.out] at this
              have HWP : Hid (Walk (depsOf dep) N D x P' X' (D2 ++ [s])) := ⟨hD2, fun y hy => List.mem_append_left _ (HW.out.old y hy), by
                rcases HW.out.root with h | h
                · rcases List.mem_append.1 h with h | h
                  · exact .inl h
                  · simp at h; subst h; exact .inr (by simp)
                · exact .inr (List.mem_append_left _ h)⟩
              have HMoP : Hid (Mo w we (.map mo) P' (D2 ++ [s])) := hMoP
              have HPnP : Hid (Pn w we (.slice (some ⟨pb, 0, none⟩) P'.length pc) (.slice (some ⟨xb, 0, none⟩) P'.length xc) P' X') := hPnP
              clear e1 e2 e3 e4 ga gb gd ge mb me hm4b cpd ca cb' cd hD2 hsD hsP hMoP hPnP hl1 cb cp cx fx
              go_wp2_with fail
              go_quiet (fail)
              go_wp2
              go_roundg (mu N P' X' (D2 ++ [s]))
              case measure => exact mu_pop (by omega)
              case rel => exact ⟨P', X', D2 ++ [s], rfl, HWP.out, HMoP.out.kept ((Grow.refl we).drewN _).grew (fun k hk => by cases hk), HPnP.out.kept ((Grow.refl we).drewN _).grew (fun k hk => by cases hk)⟩
            · have htlt : t < l.length := by omega
              obtain ⟨lb, lo, rfl, c1⟩ := (HLs.out.grow HMo.out.grow).at htlt
              have hdN := HC.out.closed _ hsN (l.getD t noS) (by rw [HLD.out]; exact getm htlt)
              have hds := HC.out.small _ hdN
              generalize hdd : l.getD t noS = d at *
              have HDD : Hid (l.getD t noS = d) := hdd
              have hdm : d.size ≤ maxLen := by unfold maxLen; omega
              have hbe : ((t : Int) == (l.length : Int)) = false := by rw [beq_eq_false_iff_ne]; omega
              have ht0 : (0 : Int) ≤ (t : Int) := Int.natCast_nonneg _
              have htl2 : (t : Int) < (l.length : Int) := by omega
              have hlbl : lb < w.heap.size := by
                obtain ⟨b', o', h', hc'⟩ := HLs.out.at htlt
                cases h'
                exact World.block_lt_of_cell? _ _ hc'
              have hlx1 : ¬ xb = lb := by omega
              have hlx2 : ¬ lb = xb := by omega
              have hpx2 : ¬ xb = pb := fun e => hpx e.symm
              clear hend hdd
              go_wp2_with fail
              go_quiet (fail)
              obtain ⟨hinc0, hginc0⟩ := (HPn.out.kept (wr' := wr.drewN nq) ((Grow.refl wr).drewN nq).grew (fun k hk => by cases hk)).inc
              have hginc : (wr.drewN nq).grownBy ((wr.drewN nq).setCell ⟨xb, P'.length, none⟩ (.int .i64 ((t : Int) + 1))) (some xb) := by
                have := hginc0
                rw [HXl.out] at this
                exact this
              have hinc : Pn w ((wr.drewN nq).setCell ⟨xb, P'.length, none⟩ (.int .i64 ((t : Int) + 1))) (.slice (some ⟨pb, 0, none⟩) (P'.length + 1) pc) (.slice (some ⟨xb, 0, none⟩) (P'.length + 1) xc) (P' ++ [s]) (X' ++ [t + 1]) := by
                have := hinc0
                rw [HXl.out] at this
                exact this
              have hMo1 : Mo w ((wr.drewN nq).setCell ⟨xb, P'.length, none⟩ (.int .i64 ((t : Int) + 1))) (.map mo) (P' ++ [s]) D2 := (HMo.out.kept (wr' := wr.drewN nq) ((Grow.refl wr).drewN nq).grew (fun k hk => by cases hk)).kept hginc (fun k hk => by have := Option.some.inj hk; omega)
              obtain ⟨n5, g5, hn5, hm5, hs5⟩ := hMo1.on
              obtain ⟨n6, g6, hn6, hm6, hs6⟩ := hMo1.dn
              have hlk5 := hm5.look Try.underlying74 (zero4 _) hdm
              have hlk6 := hm6.look Try.underlying74 (zero4 _) hdm
              rw [hs5 d] at hlk5
              rw [hs6 d] at hlk6
              have cp1 : ∀ i, i < (P' ++ [s]).length → ((wr.drewN nq).setCell ⟨xb, P'.length, none⟩ (.int .i64 ((t : Int) + 1))).cell? ⟨pb, i, none⟩ = some (.string ((P' ++ [s]).getD i noS)) := fun i hi => cell_by (w := wr.drewN nq) hginc (HCells.out i hi) (fun e => hpx (Option.some.inj e))
              have HCp1 : Hid _ := cp1
              have HInc : Hid (Pn w ((wr.drewN nq).setCell ⟨xb, P'.length, none⟩ (.int .i64 ((t : Int) + 1))) (.slice (some ⟨pb, 0, none⟩) (P'.length + 1) pc) (.slice (some ⟨xb, 0, none⟩) (P'.length + 1) xc) (P' ++ [s]) (X' ++ [t + 1])) := hinc
              have HMo1 : Hid (Mo w ((wr.drewN nq).setCell ⟨xb, P'.length, none⟩ (.int .i64 ((t : Int) + 1))) (.map mo) (P' ++ [s]) D2) := hMo1
              have HN5 : Hid (n5 ≤ 2 * D2.length + (P' ++ [s]).length ∧ (∀ s_1, (g5 s_1).getD (.bool false) = .bool (inL (P' ++ [s]) s_1)) ∧ Mp ((wr.drewN nq).setCell ⟨xb, P'.length, none⟩ (.int .i64 ((t : Int) + 1))) (w.heap.size + 1) n5 g5) := ⟨hn5, hs5, hm5⟩
              have hn5b : n5 < 1048576 := by have := HW.out.dfs.room; simp at hn5 this; omega
              clear hinc0 hginc0 hinc hMo1 hn5 hm5 hs5 hn6 hm6 hs6 cp1 hginc
              by_cases hdP : d ∈ P' ++ [s]
              · rw [inL_true hdP] at hlk5
                clear hlk6
                obtain ⟨k0, hk0⟩ := idOf_mem hdP
                obtain ⟨hk0l, hk0d⟩ := idOf_get hk0
                have hk0l2 : k0 < P'.length + 1 := by simpa using hk0l
                have HK0 : Hid ((P' ++ [s]).getD k0 noS = d) := hk0d
                clear hk0 hk0d hk0l
                go_wp2
                clear hl1 cb cp cx fx c1 hlk5
                go_loop [91] (fun iv => ∃ i : Nat, i ≤ k0 ∧ iv = .int .i64 i) (fun iv => P'.length + 1 - (intOf iv).toNat)
                case atStart => exact ⟨0, Nat.zero_le _, rfl⟩
                case round =>
                  obtain ⟨i, hik, rfl⟩ := hrel
                  have c2 := HCp1.out i (by simp; omega)
                  generalize hyy : (P' ++ [s]).getD i noS = y at *
                  have HYY : Hid ((P' ++ [s]).getD i noS = y) := hyy
                  clear hyy
                  have hi0 : (0 : Int) ≤ (i : Int) := Int.natCast_nonneg _
                  have hi1 : (i : Int) < (P'.length : Int) + 1 := by omega
                  have hi2 : (i : Int) ≤ (P'.length : Int) + 1 := by omega
                  by_cases he : y = d
                  · have hbe2 := beqL_true he
                    have HCyc : Hid (Cyc (depsOf dep) N ((P' ++ [s]).drop i)) := HW.out.dfs.cyc (d := d) (by rw [HLD.out]; exact htlt) (by rw [HLD.out]; exact HDD.out) (by simp; omega) (by rw [HYY.out]; exact he)
                    have hdl2 : ((P' ++ [s]).drop i).length = P'.length + 1 - i := by simp
                    have hnews : ∀ j u, (((P' ++ [s]).drop i).map Value.string)[j]? = some u → (((wr.drewN nq).setCell ⟨xb, P'.length, none⟩ (.int .i64 ((t : Int) + 1))).alloc (.cells #[] 9)).cell? ((⟨pb, i, none⟩ : Addr).add j) = some u := fun j u hu => by
                      rw [List.getElem?_map, List.getElem?_drop, Option.map_eq_some_iff] at hu
                      obtain ⟨z, hz, rfl⟩ := hu
                      have hij : i + j < (P' ++ [s]).length := by
                        obtain ⟨h, _⟩ := List.getElem?_eq_some_iff.1 hz
                        exact h
                      have h1 := HCp1.out (i + j) hij
                      have e2 : (P' ++ [s]).getD (i + j) noS = z := by simp only [List.getD, hz]; rfl
                      rw [e2] at h1
                      have h2 := ((Grow.refl ((wr.drewN nq).setCell ⟨xb, P'.length, none⟩ (.int .i64 ((t : Int) + 1)))).alloc (.cells #[] 9)).cell h1
                      simpa [Addr.add_mid] using h2
                    have hone : ∀ u ∈ ((P' ++ [s]).drop i).map Value.string, u.oneCell' = true := fun u hu => by
                      obtain ⟨z, _, rfl⟩ := List.mem_map.1 hu
                      rfl
                    have hempty : (((wr.drewN nq).setCell ⟨xb, P'.length, none⟩ (.int .i64 ((t : Int) + 1))).alloc (.cells #[] 9)).ownsRow 0 9 1 (.slice (some ⟨wr.heap.size, 0, none⟩) 0 0) 0 [] := by
                      have h := World.ownsRow_made (base := 0) (e := 9) (size := 1) ((wr.drewN nq).setCell ⟨xb, P'.length, none⟩ (.int .i64 ((t : Int) + 1))) #[] 0 (Nat.zero_le _) (Nat.zero_le _) rfl
                      have e : ((wr.drewN nq).setCell ⟨xb, P'.length, none⟩ (.int .i64 ((t : Int) + 1))).heap.size = wr.heap.size := by simp [World.setCell]
                      rw [e] at h
                      exact h
                    have HG1 : Hid (Grow w ((wr.drewN nq).setCell ⟨xb, P'.length, none⟩ (.int .i64 ((t : Int) + 1)))) := HMo1.out.grow
                    clear he
                    go_wp2_with (at_builtin; refine wpList_append_lies _ rfl _ _ 23 rfl 0 9 i9 (.string ByteArray.empty) 1 16 Try.underlying23 hi9 ha0 ha1 ha2 rfl (by decide) (.slice (some ⟨wr.heap.size, 0, none⟩) 0 0) 0 [] (by rfl) hempty ⟨pb, i, none⟩ (P'.length + 1 - i) (pc - i) (((P' ++ [s]).drop i).map Value.string) (by first | rfl | simp) (by rw [List.length_map, hdl2, Nat.mul_one]) hnews hone (by omega) (by unfold maxLen; omega) (by omega) (Nat.zero_le _) (wr.heap.size + 1) (by simp [World.setCell]) ?_; intro g7 cap7 w7 hown7 hgrow7 hat7 hlt7)
                    go_ret
                    simp only [List.nil_append, Nat.zero_add] at hown7
                    rw [← hdl2] at hown7
                    obtain ⟨a7, c7, h7, hst7⟩ := strs_own hown7
                    have ea7 : a7 = some ⟨g7, 0, none⟩ := by simpa using (Value.slice.inj h7).1.symm
                    subst ea7
                    have hG7 : Grow w w7 := (HG1.out.alloc (.cells #[] 9)).grown hgrow7 (fun k hk => by
                      have e8 : wr.heap.size = k := by simpa [Value.ownBlock] using hk
                      have := HMo.out.sized
                      omega)
                    exact .inr ⟨⟨g7, 0, none⟩, cap7, (P' ++ [s]).drop i, by rw [hdl2]; simp, hst7, HCyc.out, hG7⟩
                  · have hbe2 := beqL_false he
                    have hne : i ≠ k0 := fun e => he (by rw [← HYY.out, e]; exact HK0.out)
                    clear he
                    go_wp2
                    go_round
                    case rel => exact ⟨i + 1, by omega, by go_num⟩
                    case measure => simp [intOf]; omega
              · rw [inL_false hdP] at hlk5
                by_cases hdD : d ∈ D2
                · rw [inL_true hdD] at hlk6
                  have HWs : Hid (Walk (depsOf dep) N D x (P' ++ [s]) (X' ++ [t + 1]) D2) := ⟨HW.out.dfs.skip (by rw [HLD.out]; exact htlt) (by rw [HLD.out]; exact HDD.out) hdD, HW.out.old, HW.out.root⟩
                  go_wp2
                  go_roundg (mu N (P' ++ [s]) (X' ++ [t + 1]) D2)
                  case measure => exact mu_inc (by omega)
                  case rel => exact ⟨P' ++ [s], X' ++ [t + 1], D2, rfl, HWs.out, HMo1.out, HInc.out⟩
                · rw [inL_false hdD] at hlk6
                  obtain ⟨w2, hr2, hmB2, hgB2⟩ := HN5.out.2.2.put Try.underlying74 (by unfold maxLen; omega) hdm (.bool true)
                  have hMo2 := HMo1.out.put HN5.out.1 HN5.out.2.1 hmB2 hgB2
                  have hPn2 := HInc.out.kept hgB2 (fun k hk => by have := Option.some.inj hk; omega)
                  have ownP := hPn2.path
                  have ownX := hPn2.next
                  have e1 : (P' ++ [s]).length = P'.length + 1 := by simp
                  have e2 : (X' ++ [t + 1]).length = P'.length + 1 := by simp [HXl.out]
                  rw [e1] at ownP
                  rw [e2] at ownX
                  have hxl := (ownX.lt xb rfl).2
                  have hsz2 := hMo2.sized
                  have HMo2 : Hid (Mo w w2 (.map mo) (P' ++ [s] ++ [d]) D2) := hMo2
                  have HPn2 : Hid (Pn w w2 (.slice (some ⟨pb, 0, none⟩) (P'.length + 1) pc) (.slice (some ⟨xb, 0, none⟩) (P'.length + 1) xc) (P' ++ [s]) (X' ++ [t + 1])) := hPn2
                  have hDf := HW.out.dfs.push (by rw [HLD.out]; exact htlt) (by rw [HLD.out]; exact HDD.out) hdD hdP hdN
                  have HWp : Hid (Walk (depsOf dep) N D x (P' ++ [s] ++ [d]) (X' ++ [t + 1] ++ [0]) D2) := ⟨hDf, HW.out.old, by
                    rcases HW.out.root with h | h
                    · exact .inl (List.mem_append_left _ h)
                    · exact .inr h⟩
                  clear hMo2 hPn2 hmB2 hgB2 hDf e1 e2
                  go_wp2_with (first
                    | (at_builtin; refine wpList_append_lies _ rfl _ _ 23 rfl (w.heap.size + 3) 9 i9 (.string ByteArray.empty) 1 16 Try.underlying23 hi9 ha0 ha1 ha2 rfl (by decide) (.slice (some ⟨pb, 0, none⟩) (P'.length + 1) pc) (P'.length + 1) _ (by first | rfl | simp) (ownP.alloc _) ⟨w2.heap.size, 0, none⟩ 1 1 [.string d] rfl rfl (cell_one_new _ _ _) (oneS d) (by decide) (by unfold maxLen; omega) (by omega) (by simp; omega) (w2.heap.size + 1) (by simp) ?_; intro g3' cap3 w3 hown3 hgrow3 hat3 hlt3; have ownX3 := (ownX.alloc (.cells #[.string d] 9)).kept hgrow3 (.inr (fun e => hpx2 (Option.some.inj e))); have hsz3 := hgrow3.size)
                    | (at_builtin; refine wpList_append_lies _ rfl _ _ 25 rfl (w.heap.size + 3) 3 i3 (.int .i64 0) 1 8 Try.underlying25 hi3 hb0 hb1 hb2 rfl (by decide) (.slice (some ⟨xb, 0, none⟩) (P'.length + 1) xc) (P'.length + 1) _ (by first | rfl | simp) (ownX3.alloc _) ⟨w3.heap.size, 0, none⟩ 1 1 [.int .i64 0] rfl rfl (cell_one_new _ _ _) (fun u hu => by simp at hu; subst hu; rfl) (by decide) (by unfold maxLen; omega) (by omega) (by simp at hsz3 ⊢; omega) (w3.heap.size + 1) (by simp) ?_; intro g5' cap5 w5 hown5 hgrow5 hat5 hlt5))
                  go_roundg (mu N (P' ++ [s] ++ [d]) (X' ++ [t + 1] ++ [0]) D2)
                  case measure => exact mu_push HWp.out.dfs.room (by omega)
                  case rel =>
                    refine ⟨P' ++ [s] ++ [d], X' ++ [t + 1] ++ [0], D2, rfl, HWp.out, ?_, ?_⟩
                    · refine Mo.kept (Mo.kept (Mo.kept (Mo.kept HMo2.out (World.grownBy_alloc w2 _ none) (fun k hk => by cases hk)) hgrow3 (fun k hk => ?_)) (World.grownBy_alloc w3 _ none) (fun k hk => by cases hk)) hgrow5 (fun k hk => ?_)
                      · have e8 : pb = k := by simpa [Value.ownBlock] using hk
                        omega
                      · have e8 : xb = k := by simpa [Value.ownBlock] using hk
                        omega
                    · refine HPn2.out.push (o := .cells #[.string d] 9) (o' := .cells #[.int .i64 0] 3) (w3 := w3) ?_ hgrow3 ?_ hgrow5 (fun g hg => ?_) (fun g hg => ?_) (fun g hg => ?_)
                      · have e9 : (P' ++ [s]).length = P'.length + 1 := by simp
                        rw [e9]; exact hown3
                      · have e9 : (X' ++ [t + 1]).length = P'.length + 1 := by simp [HXl.out]
                        rw [e9]; exact hown5
                      · have e8 : g3' = g := by simpa [Value.ownBlock] using hg
                        subst e8
                        rcases hat3 with h | h
                        · exact .inl h
                        · exact .inr (by omega)
                      · have e8 : g5' = g := by simpa [Value.ownBlock] using hg
                        subst e8
                        rcases hat5 with h | h
                        · exact .inl h
                        · exact .inr (by omega)
                      · have e8 : xb = g := by simpa [Value.ownBlock] using hg
                        omega
    · obtain rfl : k = roots.length := by omega
      have HMo : Hid (Mo w wr (.map mo) [] D) := hMo
      have HT : Hid (Rts (depsOf dep) N roots D roots.length) := hT
      clear hMo hT
      go_wp2
      go_ret
      exact .inl ⟨rfl, HMo.out.grow, D, HT.out.topo, HT.out.dN, HT.out.did⟩

end Go.Proofs.Qxb6601698a
