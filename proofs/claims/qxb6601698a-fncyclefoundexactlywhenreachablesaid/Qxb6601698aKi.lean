/-
  zzB1CopyReached (27), api.ZZCycle (28).
-/
import Derived.Test.Qxb6601698aKh
import Derived.Deep.RegionHeld3
namespace Go.Proofs.Qxb6601698a
open Go.RowKit

/-- The map's entries that the first q names name. -/
def depq (dep : ByteArray → Option (List ByteArray)) (N : List ByteArray) (q : Nat) (s : ByteArray) : Option (List ByteArray) := if inL (N.take q) s then dep s else none

/-- What the copy holds when q names are done. -/
structure Cop (w wr : World) (dep : ByteArray → Option (List ByteArray)) (N : List ByteArray) (q : Nat) : Prop where
  grow : Grow w wr
  map : ∃ n f, n ≤ q ∧ Mp wr w.heap.size n f ∧ ∀ s, (depq dep N q s = none ∧ f s = none) ∨ ∃ l a cap, depq dep N q s = some l ∧ f s = some (.slice a l.length cap) ∧ Strs wr a l ∧ ∀ p, a = some p → w.heap.size < p.block
theorem Cop.start (w : World) (dep : ByteArray → Option (List ByteArray)) (N : List ByteArray) : Cop w (w.alloc (.map #[] 0)) dep N 0 :=
  ⟨(Grow.refl w).alloc _, 0, fun _ => none, Nat.le_refl _, Mp.made w, fun _ => .inl ⟨rfl, rfl⟩⟩
theorem depq_other {dep : ByteArray → Option (List ByteArray)} {N : List ByteArray} {q : Nat} {s : ByteArray} (hq : q < N.length) (hs : s ≠ N.getD q noS) : depq dep N (q + 1) s = depq dep N q s := by
  unfold depq
  have e : N.take (q + 1) = N.take q ++ [N.getD q noS] := by
    rw [List.take_add_one]
    simp [List.getD, hq]
  rw [e, inL_eq (Q := N.take q) (t := s) (by rw [List.mem_append]; simp only [List.mem_cons, List.not_mem_nil, or_false]; exact ⟨fun h => h.resolve_right hs, .inl⟩)]
theorem depq_at {dep : ByteArray → Option (List ByteArray)} {N : List ByteArray} {q : Nat} (hq : q < N.length) : depq dep N (q + 1) (N.getD q noS) = dep (N.getD q noS) := by
  unfold depq
  have e : N.take (q + 1) = N.take q ++ [N.getD q noS] := by
    rw [List.take_add_one]
    simp [List.getD, hq]
  rw [e, inL_true (by simp), if_pos rfl]
theorem depq_new {dep : ByteArray → Option (List ByteArray)} {N : List ByteArray} {q : Nat} (hn : N.Nodup) (hq : q < N.length) : depq dep N q (N.getD q noS) = none := by
  unfold depq
  rw [inL_false, if_neg (by simp)]
  intro hm
  obtain ⟨i, hi, e⟩ := List.getElem_of_mem hm
  have hi' : i < q ∧ i < N.length := by have h := hi; simp only [List.length_take] at h; omega
  have h1 := idOf_at hn hi'.2
  have h2 := idOf_at hn hq
  have e2 : N.getD i noS = N.getD q noS := by
    rw [← e]
    simp [List.getD, hi'.2]
  rw [e2, h2] at h1
  have := Option.some.inj h1
  omega
theorem Cop.skip {w wr : World} {dep : ByteArray → Option (List ByteArray)} {N : List ByteArray} {q : Nat} (h : Cop w wr dep N q) (hn : N.Nodup) (hq : q < N.length) (hd : dep (N.getD q noS) = none) : Cop w wr dep N (q + 1) := by
  obtain ⟨h1, n, f, h2, h3, h4⟩ := h
  refine ⟨h1, n, f, by omega, h3, fun s => ?_⟩
  by_cases e : s = N.getD q noS
  · subst e
    rcases h4 (N.getD q noS) with ⟨_, h6⟩ | ⟨l, a, cap, h5, _⟩
    · exact .inl ⟨by rw [depq_at hq, hd], h6⟩
    · rw [depq_new hn hq] at h5; cases h5
  · rw [depq_other hq e]; exact h4 s
theorem strs_by {w w' : World} {row : Option Nat} (hg : w.grownBy w' row) {a : Option Addr} {l : List ByteArray} (h : Strs w a l) (hne : ∀ p, a = some p → some p.block ≠ row) : Strs w' a l := by
  refine ⟨h.1, fun i hi => ?_⟩
  obtain ⟨b, o, ha, hc⟩ := h.2 i hi
  exact ⟨b, o, ha, cell_by hg hc (hne _ ha)⟩
theorem Cop.put {w wr wd w1 w2 : World} {dep : ByteArray → Option (List ByteArray)} {N : List ByteArray} {q n : Nat} {f : ByteArray → Option Value} {l : List ByteArray} {a' : Option Addr} (h1 : Grow w wr) (h2 : n ≤ q)
    (h4 : ∀ s, (depq dep N q s = none ∧ f s = none) ∨ ∃ l a cap, depq dep N q s = some l ∧ f s = some (.slice a l.length cap) ∧ Strs wr a l ∧ ∀ p, a = some p → w.heap.size < p.block)
    (hsz : w.heap.size < wr.heap.size) (hq : q < N.length) (hd : dep (N.getD q noS) = some l) (hwd : Grow wr wd) (hs : Strs w1 a' l) (hg1 : Grow wd w1) (hb : ∀ p, a' = some p → wd.heap.size ≤ p.block)
    (hm : Mp w2 w.heap.size (n + 1) (upd f (N.getD q noS) (.slice a' l.length l.length))) (hg2 : w1.grownBy w2 (some w.heap.size)) : Cop w w2 dep N (q + 1) := by
  have hgw := hwd.trans hg1
  refine ⟨(h1.trans hgw).grown hg2 (fun k hk => by cases hk; exact Nat.le_refl _), n + 1, _, by omega, hm, fun s => ?_⟩
  have hb' : ∀ p, a' = some p → w.heap.size < p.block := fun p hp => by have := hb p hp; have := hwd.size; omega
  by_cases e : s = N.getD q noS
  · subst e
    exact .inr ⟨l, a', l.length, by rw [depq_at hq, hd], upd_same _ _ _, strs_by hg2 hs (fun p hp e => by have := hb' p hp; have := Option.some.inj e; omega), hb'⟩
  · rw [depq_other hq e, upd_other f _ e]
    rcases h4 s with h5 | ⟨l', a, cap, h5, h6, h7, h8⟩
    · exact .inl h5
    · exact .inr ⟨l', a, cap, h5, h6, strs_by hg2 (h7.grow hgw) (fun p hp e => by have := h8 p hp; have := Option.some.inj e; omega), h8⟩

theorem run_eql_map_nil (w : World) (m : Option Nat) : (binOp .eql 49 (.map m) (.map none)).run Try.prog w = .ok (.bool m.isNone) w := by
  have h : ∀ d : Nat, (Op.equalIn (d + 1) 49 (.map m) (.map none)).run Try.prog w = .ok m.isNone w := fun d => by
    cases m <;> simp [Op.equalIn, run_underlying Try.underlying49]
  simp only [binOp]
  simp [Op.equal, Op.maxDepth, h 9999]

/-- What zzB1CopyReached hands back. -/
def RetCopy (w w' : World) (dep : ByteArray → Option (List ByteArray)) (N : List ByteArray) (e : Ending) : Prop := ∃ m dep', e = .returned (.map m) ∧ Res w' (.map m) dep' ∧ Grow w w' ∧ ∀ s ∈ N, depsOf dep' s = depsOf dep s
theorem Cop.res {w wr : World} {dep : ByteArray → Option (List ByteArray)} {N : List ByteArray} (h : Cop w wr dep N N.length) : Res wr (.map (some w.heap.size)) (depq dep N N.length) := by
  obtain ⟨h1, n, f, h2, h3, h4⟩ := h
  refine .inr ⟨_, n, f, rfl, h3, fun s => ?_⟩
  rcases h4 s with h | ⟨l, a, cap, h5, h6, h7, _⟩
  · exact .inl h
  · exact .inr ⟨l, a, cap, h5, h6, h7⟩
theorem depq_all {dep : ByteArray → Option (List ByteArray)} {N : List ByteArray} {s : ByteArray} (h : s ∈ N) : depsOf (depq dep N N.length) s = depsOf dep s := by
  unfold depsOf depq
  rw [inL_true (by simpa using h), if_pos rfl]

set_option maxRecDepth 100000 in
set_option maxHeartbeats 4000000 in
theorem copy_any (mo : Option Nat) (na : Option Addr) (N : List ByteArray) (nc : Nat) (dep : ByteArray → Option (List ByteArray)) (w : World) (hR : Res w (.map mo) dep) (hN : Strs w na N) (hC : Closed (depsOf dep) N) :
    Calls Try.prog 27 #[.map mo, .slice na N.length nc] w fun e w' => RetCopy w w' dep N e := by
  cases mo with
  | none =>
    have hnil := run_eql_map_nil
    go_enter Try.func27, Try.ntmps27
    go_wp2
    go_ret
    exact ⟨none, dep, rfl, hR, Grow.refl _, fun _ _ => rfl⟩
  | some mb =>
    have hmm := @run_makeMap Try.prog
    have hnil := run_eql_map_nil
    have hNl := hC.len
    have HC : Hid (Closed (depsOf dep) N) := hC
    have HR : Hid (Res w (.map (some mb)) dep) := hR
    have HN : Hid (Strs w na N) := hN
    clear hC hR hN
    go_enter Try.func27, Try.ntmps27
    go_wp2
    clear hmm hnil
    go_loopw [6, 7, 8] (fun qv _ _ wr => ∃ q : Nat, q ≤ N.length ∧ qv = .int .i64 q ∧ Cop w wr dep N q) (fun qv _ _ _ => N.length - (intOf qv).toNat)
    case atStart => exact ⟨0, Nat.zero_le _, rfl, Cop.start w dep N⟩
    case round =>
      obtain ⟨q, hq, rfl, hO⟩ := hrel
      by_cases hlt : q < N.length
      · obtain ⟨b, o, rfl, c0⟩ := (HN.out.grow hO.grow).at hlt
        have hxN := getm hlt
        have hbl : b < w.heap.size := by
          obtain ⟨b', o', h', hc'⟩ := HN.out.at hlt
          cases h'
          exact World.block_lt_of_cell? _ _ hc'
        have hsm := HC.out.small _ hxN
        have hdl := HC.out.dlen _ hxN
        have hskip := hO.skip HC.out.nodup hlt
        obtain ⟨hgr, n, f, hn, hm, hf⟩ := id hO
        have hput := fun wd w1 w2 l a' => Cop.put (wd := wd) (w1 := w1) (w2 := w2) (l := l) (a' := a') hgr hn hf hm.lt hlt
        generalize hxx : N.getD q noS = x at *
        have hxm : x.size ≤ maxLen := by unfold maxLen; omega
        obtain ⟨la, lc, hls, hlook⟩ := HR.out.looks hxm
        have hl2 := (hlook wr hgr).2
        have HSkip : Hid _ := hskip
        have HPut : Hid _ := hput
        have HO : Hid (Cop w wr dep N q) := hO
        have HM : Hid (Mp wr w.heap.size n f) := hm
        have HXX : Hid (N.getD q noS = x) := hxx
        have hlsw := hls.grow hgr
        have HLs : Hid (Strs wr la (depsOf dep x)) := hlsw
        clear hO hskip hput hm hf hlook hls hlsw hxx hgr
        cases hdx : dep x with
        | none =>
          rw [hdx] at hl2
          simp only [Option.isSome_none] at hl2
          have HD : Hid (dep x = none) := hdx
          clear hdx
          go_wp2
          go_roundw
          case rel => exact ⟨q + 1, by omega, by go_num, HSkip.out HD.out⟩
          case measure => simp [intOf]; omega
        | some l =>
          have hld : depsOf dep x = l := by simp [depsOf, hdx]
          rw [hld] at hl2 HLs hdl
          rw [hdx] at hl2
          simp only [Option.isSome_some] at hl2
          have HD : Hid (dep x = some l) := hdx
          clear hdx hld
          have hq0 : (0 : Int) ≤ (q : Int) := Int.natCast_nonneg _
          have hqn : (q : Int) < (N.length : Int) := by omega
          have HLd : Hid (Strs wr.drew la l) := HLs.out.grow (Grow.refl wr).drew
          have HMd : Hid (Mp wr.drew w.heap.size n f) := HM.out.grow (Grow.refl wr).drew
          have c0d : wr.drew.cell? ⟨b, o + q, none⟩ = some (.string x) := c0
          go_wp2_with fail
          go_region_held3 (fun w' => w'.cell? ⟨b, o + q, none⟩ = some (.string x)) (first | (go_keep; done) | exact hSafter | exact hScall)
            ((go_at_call 12; refine (cloneStrs_any la l lc wr.drew (by omega) HLd.out).mono ?_; rintro e w1 ⟨a', rfl, hs1, hg1, _, hb1⟩; obtain ⟨w2, hr2, hm2, hg2⟩ := (HMd.out.grow hg1).put Try.underlying49 (by unfold maxLen; omega) hxm (.slice a' l.length l.length); have hScall := hg1.cell c0d; have hSafter := cell_by hg2 hScall (fun e => by have := Option.some.inj e; omega)))
          have hfin : Cop w w2 dep N (q + 1) := HPut.out wr.drew w1 w2 l a' HD.out (Grow.refl wr).drew hs1 hg1 hb1 hm2 hg2
          have HF : Hid (Cop w w2 dep N (q + 1)) := hfin
          clear hfin hm2 hg2 hs1 hg1 hb1
          go_wp2
          go_roundw
          case rel => exact ⟨q + 1, by omega, by go_num, HF.out⟩
          case measure => simp [intOf]; omega
      · obtain rfl : q = N.length := by omega
        have HO : Hid (Cop w wr dep N N.length) := hO
        clear hO
        go_wp2
        go_ret
        exact ⟨_, _, rfl, HO.out.res, HO.out.grow, fun s hs => depq_all hs⟩

/-- api.ZZCycle is (Graph).cycle behind a box. -/
theorem zzCycle_any (mv : Value) (ra : Option Addr) (roots : List ByteArray) (rd : Nat) (dep : ByteArray → Option (List ByteArray)) (N : List ByteArray) (w : World) (hR : Res w mv dep) (hmv : ∃ m, mv = .map m) (hr : Strs w ra roots) (hC : Closed (depsOf dep) N) (hrN : ∀ i, i < roots.length → roots.getD i noS ∈ N) (hrl : roots.length ≤ 1048576) :
    Calls Try.prog 28 #[.agg #[mv], .slice ra roots.length rd] w fun e w' => RetCyc w w' (depsOf dep) N roots e := by
  obtain ⟨mo, rfl⟩ := hmv
  have hg : Grow w (w.alloc (.cells #[.map mo] 55)) := (Grow.refl w).alloc _
  have hcall := cycle_any (.map mo) ra roots rd dep N (w.alloc (.cells #[.map mo] 55)) (hR.grow hg) ⟨mo, rfl⟩ (hr.grow hg) hC hrN hrl
  clear hR hr hC hrN
  go_enter Try.func28, Try.ntmps28
  go_wp2_with fail
  refine hcall.mono ?_
  rintro e w' h
  have H : Hid _ := h
  rcases h with ⟨rfl, h1, h2⟩ | ⟨a, cap, l, rfl, h1, h2, h3⟩
  · clear h1 h2
    go_wp2
    go_ret
    rcases H.out with ⟨_, h1, h2⟩ | ⟨a, cap, l, h, _⟩
    · exact .inl ⟨rfl, hg.trans h1, h2⟩
    · injection h with h; injection h with h; cases h
  · clear h1 h2 h3
    go_wp2
    go_ret
    rcases H.out with ⟨h, _⟩ | ⟨a', cap', l', h, h1, h2, h3⟩
    · injection h with h; injection h with h; cases h
    · exact .inr ⟨a', cap', l', h, h1, h2, hg.trans h3⟩

end Go.Proofs.Qxb6601698a
