/-
  The walk of FnCycleFoundExactlyWhenReachable (7).
-/
import Derived.Test.Qxb6601698aKi
namespace Go.Proofs.Qxb6601698a
open Go.RowKit

def LawEnd (w0 : World) (e : Ending) (w' : World) : Prop := e = .returned (.bool true) ∧ Grow w0 w'

theorem Res.len {w : World} {mo : Option Nat} {dep : ByteArray → Option (List ByteArray)} (h : Res w (.map mo) dep) : ∃ z : Nat, ∀ ty, (Builtin.len_ #[49] ty #[.map mo]).run Try.prog w = .ok (.int .i64 (z : Int)) w := by
  rcases h with ⟨h, _⟩ | ⟨b, n, f, h, ⟨D, h2, _⟩, _⟩
  · cases h
    exact ⟨0, fun ty => Maps.len_nil Try.underlying49 ty⟩
  · cases h
    exact ⟨_, fun ty => h2.len Try.underlying49 ty⟩

theorem Expl.closed' {roots : List ByteArray} {deps : ByteArray → List ByteArray} {N : List ByteArray} (h : Expl roots deps N N.length) : Closed deps N := by
  refine ⟨h.nodup, fun s hs d hd => ?_, fun s hs => ?_, h.len, h.small⟩
  · obtain ⟨j, hj, e⟩ := List.getElem_of_mem hs
    have e2 : N.getD j noS = s := by simp [List.getD, hj, e]
    exact h.closed j hj d (by rw [e2]; exact hd)
  · obtain ⟨j, hj, e⟩ := List.getElem_of_mem hs
    have e2 : N.getD j noS = s := by simp [List.getD, hj, e]
    have := h.dlen j hj
    rwa [e2] at this
theorem Closed.agree {deps deps' : ByteArray → List ByteArray} {N : List ByteArray} (h : Closed deps N) (he : ∀ s ∈ N, deps' s = deps s) : Closed deps' N :=
  ⟨h.nodup, fun s hs d hd => h.closed s hs d (by rw [← he s hs]; exact hd), fun s hs => by rw [he s hs]; exact h.dlen s hs, h.len, h.small⟩
/-- Whatever is listed was done. -/
theorem Expl.all_done {roots : List ByteArray} {deps deps' : ByteArray → List ByteArray} {N D : List ByteArray} (h : Expl roots deps N N.length) (he : ∀ s ∈ N, deps' s = deps s) (hD : Topo deps' D) (hr : ∀ i, i < roots.length → roots.getD i noS ∈ D) : ∀ s ∈ N, s ∈ D := by
  have hall : ∀ m j, j < m → j < N.length → N.getD j noS ∈ D := by
    intro m
    induction m with
    | zero => intro j hj; omega
    | succ m ih =>
      intro j hj hjN
      rcases h.origin j hjN with h1 | ⟨i, hi, h1⟩
      · obtain ⟨k, hk, e⟩ := List.getElem_of_mem h1
        have e2 : roots.getD k noS = N.getD j noS := by
          rw [← e]
          simp [List.getD, hk]
        rw [← e2]
        exact hr k hk
      · have hiN : i < N.length := by omega
        refine hD.closed (ih i (by omega) hiN) ?_
        rw [he _ (getm hiN)]
        exact h1
  intro s hs
  obtain ⟨j, hj, e⟩ := List.getElem_of_mem hs
  have e2 : N.getD j noS = s := by simp [List.getD, hj, e]
  rw [← e2]
  exact hall (j + 1) j (by omega) hj

theorem info4 : (Try.prog.info? 4).map (fun i => (i.zero, i.size, i.bytes)) = some (some (.bool false), 1, 1) := by kernel_rfl
theorem make4 (n : Nat) (hn : n ≤ 1048576) (w : World) :
    (Instr.makeSlice 57 (.int .i64 (n : Int)) (.int .i64 (n : Int))).run Try.prog w = .ok (.slice (some ⟨w.heap.size, 0, none⟩) n n) (w.alloc (.cells (madeCells #[.bool false] n) 4)) :=
  run_make_row' 57 4 _ 1 Try.underlying57 info4 rfl .i64 .i64 n (by omega) (by omega) w

/-- The marks, i of the cycle's names looked at. -/
structure Marks (w wr : World) (N l : List ByteArray) (i : Nat) : Prop where
  grow : Grow w wr
  row : wr.rowIs w.heap.size 4 N.length (fun j => .bool (inL (l.take i) (N.getD j noS)))
theorem Marks.start (w : World) (N l : List ByteArray) : Marks w (w.alloc (.cells (madeCells #[.bool false] N.length) 4)) N l 0 :=
  ⟨(Grow.refl w).alloc _, (World.rowIs_made w _ _ _).congr (fun _ _ => rfl)⟩
theorem Marks.step {w wr : World} {N l : List ByteArray} {i u : Nat} (h : Marks w wr N l i) (hn : N.Nodup) (hi : i < l.length) (hu : u < N.length) (hs : N.getD u noS = l.getD i noS) : Marks w (wr.setCell ⟨w.heap.size, u, none⟩ (.bool true)) N l (i + 1) := by
  refine ⟨h.grow.setCell (Nat.le_refl _) _, (h.row.set u _).congr (fun j hj => ?_)⟩
  have e : l.take (i + 1) = l.take i ++ [l.getD i noS] := by
    rw [List.take_add_one]
    simp [List.getD, hi]
  rw [e]
  by_cases ej : j = u
  · subst ej
    simp only [if_true]
    rw [inL_true (by rw [hs]; simp)]
  · simp only [if_neg ej]
    have hne : N.getD j noS ≠ l.getD i noS := fun e2 => ej (by
      have h1 := idOf_at hn hj
      have h2 := idOf_at hn hu
      rw [e2, ← hs, h2] at h1
      exact (Option.some.inj h1).symm)
    rw [inL_eq (Q := l.take i ++ [l.getD i noS]) (t := N.getD j noS) (by rw [List.mem_append]; simp only [List.mem_cons, List.not_mem_nil, or_false]; exact ⟨.inl, fun h => h.resolve_right hne⟩)]

theorem notyet {l : List ByteArray} {i : Nat} (hn : l.Nodup) (hi : i < l.length) : inL (l.take i) (l.getD i noS) = false := by
  apply inL_false
  intro hm
  obtain ⟨j, hj, e⟩ := List.getElem_of_mem hm
  have hj' : j < i ∧ j < l.length := by have h := hj; simp only [List.length_take] at h; omega
  have h1 := idOf_at hn hj'.2
  have h2 := idOf_at hn hi
  have e2 : l.getD j noS = l.getD i noS := by
    rw [← e]
    simp [List.getD, hj'.2]
  rw [e2, h2] at h1
  have := Option.some.inj h1
  omega

set_option maxRecDepth 100000 in
set_option maxHeartbeats 4000000 in
theorem law7_any (mo : Option Nat) (a : Option Addr) (roots : List ByteArray) (d : Nat) (dep : ByteArray → Option (List ByteArray)) (w : World) (hR : Res w (.map mo) dep) (hr : Strs w a roots) :
    Calls Try.prog 7 #[.map mo, .slice a roots.length d] w fun e w' => LawEnd w e w' := by
  obtain ⟨z, hlen⟩ := hR.len
  have HR : Hid (Res w (.map mo) dep) := hR
  have HRr : Hid (Strs w a roots) := hr
  clear hR hr
  by_cases hz : z ≤ 65536
  case neg =>
    go_enter Try.func7, Try.ntmps7
    go_wp2
    go_ret
    exact ⟨rfl, Grow.refl _⟩
  by_cases hrl : roots.length ≤ 65536
  case neg =>
    go_enter Try.func7, Try.ntmps7
    go_wp2
    go_ret
    exact ⟨rfl, Grow.refl _⟩
  go_enter Try.func7, Try.ntmps7
  go_wp2_with fail
  refine (explore_any (.map mo) a roots d dep w HR.out HRr.out ⟨mo, rfl⟩).mono ?_
  rintro e w1 (⟨rfl, hg1⟩ | ⟨nv, N, rfl, hS, hE⟩)
  · go_wp2
    go_ret
    exact ⟨rfl, hg1⟩
  clear hlen
  obtain ⟨na, nc, rfl, hns⟩ := strs_own hS.own
  have hC := hE.closed'
  have hg1 := hS.grow
  have hIds := hS.ids
  have HE : Hid (Expl roots (depsOf dep) N N.length) := hE
  have HC : Hid (Closed (depsOf dep) N) := hC
  have HNs : Hid (Strs w1 na N) := hns
  have HIds : Hid (Mp w1 w.heap.size N.length (idF N)) := hIds
  have HG1 : Hid (Grow w w1) := hg1
  have hNl := hC.len
  clear hS hE hC hns hg1 hIds
  go_wp2_with fail
  refine (cloneStrs_any a roots d w1 (by omega) (HRr.out.grow HG1.out)).mono ?_
  rintro e w2 ⟨ra, rfl, hrs, hg2, _, _⟩
  have HRs : Hid (Strs w2 ra roots) := hrs
  have HG2 : Hid (Grow w1 w2) := hg2
  clear hrs hg2
  go_wp2_with fail
  refine (copy_any mo na N nc dep w2 (HR.out.grow (HG1.out.trans HG2.out)) (HNs.out.grow HG2.out) HC.out).mono ?_
  rintro e w3 ⟨m, dep', rfl, hR3, hg3, hag⟩
  have HR3 : Hid (Res w3 (.map m) dep') := hR3
  have HG3 : Hid (Grow w2 w3) := hg3
  have HC3 : Hid (Closed (depsOf dep') N) := HC.out.agree hag
  have HAg : Hid (∀ s ∈ N, depsOf dep' s = depsOf dep s) := hag
  clear hR3 hg3 hag
  go_wp2_with fail
  refine (zzCycle_any (.map m) ra roots roots.length dep' N w3 HR3.out ⟨m, rfl⟩ (HRs.out.grow HG3.out) HC3.out (fun i hi => HE.out.rts _ (getm hi)) (by omega)).mono ?_
  rintro e w4 (⟨rfl, hg4, D, hT, hDN, hRD⟩ | ⟨ca, cc, l, rfl, hcs, hcy, hg4⟩)
  · have HG4 : Hid (Grow w3 w4) := hg4
    have HAll : Hid (∀ s ∈ N, s ∈ D) := HE.out.all_done HAg.out hT hRD
    have HT : Hid (Topo (depsOf dep') D) := hT
    clear hg4 hT hDN hRD
    have hnil := fun (w : World) (a : Option Addr) (n c : Nat) => Lib.run_eql_slice_nil (P := Try.prog) w 23 9 a n c 0 0 Try.underlying23
    go_wp2_with fail
    refine (acyclic_any (.map m) na N nc w.heap.size N.length dep' w4 (HR3.out.grow HG4.out) ⟨m, rfl⟩ (HNs.out.grow (HG2.out.trans (HG3.out.trans HG4.out))) (HIds.out.grow (HG2.out.trans (HG3.out.trans HG4.out))) HC3.out).mono ?_
    rintro e w5 ⟨R, hTk, rfl, hg5⟩
    have hRl := taken_all HC3.out hTk HT.out HAll.out
    have hdec : decide (R.length = N.length) = true := by simpa using hRl
    rw [hdec]
    have HG5 : Hid (Grow w4 w5) := hg5
    clear hTk hg5 hRl hdec
    go_wp2
    go_ret
    exact ⟨rfl, HG1.out.trans (HG2.out.trans (HG3.out.trans (HG4.out.trans HG5.out)))⟩
  · have HG4 : Hid (Grow w3 w4) := hg4
    have HCy : Hid (Cyc (depsOf dep') N l) := hcy
    have HCs : Hid (Strs w4 (some ca) l) := hcs
    clear hg4 hcy hcs
    go_wp2_with fail
    refine (acyclic_any (.map m) na N nc w.heap.size N.length dep' w4 (HR3.out.grow HG4.out) ⟨m, rfl⟩ (HNs.out.grow (HG2.out.trans (HG3.out.trans HG4.out))) (HIds.out.grow (HG2.out.trans (HG3.out.trans HG4.out))) HC3.out).mono ?_
    rintro e w5 ⟨R, hTk, rfl, hg5⟩
    have hRl := taken_cyc HC3.out hTk HCy.out
    have hdec : decide (R.length = N.length) = false := by simpa using hRl
    rw [hdec]
    have HG5 : Hid (Grow w w5) := HG1.out.trans (HG2.out.trans (HG3.out.trans (HG4.out.trans hg5)))
    have HG25 : Hid (Grow w1 w5) := HG2.out.trans (HG3.out.trans (HG4.out.trans hg5))
    have HG45 : Hid (Grow w4 w5) := hg5
    have hlN := nodup_le HCy.out.nodup HCy.out.inN
    have hlp := HCy.out.pos
    have hmk := make4 N.length (by omega)
    have hb1 : ((l.length : Int) == 0) = false := by rw [beq_eq_false_iff_ne]; omega
    have hd1 : decide (N.length < l.length) = false := by simpa using hlN
    clear hTk hg5 hRl hdec
    go_wp2
    clear hmk
    go_loopw [10, 11, 12, 13] (fun iv _ _ _ wr => ∃ i : Nat, i ≤ l.length ∧ iv = .int .i64 i ∧ Marks w5 wr N l i) (fun iv _ _ _ _ => l.length - (intOf iv).toNat)
    case atStart => exact ⟨0, Nat.zero_le _, rfl, Marks.start w5 N l⟩
    case round =>
      obtain ⟨i, hi, rfl, hM⟩ := hrel
      by_cases hlt : i < l.length
      · have hsN := HCy.out.inN _ (getm hlt)
        have hsz := HC3.out.small _ hsN
        have hnx := HCy.out.next i hlt
        have hml : (i + 1) % l.length < l.length := Nat.mod_lt _ hlp
        obtain ⟨cb, co, hca, c0⟩ := (HCs.out.grow (HG45.out.trans hM.grow)).at hlt
        obtain rfl : ca = ⟨cb, co, none⟩ := by simpa using hca
        obtain ⟨cb', co', hca', c1⟩ := (HCs.out.grow (HG45.out.trans hM.grow)).at hml
        cases hca'
        have hcbl : cb < w5.heap.size := by
          obtain ⟨b', o', h', hc'⟩ := HCs.out.at hlt
          cases h'
          have h1 : cb < w4.heap.size := World.block_lt_of_cell? _ _ hc'
          have := HG45.out.size
          omega
        obtain ⟨u, hu⟩ := idOf_mem hsN
        obtain ⟨hu1, hu2⟩ := idOf_get hu
        have hny := notyet HCy.out.nodup hlt
        have hMs := hM.step HC3.out.nodup hlt hu1 hu2
        have r0 := hM.row.cell hu1
        have f0 := hM.row.frozen u
        simp only [hu2, hny] at r0
        generalize hss : l.getD i noS = s at *
        generalize hnn : l.getD ((i + 1) % l.length) noS = nx at *
        have hsm : s.size ≤ maxLen := by unfold maxLen; omega
        have hlk := (HIds.out.grow (HG25.out.trans hM.grow)).look_ok Try.underlying22 (zero3 _) hsm
        have hidf : idF N s = some (.int .i64 (u : Int)) := by unfold idF; rw [hu]; rfl
        rw [hidf] at hlk
        simp only [Option.getD_some, Option.isSome_some] at hlk
        obtain ⟨la, lc, hls, hlook⟩ := HR3.out.looks hsm
        have hg3w : Grow w3 (wr.setCell ⟨w5.heap.size, u, none⟩ (.bool true)) := HG4.out.trans (HG45.out.trans hMs.grow)
        have hl1 := (hlook _ hg3w).1
        have hlsw := hls.grow hg3w
        have hdl := HC3.out.dlen _ hsN
        obtain ⟨j0, hj0, ej0⟩ := List.getElem_of_mem hnx
        have ej1 : (depsOf dep' s).getD j0 noS = nx := by simp [List.getD, hj0, ej0]
        generalize depsOf dep' s = dl at *
        have HHas : Hid (Calls Try.prog 30 #[.slice la dl.length lc, .string nx] (wr.setCell ⟨w5.heap.size, u, none⟩ (.bool true)) fun e w' => RetTrue e ∧ w' = wr.setCell ⟨w5.heap.size, u, none⟩ (.bool true)) := hasStr_any la dl lc nx _ (by omega) hlsw j0 hj0 ej1
        have HMs : Hid (Marks w5 (wr.setCell ⟨w5.heap.size, u, none⟩ (.bool true)) N l (i + 1)) := hMs
        clear hM hMs hsN hnx hca hu hu2 hny hss hnn hidf hls hlook hg3w hlsw hj0 ej0 ej1
        have hne1 : ¬ w5.heap.size = cb := by omega
        have hne2 : ¬ cb = w5.heap.size := by omega
        have hu0 : (0 : Int) ≤ (u : Int) := Int.natCast_nonneg _
        have huN : (u : Int) < (N.length : Int) := by omega
        have hrem : Int.tmod ((i : Int) + 1) (l.length : Int) = (((i + 1) % l.length : Nat) : Int) := by
          rw [Int.tmod_eq_emod_of_nonneg (by omega)]
          simp
        generalize hmm : (i + 1) % l.length = mi at *
        clear hmm
        have hmi0 : (0 : Int) ≤ (mi : Int) := Int.natCast_nonneg _
        have hmi1 : (mi : Int) < (l.length : Int) := by omega
        have hlz : ¬ (l.length : Int) = 0 := by omega
        have hw1 : IntKind.i64.wrap (mi : Int) = (mi : Int) := by rw [IntKind.wrap_i64]; omega
        go_wp2_with fail
        refine HHas.out.mono ?_
        rintro e w6 ⟨rfl, rfl⟩
        go_wp2
        go_roundw
        case rel => exact ⟨i + 1, by omega, by go_num, HMs.out⟩
        case measure => simp [intOf]; omega
      · have HM : Hid (Marks w5 wr N l i) := hM
        clear hM
        go_wp2
        go_ret
        exact ⟨rfl, HG5.out.trans HM.out.grow⟩

end Go.Proofs.Qxb6601698a
