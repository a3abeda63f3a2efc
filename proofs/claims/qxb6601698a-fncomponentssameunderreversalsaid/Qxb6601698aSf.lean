/-
  The walk of FnComponentsAreOrderedStrongComponents (5).
-/
import Derived.Test.Qxb6601698aSe
namespace Go.Proofs.Qxb6601698a
open Go.RowKit

/-- The graph that the rows tell. -/
def adjI (xss : List (List Int)) (v : Nat) : List Nat := (rowOf xss v).map Int.toNat
theorem tot_le (xss : List (List Int)) {a b : Nat} (h : a ≤ b) : tot xss a ≤ tot xss b := by
  induction b with
  | zero => rw [Nat.le_zero.1 h]; exact Nat.le_refl _
  | succ b ih =>
    by_cases e : a = b + 1
    · rw [e]; exact Nat.le_refl _
    · have := ih (by omega)
      simp only [tot]
      omega
theorem row_le (xss : List (List Int)) {v b : Nat} (h : v < b) : (rowOf xss v).length ≤ tot xss b := by
  have h1 := tot_le xss (show v + 1 ≤ b by omega)
  simp only [tot] at h1
  omega
theorem psum_tot (xss : List (List Int)) : ∀ v, psum (adjI xss) v = tot xss v
  | 0 => rfl
  | v + 1 => by simp [psum, tot, psum_tot xss v, adjI]
theorem rows_of {w : World} {a : Option Addr} {n : Nat} {xss : List (List Int)} (h : Ints2 w a xss) (hr : InRange n xss) : Rows2 w a n (adjI xss) := fun v hv => by
  obtain ⟨b, o, ha, av, cap, hc, hi⟩ := h.2 v (Nat.lt_of_lt_of_le hv hr.1)
  refine ⟨b, o, ha, av, cap, by rw [hc]; simp [adjI], fun e => ?_, fun i hi2 => ?_⟩
  · simp [adjI, hi.1 e]
  · have hil : i < (rowOf xss v).length := by simpa [adjI] using hi2
    obtain ⟨b2, o2, h2, h3⟩ := hi.2 i hil
    refine ⟨b2, o2, h2, ?_⟩
    have hp := (hr.2 v hv i hil).1
    have key : ∀ (rr : List Int), i < rr.length → 0 ≤ rr.getD i 0 → (((rr.map Int.toNat).getD i 0 : Nat) : Int) = rr.getD i 0 := by
      intro rr h1 h4
      simp [List.getD, h1] at h4 ⊢
      omega
    have e : (((adjI xss v).getD i 0 : Nat) : Int) = (rowOf xss v).getD i 0 := key _ hil hp
    rw [h3, e]
theorem graph_of {n : Nat} {xss : List (List Int)} (hn : n ≤ 65536) (ht : tot xss xss.length ≤ 131072) (hr : InRange n xss) : Graph n (adjI xss) := by
  refine ⟨hn, fun v hv d hd => ?_, fun v hv => ?_⟩
  · obtain ⟨x, hx, rfl⟩ := List.mem_map.1 hd
    obtain ⟨i, hi⟩ := List.getElem?_of_mem hx
    have hil := (List.getElem?_eq_some_iff.1 hi).1
    have h1 := hr.2 v hv i hil
    have e : (rowOf xss v).getD i 0 = x := by simp [List.getD, hi]
    rw [e] at h1
    omega
  · have h1 := row_le xss (Nat.lt_of_lt_of_le hv hr.1)
    simp [adjI]
    omega

set_option maxRecDepth 100000 in
set_option maxHeartbeats 4000000 in
theorem law5_any (a : Option Addr) (xs : List ByteArray) (d : Nat) (a2 : Option Addr) (xss : List (List Int)) (d2 : Nat) (w : World) (hs : Strs w a xs) (h : Ints2 w a2 xss) :
    Calls Try.prog 5 #[.slice a xs.length d, .slice a2 xss.length d2] w fun e w' => LawTrue w e w' := by
  have HS : Hid (Strs w a xs) := hs
  have HI : Hid (Ints2 w a2 xss) := h
  clear hs h
  go_enter Try.func5, Try.ntmps5
  go_wp2_with fail
  refine (bytes21_any a xs d a2 xss d2 w HS.out HI.out).mono ?_
  rintro e w1 ⟨⟨b, rfl⟩, rfl⟩
  cases b with
  | false =>
    go_wp2
    go_ret
    exact ⟨rfl, Grow.refl _⟩
  | true =>
  by_cases hn : xs.length ≤ 65536
  case neg =>
    go_wp2
    go_ret
    exact ⟨rfl, Grow.refl _⟩
  by_cases hm : xss.length ≤ 65536
  case neg =>
    go_wp2
    go_ret
    exact ⟨rfl, Grow.refl _⟩
  go_wp2_with fail
  refine (strBytes_any a xs d w1 HS.out).mono ?_
  rintro e w2 ⟨⟨z1, rfl, hz1, hz1', _⟩, rfl⟩
  go_wp2_with fail
  refine (intsBytes_any a2 xss d2 w2 HI.out).mono ?_
  rintro e w1 ⟨⟨z2, rfl, hz2, hz2', hbd⟩, rfl⟩
  have HBd : Hid (z2 ≤ 1048576 → 8 * (xss.length : Int) + 8 * (tot xss xss.length : Int) ≤ z2) := hbd
  clear hbd
  by_cases hz : z1 + z2 ≤ 1048576
  case neg =>
    go_wp2
    go_ret
    exact ⟨rfl, Grow.refl _⟩
  have ht : tot xss xss.length ≤ 131072 := by have := HBd.out (by omega); omega
  have HT : Hid (tot xss xss.length ≤ 131072) := ht
  have hrl : ∀ v, v < xss.length → (rowOf xss v).length ≤ 1048576 := fun v hv => by have := row_le xss hv; omega
  have HRl : Hid (∀ v, v < xss.length → (rowOf xss v).length ≤ 1048576) := hrl
  clear ht hrl
  go_wp2_with fail
  refine (range_any xs.length a2 xss d2 w1 (by omega) (by omega) HRl.out HI.out).mono ?_
  rintro e w2 ⟨⟨b, rfl, hir⟩, rfl⟩
  cases b with
  | false =>
    go_wp2
    go_ret
    exact ⟨rfl, Grow.refl _⟩
  | true =>
  have HIR : Hid (InRange xs.length xss) := hir rfl
  clear hir
  go_wp2_with fail
  refine (cloneStrs_any a xs d w2 (by omega) HS.out).mono ?_
  rintro e w3 ⟨na, rfl, _, hg3, _, _⟩
  have HG3 : Hid (Grow w2 w3) := hg3
  clear hg3
  go_wp2_with fail
  refine (cloneInts2_any a2 xss d2 w3 (by omega) HRl.out (HI.out.grow HG3.out)).mono ?_
  rintro e w4 ⟨da, rfl, hi4, hg4⟩
  have HI4 : Hid (Ints2 w4 da xss) := hi4
  have HG4 : Hid (Grow w3 w4) := hg4
  clear hi4 hg4
  go_wp2_with fail
  refine (makeLinks_any na da xs.length xs.length xss.length xss.length w4).mono ?_
  rintro e w5 ⟨rfl, hg5⟩
  have HG5 : Hid (Grow w4 w5) := hg5
  clear hg5
  go_wp2_with fail
  have hR5 := (rows_of HI4.out HIR.out).grow HG5.out
  have hGr := graph_of hn HT.out HIR.out
  refine (zzComponents_any _ _ _ _ na da xs.length xs.length xss.length xss.length (adjI xss) w5 hGr hR5 HIR.out.1 rfl rfl rfl rfl).mono ?_
  rintro e w6 ⟨ma, mc, cb, comp, ML, rfl, hg6, hP, hrM, hrC, _⟩
  have HG6 : Hid (Grow w5 w6) := hg6
  have HP : Hid (Parted xs.length (adjI xss) comp ML) := hP
  have HRM : Hid (Rows2 w6 ma ML.length (fun c => ML.getD c [])) := hrM
  have HRC : Hid (w6.rowIs cb 3 xs.length (fun j => natV (comp j))) := hrC
  have HR6 : Hid (Rows2 w6 da xs.length (adjI xss)) := hR5.grow hg6
  have HGr : Hid (Graph xs.length (adjI xss)) := hGr
  have HPs : Hid (psum (adjI xss) xs.length ≤ 131072) := by
    show psum (adjI xss) xs.length ≤ 131072
    rw [psum_tot]
    have := tot_le xss HIR.out.1
    have := HT.out
    omega
  clear hg6 hP hrM hrC hR5 hGr
  go_wp2_with fail
  refine (sccs_any xs.length xss.length xss.length mc cb da ma (adjI xss) comp ML w6 HGr.out HPs.out HR6.out HIR.out.1 HP.out HRM.out HRC.out).mono ?_
  rintro e w7 ⟨rfl, hg7⟩
  have HG7 : Hid (Grow w6 w7) := hg7
  clear hg7
  go_wp2
  go_ret
  exact ⟨rfl, HG3.out.trans (HG4.out.trans (HG5.out.trans (HG6.out.trans HG7.out)))⟩

end Go.Proofs.Qxb6601698a
