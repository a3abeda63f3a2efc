/-
  A slice of items that came in, opened.
-/
import Derived.Test.Qxb6602155aLa
import Derived.ProofKit
import Derived.OpenShut
import Derived.ShutString
import Derived.ChangeOld
import Derived.Deep.Slices
namespace Go.Proofs.Qxb6602155a
open Go.ChangeShapes Go.WideShapes Go.ChangeAt Go.RowKit Go.Deep

theorem own : ownKnob Try.prog.godebug = none := by kernel_rfl
theorem laidOut : laidOutB Try.prog = true := by kernel_rfl
theorem cells26 : Try.prog.cellsOf 26 = 5 := by kernel_rfl
theorem cells9 : Try.prog.cellsOf 9 = 1 := by kernel_rfl
theorem cells2 : Try.prog.cellsOf 2 = 1 := by kernel_rfl
theorem cells3 : Try.prog.cellsOf 3 = 1 := by kernel_rfl
theorem cells24 : Try.prog.cellsOf 24 = 1 := by kernel_rfl

theorem inI_of_wf {n : Int} (h : (Lit.int .i64 n).wf = true) : InI n := by
  simp only [Lit.wf, Bool.and_eq_true, decide_eq_true_eq] at h
  exact ⟨h.1, h.2⟩

theorem open_items {H : Type} {enc : TypeId × Value → H} {w : World} {a : Option Addr} {len cap fuel : Nat} {x : DataW H × List MemPlace}
    (hx : DataW.trod enc Try.prog w 0 (fun _ => true) true fuel 22 [.slice a len cap] = some x) :
    ∃ xs : List It, xs.length = len ∧ Its w a xs ∧ ∀ y ∈ xs, InI y.size := by
  rcases open_slice Try.underlying22 hx with ⟨hcs, _⟩ | ⟨a', len', cap', m, n, D, Pl, hcs, _, hl, hm, hmm, _, hel⟩
  · simp at hcs
    obtain ⟨rfl, rfl, rfl⟩ := hcs
    exact ⟨[], rfl, ⟨fun _ => rfl, fun i hi => by simp at hi⟩, fun y hy => by cases hy⟩
  · simp at hcs
    obtain ⟨rfl, rfl, rfl⟩ := hcs
    have hlm : len ≤ m := by rw [hmm]; simpa using hl
    have each : ∀ i, i < len → ∃ q : It, w.cell? (a'.add (i * 5)) = some (.string q.name) ∧ w.cell? (a'.add (i * 5 + 1)) = some (.int .u64 q.ver) ∧ w.cell? (a'.add (i * 5 + 2)) = some (.int .i64 q.num) ∧ w.cell? (a'.add (i * 5 + 3)) = some (.int .u64 q.ctr) ∧ w.cell? (a'.add (i * 5 + 4)) = some (.int .i64 q.size) ∧ InI q.size := by
      intro i hi
      obtain ⟨cs', h1, h2⟩ := hel i (by omega)
      rw [cells26] at h1
      obtain ⟨_, hlen, hcell⟩ := World.cells?_some h1
      obtain ⟨xs, k, _, _, _, hxl, hf⟩ := DataW.trod_struct Try.underlying26 h2
      match xs, hxl, cs', hlen with
      | [y0, y1, y2, y3, y4], _, [v0, v1, v2, v3, v4], _ =>
        have g0 := hf 0 _ rfl
        have g1 := hf 1 _ rfl
        have g2 := hf 2 _ rfl
        have g3 := hf 3 _ rfl
        have g4 := hf 4 _ rfl
        simp [cells9, cells2, cells3, cells24] at g0 g1 g2 g3 g4
        have e0 := hcell 0 (by omega)
        have e1 := hcell 1 (by omega)
        have e2 := hcell 2 (by omega)
        have e3 := hcell 3 (by omega)
        have e4 := hcell 4 (by omega)
        rw [Deep.add_add] at e0 e1 e2 e3 e4
        obtain ⟨s0, q0, _, _⟩ := DataW.trod_string Try.underlying9 g0
        obtain ⟨s1, q1, _, _⟩ := DataW.trod_int Try.underlying24 g1
        obtain ⟨s2, q2, _, _⟩ := DataW.trod_int Try.underlying3 g2
        obtain ⟨s3, q3, _, _⟩ := DataW.trod_int Try.underlying24 g3
        obtain ⟨s4, q4, _, hwf⟩ := DataW.trod_int Try.underlying2 g4
        simp at q0 q1 q2 q3 q4
        subst q0 q1 q2 q3 q4
        exact ⟨⟨s0, s1, s2, s3, s4⟩, by simpa using e0, by simpa using e1, by simpa using e2, by simpa using e3, by simpa using e4, inI_of_wf hwf⟩
    haveI : Inhabited It := ⟨noIt⟩
    obtain ⟨f, hf⟩ := choose_lt each
    refine ⟨(List.range len).map f, by simp, ⟨fun e => (by cases e), fun i hi => ?_⟩, fun y hy => ?_⟩
    · have hi' : i < len := by simpa using hi
      obtain ⟨b, o, spot⟩ := a'
      obtain ⟨h0, h1, h2, h3, h4, _⟩ := hf i hi'
      have hspot : spot = none := by
        have h00 := (hf 0 (by omega)).1
        simpa [Addr.add] using World.cell?_spot h00
      subst hspot
      have hg : ((List.range len).map f).getD i noIt = f i := by simp [List.getD, hi']
      refine ⟨b, o, rfl, fun r hr => ?_⟩
      rw [hg]
      simp only [Addr.add_mid, ← Nat.add_assoc] at h0 h1 h2 h3 h4
      match r, hr with
      | 0, _ => exact h0
      | 1, _ => exact h1
      | 2, _ => exact h2
      | 3, _ => exact h3
      | 4, _ => exact h4
    · obtain ⟨i, hi, rfl⟩ := List.mem_map.1 hy
      exact (hf i (by simpa using hi)).2.2.2.2.2

end Go.Proofs.Qxb6602155a
