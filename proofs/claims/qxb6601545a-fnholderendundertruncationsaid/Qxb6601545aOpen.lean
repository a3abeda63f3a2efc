/-
  A slice of lots that came in, opened.
-/
import Derived.Test.Qxb6601545aScan
import Derived.ProofKit
import Derived.OpenShut
import Derived.ShutString
import Derived.ChangeOld
import Derived.Deep.Slices
namespace Go.Proofs.Qxb6601545a
open Go.ChangeShapes Go.WideShapes Go.ChangeAt Go.RowKit Go.Deep

theorem own : ownKnob Try.prog.godebug = none := by kernel_rfl
theorem laidOut : laidOutB Try.prog = true := by kernel_rfl
theorem cells30 : Try.prog.cellsOf 30 = 5 := by kernel_rfl
theorem cells9 : Try.prog.cellsOf 9 = 1 := by kernel_rfl
theorem cells2 : Try.prog.cellsOf 2 = 1 := by kernel_rfl
theorem cells21 : Try.prog.cellsOf 21 = 1 := by kernel_rfl
theorem cells28 : Try.prog.cellsOf 28 = 1 := by kernel_rfl
theorem cells4 : Try.prog.cellsOf 4 = 1 := by kernel_rfl

theorem open_lots {H : Type} {enc : TypeId × Value → H} {w : World} {a : Option Addr} {len cap fuel : Nat} {x : DataW H × List MemPlace}
    (hx : DataW.trod enc Try.prog w 0 (fun _ => true) true fuel 22 [.slice a len cap] = some x) :
    ∃ (hs : Nat → ByteArray) (cs ds ks : Nat → Int) (rs : Nat → Bool), LotsArg w a len hs cs ds ks rs := by
  rcases open_slice Try.underlying22 hx with ⟨hcs, _⟩ | ⟨a', len', cap', m, n, D, Pl, hcs, _, hl, hm, hmm, _, hel⟩
  · simp at hcs
    obtain ⟨rfl, rfl, rfl⟩ := hcs
    exact ⟨fun _ => ByteArray.empty, fun _ => 0, fun _ => 0, fun _ => 0, fun _ => false, ⟨fun _ => rfl, .inl rfl⟩⟩
  · simp at hcs
    obtain ⟨rfl, rfl, rfl⟩ := hcs
    have hlm : len ≤ m := by rw [hmm]; simpa using hl
    have each : ∀ i, i < len → ∃ q : ByteArray × Int × Int × Int × Bool, w.cell? (a'.add (i * 5)) = some (.string q.1) ∧ w.cell? (a'.add (i * 5 + 1)) = some (.int .i64 q.2.1) ∧ w.cell? (a'.add (i * 5 + 2)) = some (.int .i32 q.2.2.1) ∧ w.cell? (a'.add (i * 5 + 3)) = some (.int .u16 q.2.2.2.1) ∧ w.cell? (a'.add (i * 5 + 4)) = some (.bool q.2.2.2.2) := by
      intro i hi
      obtain ⟨cs', h1, h2⟩ := hel i (by omega)
      rw [cells30] at h1
      obtain ⟨_, hlen, hcell⟩ := World.cells?_some h1
      obtain ⟨xs, k, _, _, _, hxl, hf⟩ := DataW.trod_struct Try.underlying30 h2
      match xs, hxl, cs', hlen with
      | [y0, y1, y2, y3, y4], _, [v0, v1, v2, v3, v4], _ =>
        have g0 := hf 0 _ rfl
        have g1 := hf 1 _ rfl
        have g2 := hf 2 _ rfl
        have g3 := hf 3 _ rfl
        have g4 := hf 4 _ rfl
        simp [cells9, cells2, cells21, cells28, cells4] at g0 g1 g2 g3 g4
        have e0 := hcell 0 (by omega)
        have e1 := hcell 1 (by omega)
        have e2 := hcell 2 (by omega)
        have e3 := hcell 3 (by omega)
        have e4 := hcell 4 (by omega)
        rw [Deep.add_add] at e0 e1 e2 e3 e4
        obtain ⟨s0, q0, _, _⟩ := DataW.trod_string Try.underlying9 g0
        obtain ⟨s1, q1, _, _⟩ := DataW.trod_int Try.underlying2 g1
        obtain ⟨s2, q2, _, _⟩ := DataW.trod_int Try.underlying21 g2
        obtain ⟨s3, q3, _, _⟩ := DataW.trod_int Try.underlying28 g3
        obtain ⟨s4, q4, _⟩ := DataW.trod_bool Try.underlying4 g4
        simp at q0 q1 q2 q3 q4
        subst q0 q1 q2 q3 q4
        exact ⟨(s0, s1, s2, s3, s4), by simpa using e0, by simpa using e1, by simpa using e2, by simpa using e3, by simpa using e4⟩
    by_cases h0 : len = 0
    · exact ⟨fun _ => ByteArray.empty, fun _ => 0, fun _ => 0, fun _ => 0, fun _ => false, ⟨by simp, .inl h0⟩⟩
    · obtain ⟨b, o, spot⟩ := a'
      obtain ⟨q0, hq0, _⟩ := each 0 (by omega)
      have hspot : spot = none := by simpa [Addr.add] using World.cell?_spot hq0
      subst hspot
      obtain ⟨f, hf⟩ := choose_lt each
      refine ⟨fun i => (f i).1, fun i => (f i).2.1, fun i => (f i).2.2.1, fun i => (f i).2.2.2.1, fun i => (f i).2.2.2.2, ⟨by simp, .inr ⟨b, o, rfl, ?_, ?_, ?_, ?_, ?_⟩⟩⟩
      all_goals
        intro i hi
        have := hf i hi
        simp only [Addr.add_mid, ← Nat.add_assoc] at this
      · exact this.1
      · exact this.2.1
      · exact this.2.2.1
      · exact this.2.2.2.1
      · exact this.2.2.2.2

end Go.Proofs.Qxb6601545a
