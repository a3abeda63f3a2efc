/-
  A []string and a [][]int as they came in.
-/
import Derived.Test.Qxb6601698aSf
import Derived.ProofKit
import Derived.OpenShut
import Derived.ShutString
import Derived.ChangeOld
import Derived.Deep.Slices
namespace Go.Proofs.Qxb6601698a
open Go.ChangeShapes Go.WideShapes Go.ChangeAt Go.RowKit Go.Deep Go.WideElems

theorem own : ownKnob Try.prog.godebug = none := by kernel_rfl
theorem laidOut : laidOutB Try.prog = true := by kernel_rfl
theorem cells9 : Try.prog.cellsOf 9 = 1 := by kernel_rfl

theorem open_strs {H : Type} {enc : TypeId × Value → H} {w : World} {a : Option Addr} {len cap fuel base : Nat} {sp : Nat → Bool} {held : Bool} {x : DataW H × List MemPlace}
    (hx : DataW.trod enc Try.prog w base sp held fuel 23 [.slice a len cap] = some x) : ∃ xs : List ByteArray, xs.length = len ∧ Strs w a xs := by
  rcases open_slice Try.underlying23 hx with ⟨hcs, _⟩ | ⟨a', len', cap', m, n, D, Pl, hcs, _, hl, hm, hmm, _, hel⟩
  · simp at hcs
    obtain ⟨rfl, rfl, rfl⟩ := hcs
    exact ⟨[], rfl, fun _ => rfl, fun i hi => by simp at hi⟩
  · simp at hcs
    obtain ⟨rfl, rfl, rfl⟩ := hcs
    have hlm : len ≤ m := by rw [hmm]; split <;> omega
    have each : ∀ i, i < len → ∃ q : ByteArray, w.cell? (a'.add i) = some (.string q) := by
      intro i hi
      obtain ⟨cs', h1, h2⟩ := hel i (by omega)
      rw [cells9] at h1
      obtain ⟨_, hlen, hcell⟩ := World.cells?_some h1
      match cs', hlen with
      | [v0], _ =>
        have e0 := hcell 0 (by omega)
        rw [Deep.add_add] at e0
        obtain ⟨s0, q0, _, _⟩ := DataW.trod_string Try.underlying9 h2
        simp at q0
        subst q0
        exact ⟨s0, by simpa using e0⟩
    haveI : Inhabited ByteArray := ⟨noS⟩
    obtain ⟨f, hf⟩ := choose_lt each
    refine ⟨(List.range len).map f, by simp, (fun e => by cases e), fun i hi => ?_⟩
    have hi' : i < len := by simpa using hi
    obtain ⟨b, o, spot⟩ := a'
    have h0 := hf i hi'
    have hspot : spot = none := by
      have h00 := hf 0 (by omega)
      simpa [Addr.add] using World.cell?_spot h00
    subst hspot
    refine ⟨b, o, rfl, ?_⟩
    have hg : ((List.range len).map f).getD i ByteArray.empty = f i := by simp [List.getD, hi']
    rw [hg]
    simpa only [Addr.add_mid] using h0

theorem cells3 : Try.prog.cellsOf 3 = 1 := by kernel_rfl
theorem cells25 : Try.prog.cellsOf 25 = 1 := by kernel_rfl

theorem open_ints {H : Type} {enc : TypeId × Value → H} {w : World} {a : Option Addr} {len cap fuel base : Nat} {sp : Nat → Bool} {held : Bool} {x : DataW H × List MemPlace}
    (hx : DataW.trod enc Try.prog w base sp held fuel 25 [.slice a len cap] = some x) : ∃ xs : List Int, xs.length = len ∧ Ints w a xs := by
  rcases open_slice Try.underlying25 hx with ⟨hcs, _⟩ | ⟨a', len', cap', m, n, D, Pl, hcs, _, hl, hm, hmm, _, hel⟩
  · simp at hcs
    obtain ⟨rfl, rfl, rfl⟩ := hcs
    exact ⟨[], rfl, fun _ => rfl, fun i hi => by simp at hi⟩
  · simp at hcs
    obtain ⟨rfl, rfl, rfl⟩ := hcs
    have hlm : len ≤ m := by rw [hmm]; split <;> omega
    have each : ∀ i, i < len → ∃ q : Int, w.cell? (a'.add i) = some (.int .i64 q) := by
      intro i hi
      obtain ⟨cs', h1, h2⟩ := hel i (by omega)
      rw [cells3] at h1
      obtain ⟨_, hlen, hcell⟩ := World.cells?_some h1
      match cs', hlen with
      | [v0], _ =>
        have e0 := hcell 0 (by omega)
        rw [Deep.add_add] at e0
        obtain ⟨s0, q0, _, _⟩ := DataW.trod_int Try.underlying3 h2
        simp at q0
        subst q0
        exact ⟨s0, by simpa using e0⟩
    obtain ⟨f, hf⟩ := choose_lt each
    refine ⟨(List.range len).map f, by simp, (fun e => by cases e), fun i hi => ?_⟩
    have hi' : i < len := by simpa using hi
    obtain ⟨b, o, spot⟩ := a'
    have h0 := hf i hi'
    have hspot : spot = none := by
      have h00 := hf 0 (by omega)
      simpa [Addr.add] using World.cell?_spot h00
    subst hspot
    refine ⟨b, o, rfl, ?_⟩
    have hg : ((List.range len).map f).getD i 0 = f i := by simp [List.getD, hi']
    rw [hg]
    simpa only [Addr.add_mid] using h0

theorem open_ints2 {H : Type} {enc : TypeId × Value → H} {w : World} {a : Option Addr} {len cap fuel base : Nat} {sp : Nat → Bool} {held : Bool} {x : DataW H × List MemPlace}
    (hx : DataW.trod enc Try.prog w base sp held fuel 24 [.slice a len cap] = some x) : ∃ xss : List (List Int), xss.length = len ∧ Ints2 w a xss := by
  rcases open_slice Try.underlying24 hx with ⟨hcs, _⟩ | ⟨a', len', cap', m, n, D, Pl, hcs, _, hl, hm, hmm, _, hel⟩
  · simp at hcs
    obtain ⟨rfl, rfl, rfl⟩ := hcs
    exact ⟨[], rfl, fun _ => rfl, fun i hi => by simp at hi⟩
  · simp at hcs
    obtain ⟨rfl, rfl, rfl⟩ := hcs
    have hlm : len ≤ m := by rw [hmm]; split <;> omega
    have each : ∀ i, i < len → ∃ q : List Int, ∃ av cap2, w.cell? (a'.add i) = some (.slice av q.length cap2) ∧ Ints w av q := by
      intro i hi
      obtain ⟨cs', h1, h2⟩ := hel i (by omega)
      rw [cells25] at h1
      obtain ⟨_, hlen, hcell⟩ := World.cells?_some h1
      match cs', hlen with
      | [v0], _ =>
        have e0 := hcell 0 (by omega)
        rw [Deep.add_add] at e0
        obtain ⟨av, l2, c2, rfl⟩ : ∃ av l2 c2, v0 = .slice av l2 c2 := by
          rcases open_slice Try.underlying25 h2 with ⟨hcs, _⟩ | ⟨a', len', cap', m, n, D, Pl, hcs, _⟩
          · simp at hcs
            exact ⟨_, _, _, hcs⟩
          · simp at hcs
            exact ⟨_, _, _, hcs⟩
        obtain ⟨xs, hxl, hxi⟩ := open_ints h2
        subst hxl
        exact ⟨xs, av, c2, by simpa using e0, hxi⟩
    obtain ⟨f, hf⟩ := choose_lt each
    refine ⟨(List.range len).map f, by simp, (fun e => by cases e), fun i hi => ?_⟩
    have hi' : i < len := by simpa using hi
    obtain ⟨b, o, spot⟩ := a'
    obtain ⟨av, c2, h0, hin⟩ := hf i hi'
    have hspot : spot = none := by
      obtain ⟨_, _, h00, _⟩ := hf 0 (by omega)
      simpa [Addr.add] using World.cell?_spot h00
    subst hspot
    have hg : rowOf ((List.range len).map f) i = f i := by simp [rowOf, List.getD, hi']
    rw [hg]
    exact ⟨b, o, rfl, av, c2, by simpa only [Addr.add_mid] using h0, hin⟩

end Go.Proofs.Qxb6601698a
