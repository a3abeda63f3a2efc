/-
  api.ZZMakeLinks (16), api.ZZComponents (23).
-/
import Derived.Test.Qxb6601698aTg
import Derived.Test.Qxb6601698aSa
namespace Go.Proofs.Qxb6601698a
open Go.RowKit

def RetLinks (w w' : World) (v0 v1 v2 v3 v4 v5 : Value) (e : Ending) : Prop := e = .returned (.agg #[v0, v1, v2, v3, v4, v5]) ∧ Grow w w'

set_option maxHeartbeats 400000 in
theorem makeLinks_any (na da : Option Addr) (nl nc dl dc : Nat) (w : World) :
    Calls Try.prog 16 #[.map none, .slice na nl nc, .slice da dl dc, .slice none 0 0, .slice none 0 0, .slice none 0 0] w fun e w' =>
      RetLinks w w' (.map none) (.slice na nl nc) (.slice da dl dc) (.slice none 0 0) (.slice none 0 0) (.slice none 0 0) e := by
  go_enter Try.func16, Try.ntmps16
  go_wp2
  exact bodyPost_ret (v := .agg #[.map none, .slice na nl nc, .slice da dl dc, .slice none 0 0, .slice none 0 0, .slice none 0 0]) (by simp [results, Try.results16, go_sem]) rfl ⟨rfl, (Grow.refl _).alloc _⟩

theorem offs_at : ∀ (ML : List (List Nat)) (k c : Nat) (S : List Nat), ML[c]? = some S → ∃ o, (offs ML k)[c]? = some (k + o, S.length) ∧ ∀ i, i < S.length → ML.flatten[o + i]? = S[i]?
  | [], k, c, S, h => by simp at h
  | T :: r, k, 0, S, h => by
    have e : T = S := by simpa using h
    subst e
    refine ⟨0, rfl, fun i hi => ?_⟩
    rw [Nat.zero_add, List.flatten_cons, List.getElem?_append_left hi]
  | T :: r, k, c + 1, S, h => by
    obtain ⟨o, h1, h2⟩ := offs_at r (k + T.length) c S (by simpa using h)
    refine ⟨T.length + o, by rw [← Nat.add_assoc]; simpa [offs] using h1, fun i hi => ?_⟩
    rw [List.flatten_cons, List.getElem?_append_right (by omega), show T.length + o + i - T.length = o + i by omega]
    exact h2 i hi

/-- What '(Links).components' hands back, as it is read. -/
def RetC (w w' : World) (n : Nat) (adj : Nat → List Nat) (e : Ending) : Prop := ∃ ma mc cb comp ML, e = .returned (.tuple #[.slice ma (ML : List (List Nat)).length mc, .slice (some ⟨cb, 0, none⟩) n n]) ∧ Grow w w' ∧ Parted n adj comp ML ∧
  Rows2 w' ma ML.length (fun c => ML.getD c []) ∧ w'.rowIs cb 3 n (fun j => natV (comp j)) ∧ w.heap.size ≤ cb

theorem RetComp.read {w0 w w' : World} {n : Nat} {adj : Nat → List Nat} {e : Ending} (h : RetComp w w' n adj e) (hg : Grow w0 w) : RetC w0 w' n adj e := by
  obtain ⟨mv, comp, ML, ord, rfl, hgr, hP, rfl, hm, hc, ho⟩ := h
  rw [offs_length] at hm
  obtain ⟨ma, ml, mc, rfl⟩ : ∃ a l c, mv = .slice a l c := by
    rcases hm.2 with ⟨h, _⟩ | ⟨g, cap, cur, h, _⟩
    · exact ⟨_, _, _, h⟩
    · exact ⟨_, _, _, h⟩
  have hml : ml = ML.length := by
    rcases hm.2 with ⟨h, h0⟩ | ⟨g, cap, cur, h, _⟩
    · injection h with _ h2 _
      omega
    · injection h with _ h2 _
  subst hml
  refine ⟨ma, mc, _, comp, ML, rfl, hg.trans hgr, hP, fun c hc => ?_, hc, by have := hg.size; omega⟩
  have hS : ML[c]? = some (ML.getD c []) := by simp [List.getD, hc]
  obtain ⟨o, h1, h2⟩ := offs_at ML 0 c _ hS
  obtain ⟨mb, mcc, e1, hb, _⟩ := hm.form (by omega)
  injection e1 with e1 _ _
  refine ⟨mb, 0, e1, some ⟨w.heap.size + 2, o, none⟩, (ML.getD c []).length, ?_, ?_⟩
  · have hcell := hm.cells (g := mb) (by rw [e1]; rfl) c (partV w.heap.size (0 + o, (ML.getD c []).length)) (by simp [h1])
    simpa [partV, Addr.add_mid] using hcell
  · refine ⟨fun e => (by cases e), fun i hi => ⟨w.heap.size + 2, o, rfl, ?_⟩⟩
    have hi : i < (ML.getD c []).length := hi
    have h3 := h2 i hi
    have h4 : (ML.getD c [])[i]? = some ((ML.getD c []).getD i 0) := by
      generalize ML.getD c [] = S at *
      simp [List.getD, hi]
    rw [h4] at h3
    have hcell := ho.cells (g := w.heap.size + 2) rfl (o + i) (natV ((ML.getD c []).getD i 0)) (by rw [List.getElem?_map, h3]; rfl)
    simpa [natV, Addr.add_mid] using hcell

set_option maxRecDepth 100000 in
set_option maxHeartbeats 1600000 in
theorem zzComponents_any (v0 v3 v4 v5 : Value) (na da : Option Addr) (n nc dl dc : Nat) (adj : Nat → List Nat) (w : World) (hG : Graph n adj) (hR : Rows2 w da n adj) (hdl : n ≤ dl) (_ : v0.oneCell' = true) (_ : v3.oneCell' = true) (_ : v4.oneCell' = true) (_ : v5.oneCell' = true) :
    Calls Try.prog 23 #[.agg #[v0, .slice na n nc, .slice da dl dc, v3, v4, v5]] w fun e w' => RetC w w' n adj e := by
  go_enter Try.func23, Try.ntmps23
  go_wp2_with fail

  refine (components_any _ _ _ _ na da n nc dl dc adj _ hG (hR.grow ((Grow.refl w).alloc _)) hdl).mono ?_
  intro e w' h
  have h2 := h.read ((Grow.refl w).alloc _)
  obtain ⟨ma, mc, cb, comp, ML, rfl, h3⟩ := h2
  have H3 : Hid _ := h3
  clear h h3
  go_wp2
  exact bodyPost_ret (v := .tuple #[.slice ma ML.length mc, .slice (some ⟨cb, 0, none⟩) n n]) (by simp [results, Try.results23, go_sem]) rfl ⟨ma, mc, cb, comp, ML, rfl, H3.out⟩

end Go.Proofs.Qxb6601698a
