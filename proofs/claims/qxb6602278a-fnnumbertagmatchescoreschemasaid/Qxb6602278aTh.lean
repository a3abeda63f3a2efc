/-
  The walk of FnNumberTagMatchesCoreSchema (3), and the row (the frame as the kit's skeleton writes it).
-/
import Derived.Test.Qxb6602278aTg
import Derived.ProofKit
import Derived.OpenShut
import Derived.ShutString
import Derived.ChangeOld
import Derived.Below
namespace Go.Proofs.Qxb6602278a.fnNumberTag
open Go.ChangeShapes Go.WideShapes Go.ChangeAt Go.RowKit
open Go.ChangeMaps (open_string shut_string)
set_option linter.unusedVariables false

theorem own : ownKnob Try.prog.godebug = none := by kernel_rfl

set_option maxHeartbeats 400000 in
theorem zzBytes_any (s : ByteArray) (w : World) (hs : s.size ≤ maxLen) : Calls Try.prog 7 #[.string s] w fun e w' => e = .returned (.bool (decide (s.size ≤ 1048576))) ∧ w' = w := by
  unfold maxLen at hs
  by_cases h : s.size ≤ 1048576
  · go_enter Try.func7, Try.ntmps7
    go_wp2
    go_ret
    exact ⟨ret_bool (by simpa using h), rfl⟩
  · go_enter Try.func7, Try.ntmps7
    go_wp2
    go_ret
    exact ⟨ret_bool (by simpa using h), rfl⟩

set_option maxHeartbeats 400000 in
theorem ZZnumberTag_any (s : ByteArray) (w : World) (hs : s.size ≤ 1048576) :
    Calls Try.prog 8 #[.string s] w fun e w' => e = .returned (.string (tagS (numTag s.data.toList))) ∧ Below w.heap.size w w' := by
  go_enter Try.func8, Try.ntmps8
  go_wp2_with fail
  cases h : isNaN s.data.toList with
  | true =>
    have HV : Hid (numTag s.data.toList = 2) := by simp [Hid, numTag, h]
    refine (numberTag_nan _ _ h).mono ?_
    rintro e w1 ⟨rfl, hb⟩
    clear h
    go_wp2
    go_ret
    exact ⟨by rw [HV.out]; rfl, hb⟩
  | false =>
    refine (numberTag_rest _ _ hs h).mono ?_
    rintro e w1 ⟨rfl, hb⟩
    clear h
    go_wp2
    go_ret
    exact ⟨rfl, hb⟩

set_option maxHeartbeats 400000 in
theorem walk (s : ByteArray) (w0 : s.size ≤ maxLen) (w : World) :
    Calls Try.prog 3 #[.string s] w fun e w' => e = .returned (.bool true) ∧ Below w.heap.size w w' := by
  by_cases hs : s.size ≤ 1048576
  · go_enter Try.func3, Try.ntmps3
    go_wp2_with fail
    refine (zzBytes_any _ _ w0).mono ?_
    rintro e w' ⟨rfl, rfl⟩
    rw [decide_eq_true hs]
    go_wp2_with fail
    refine (ZZnumberTag_any _ _ hs).mono ?_
    rintro e w1 ⟨rfl, hb⟩
    go_wp2_with fail
    refine (coreSchemaTag_any _ _ hs).mono ?_
    rintro e w' ⟨rfl, rfl⟩
    rw [tags_agree]
    go_wp2
    go_ret
    exact ⟨by simp, hb⟩
  · go_enter Try.func3, Try.ntmps3
    go_wp2_with fail
    refine (zzBytes_any _ _ w0).mono ?_
    rintro e w' ⟨rfl, rfl⟩
    rw [decide_eq_false hs]
    go_wp2
    go_ret
    exact ⟨rfl, Below.refl _ _⟩

/-! ### THE ROW's STEP: WRITTEN OUT: LEAVE IT -/
set_option maxRecDepth 100000 in
theorem lifted (os : Os) (started : os.Started) (H : Type) (enc : TypeId × Value → H) :
    ReturnsInHanded {} Try.checked os 3 .any (Rows.fnNumberTagMatchesCoreSchemaSpec.pre6 enc Try.prog Try.f3 Rows.fnNumberTagMatchesCoreSchemaRow.domain false) (Rows.fnNumberTagMatchesCoreSchemaSpec.post enc Try.prog Try.f3 false true false false) := by
  refine returnsInHanded_of_change (C := Try.checked) own started (by kernel_rfl) Try.func3
    (ChangeSpec.witness6 (enc := enc) (C := Try.checked) false ⟨#[], #[.string ByteArray.empty], []⟩ 8 (by kernel_rfl) (by kernel_rfl) (by kernel_rfl) (by kernel_rfl)) ?_
  intro W base args ds gs before hval0 hW hcnd _
  have hval : ∀ (j : Nat) t v, Try.f3.params[j]? = some t → args[j]? = some v → Value.okWide Try.prog W .any base t v := hval0
  have hW' := hW
  obtain ⟨p, q, hA0, hV, rfl, hfz, hnd⟩ := hW
  have hA : DataW.TrodAll enc Try.prog W 0 (fun _ => true) true Try.f3.params.toList args.toList ds p := hA0
  rw [Try.params3] at hA hval
  obtain ⟨v0, vs0, d0, ds0, p0, q0, hargs, rfl, rfl, h0, r0⟩ := trodAll_cons hA
  obtain ⟨rfl, rfl, rfl⟩ := trodAll_nil r0
  obtain rfl : args = #[v0] := by cases args; simp_all
  obtain ⟨rfl, rfl⟩ := trodVars_none hV
  obtain ⟨a0, rfl, rfl, rfl, w0⟩ := open_string Try.underlying9 (hval 0 9 v0 rfl rfl) h0
  clear hA0 hval0
  refine (walk a0 w0 W).mono fun e W' ⟨he, bel⟩ => ?_
  subst he
  exact ⟨_, rfl, _, _, _, [], _, [], hW', trodAll_mk1 (shut_bool Try.underlying4 _), (trodAll_cons_mk (shut_string Try.underlying9 w0) trodAll_mk0), rfl, bel.frame _, fun h => by cases h⟩

theorem over : Rows.fnNumberTagMatchesCoreSchemaRow.holds Try.pinned (OpenSpec.ofChange Rows.fnNumberTagMatchesCoreSchemaSpec) :=
  OpenClaim.holds_of_wide 3 Try.f3 rfl rfl rfl rfl rfl rfl rfl ⟨rfl, rfl, rfl, rfl, rfl⟩ rfl rfl rfl rfl rfl (by kernel_rfl) Try.func3 (by kernel_rfl)
    (of_decide_eq_true (by kernel_rfl)) (by unfold Func.isWrapper; first | (rw [if_pos (by decide +kernel)]; kernel_rfl) | (rw [if_neg (by decide +kernel)]; exact ⟨rfl, rfl⟩))
    (fun os started H enc _ => lifted os started H enc)

end Go.Proofs.Qxb6602278a.fnNumberTag
namespace Go.Proofs.Qxb6602278a
/-- THE STATEMENT. -/
theorem proved_numberTag : Rows.FnNumberTagMatchesCoreSchemaSaid := fnNumberTag.over
end Go.Proofs.Qxb6602278a
