/-
  The row of FnCycleFoundExactlyWhenReachable.
-/
import Derived.Test.Qxb6601698aKk
namespace Go.Proofs.Qxb6601698a
open Go.ChangeShapes Go.WideShapes Go.ChangeAt Go.RowKit Go.Deep Go.WideElems

def keyIs (s : ByteArray) (x : MapEntry) : Bool := match x.key with
  | .string t => decide (t = s)
  | _ => false
theorem keyIs_true {s : ByteArray} {x : MapEntry} (h : keyIs s x = true) : x.key = .string s := by
  unfold keyIs at h
  split at h
  · rename_i t ht
    rw [ht]
    have : t = s := by simpa using h
    rw [this]
  · cases h

/-- A map as it came in. -/
theorem mp_of_fit {H : Type} {R : Value → Option (DataW H × List MemPlace)} {w : World} {b clock : Nat} {es : Array MapEntry} (hb : w.heap[b]? = some (.map es clock)) (F : Fit Try.prog 9 R es clock) :
    Mp w b es.size (fun s => (es.toList.find? (keyIs s)).map (·.val)) := by
  have F' : Fit Try.prog 9 RV es clock := ⟨F.size, F.stamped, fun x hx => by
    obtain ⟨y, hy⟩ := F.reads x hx
    have hk := rd_key hy
    exact ⟨(y.1, .held x.val), by unfold rd; rw [hk]; rfl⟩⟩
  have hent : ∀ x ∈ es.toList, ∃ t : ByteArray, x.key = .string t ∧ rg Try.prog 9 RV x = (kl t, .held x.val) := fun x hx => by
    obtain ⟨y, hy⟩ := F.reads x hx
    have hk := rd_key hy
    obtain ⟨t, ht, hl, _⟩ := WideMaps.string_of_keyOf Try.underlying9 hk
    refine ⟨t, ht, ?_⟩
    unfold rg rd
    rw [hk, hl]
    rfl
  have hat : ∀ s (z : DataW Value), (DataW.map ((es.toList.map (rg Try.prog 9 RV)).foldr DataW.insert [])).atKey (kl s) z = (match (es.toList.find? (keyIs s)).map (·.val) with | some v => .held v | none => z) := fun s z => by
    have hs := atKey_sorted (es.toList.map (rg Try.prog 9 RV)) (Maps.fit_rising keyed9 F') (kl s) isKey
    cases hq : es.toList.find? (keyIs s) with
    | none =>
      refine hs.1 (fun p hp e => ?_) z
      obtain ⟨x, hx, rfl⟩ := List.mem_map.1 hp
      obtain ⟨t, ht, hr⟩ := hent x hx
      rw [hr] at e
      have ets : t = s := kl_inj e
      have := List.find?_eq_none.1 hq x hx
      simp [keyIs, ht, ets] at this
    | some x =>
      have hx := List.mem_of_find?_eq_some hq
      have hk := keyIs_true (List.find?_some hq)
      obtain ⟨t, ht, hr⟩ := hent x hx
      have ets : t = s := by rw [hk] at ht; injection ht with e; exact e.symm
      have := hs.2 (rg Try.prog 9 RV x) (List.mem_map_of_mem hx) (by rw [hr, ets]) z
      rw [this, hr]
      rfl
  refine ⟨_, ⟨es, clock, hb, F', Nat.le_refl _, rfl⟩, fun s z => ?_, fun s => ?_⟩
  · show _ = DataW.held (((es.toList.find? (keyIs s)).map (·.val)).getD z)
    rw [hat s (.held z)]
    cases (es.toList.find? (keyIs s)).map (·.val) <;> rfl
  · show _ = ((es.toList.find? (keyIs s)).map (·.val)).isSome
    cases hq : (es.toList.find? (keyIs s)).map (·.val) with
    | none =>
      refine Maps.has_false_of_atKey (fun z => ?_)
      rw [hat s z, hq]
    | some v =>
      refine Maps.has_true_of_atKey (y := .held v) (fun z => ?_)
      rw [hat s z, hq]

theorem open_res {H : Type} {enc : TypeId × Value → H} {w : World} {mo : Option Nat} {fuel : Nat} {x : DataW H × List MemPlace}
    (hx : DataW.trod enc Try.prog w 0 (fun _ => true) true fuel 49 [.map mo] = some x) : ∃ dep, Res w (.map mo) dep := by
  rcases open_map Try.underlying49 hx with ⟨hcs, _⟩ | ⟨b, es, clock, n, _, hcs, hb, _, F, _⟩
  · simp at hcs
    subst hcs
    exact ⟨fun _ => none, .inl ⟨rfl, fun _ => rfl⟩⟩
  · simp at hcs
    subst hcs
    have hm := mp_of_fit hb F
    have each : ∀ s, ∃ r : Option (List ByteArray), (r = none ∧ (es.toList.find? (keyIs s)).map (·.val) = none) ∨ ∃ l a cap, r = some l ∧ (es.toList.find? (keyIs s)).map (·.val) = some (.slice a l.length cap) ∧ Strs w a l := fun s => by
      cases hq : es.toList.find? (keyIs s) with
      | none => exact ⟨none, .inl ⟨rfl, rfl⟩⟩
      | some e0 =>
        have he := List.mem_of_find?_eq_some hq
        obtain ⟨y, hy⟩ := F.reads e0 he
        obtain ⟨z, hz, _⟩ := rd_val hy
        unfold elemAt at hz
        split at hz
        · rename_i hform
          have hsl : ∃ a len cap, e0.val = .slice a len cap := by
            have hone : ∃ v, e0.val.cells.toList = [v] ∧ ∃ a len cap, v = .slice a len cap := by
              rcases open_slice Try.underlying23 hz with ⟨hcs, _⟩ | ⟨a', len', cap', m, n, D, Pl, hcs, _⟩
              · exact ⟨_, hcs, _, _, _, rfl⟩
              · exact ⟨_, hcs, _, _, _, rfl⟩
            obtain ⟨v, hcs, a, len, cap, rfl⟩ := hone
            cases hv : e0.val with
            | slice a len cap => exact ⟨_, _, _, rfl⟩
            | agg cs =>
              rw [hv] at hform
              simp [Value.formed, Try.underlying23] at hform
            | _ =>
              rw [hv] at hcs
              simp [Value.cells] at hcs
          obtain ⟨a, len, cap, hv⟩ := hsl
          rw [hv] at hz
          obtain ⟨l, hl, hst⟩ := open_strs (by simpa [Value.cells] using hz)
          subst hl
          exact ⟨some l, .inr ⟨l, a, cap, rfl, by rw [Option.map_some, hv], hst⟩⟩
        · cases hz
    refine ⟨fun s => Classical.choose (each s), .inr ⟨b, es.size, _, rfl, hm, fun s => ?_⟩⟩
    rcases Classical.choose_spec (each s) with ⟨h1, h2⟩ | ⟨l, a, cap, h1, h2, h3⟩
    · exact .inl ⟨h1, h2⟩
    · exact .inr ⟨l, a, cap, h1, h2, h3⟩

end Go.Proofs.Qxb6601698a
namespace Go.Proofs.Qxb6601698a.cyc
open Go.ChangeShapes Go.WideShapes Go.ChangeAt Go.RowKit
set_option linter.unusedVariables false

set_option maxRecDepth 100000 in
theorem lifted (os : Os) (started : os.Started) (H : Type) (enc : TypeId × Value → H) :
    ReturnsInHanded {} Try.checked os 7 .any (Rows.fnCycleFoundExactlyWhenReachableSpec.pre6 enc Try.prog Try.f7 Rows.fnCycleFoundExactlyWhenReachableRow.domain false) (Rows.fnCycleFoundExactlyWhenReachableSpec.post enc Try.prog Try.f7 false true false false) := by
  refine returnsInHanded_of_change (C := Try.checked) own started (by kernel_rfl) Try.func7
    (ChangeSpec.witness6 (enc := enc) (C := Try.checked) false ⟨#[], #[.map none, .slice none 0 0], []⟩ 8 (by kernel_rfl) (by kernel_rfl) (by kernel_rfl) (by kernel_rfl)) ?_
  intro W base args ds gs before hval0 hW hcnd _
  have hval : ∀ (j : Nat) t v, Try.f7.params[j]? = some t → args[j]? = some v → Value.okWide Try.prog W .any base t v := hval0
  have hW' := hW
  obtain ⟨p, q, hA0, hV, rfl, hfz, hnd⟩ := hW
  have hA : DataW.TrodAll enc Try.prog W 0 (fun _ => true) true Try.f7.params.toList args.toList ds p := hA0
  rw [Try.params7] at hA hval
  obtain ⟨v0, vs0, d0, ds0, p0, q0, hargs, rfl, rfl, h0, r0⟩ := trodAll_cons hA
  obtain ⟨v1, vs1, d1, ds1, p1, q1, rfl, rfl, rfl, h1, r1⟩ := trodAll_cons r0
  obtain ⟨rfl, rfl, rfl⟩ := trodAll_nil r1
  obtain rfl : args = #[v0, v1] := by cases args; simp_all
  obtain ⟨rfl, rfl⟩ := trodVars_none hV
  obtain ⟨mo, rfl⟩ := okWide_map Try.underlying49 (hval 0 49 v0 rfl rfl)
  obtain ⟨a1, len1, cap1, rfl⟩ := okWide_slice Try.underlying23 (hval 1 23 v1 rfl rfl)
  have k0 := h0
  have lt0 : ∀ x ∈ p0, x.block < W.heap.size := by obtain ⟨m, hm⟩ := k0; exact DataW.trod_lt m _ _ _ hm
  have k1 := h1
  have lt1 : ∀ x ∈ p1, x.block < W.heap.size := by obtain ⟨m, hm⟩ := k1; exact DataW.trod_lt m _ _ _ hm
  obtain ⟨dep, hR⟩ : ∃ dep, Res W (.map mo) dep := by
    obtain ⟨fuel, hf⟩ := h0
    exact open_res (by simpa [Value.cells] using hf)
  obtain ⟨roots, hrl, hr⟩ : ∃ xs : List ByteArray, xs.length = len1 ∧ Strs W a1 xs := by
    obtain ⟨fuel, hf⟩ := h1
    exact open_strs (by simpa [Value.cells] using hf)
  subst hrl
  clear hA0 hval0
  refine (law7_any mo a1 roots cap1 dep W hR hr).mono fun e W' ⟨he, g⟩ => ?_
  have bel : Below W.heap.size W W' := ⟨g.os, g.tape, g.output, g.size, fun k hk => g.block k hk (fun t => t)⟩
  subst he
  exact ⟨_, rfl, _, _, _, [], _, [], hW', trodAll_mk1 (shut_bool Try.underlying4 _),
    (trodAll_cons_mk (Below.trod laidOut (by kernel_rfl) (of_decide_eq_true (by kernel_rfl)) k0 bel lt0) (trodAll_cons_mk (Below.trod laidOut (by kernel_rfl) (of_decide_eq_true (by kernel_rfl)) k1 bel lt1) trodAll_mk0)), rfl, bel.frame _, fun h => by cases h⟩

theorem over : Rows.fnCycleFoundExactlyWhenReachableRow.holds Try.pinned (OpenSpec.ofChange Rows.fnCycleFoundExactlyWhenReachableSpec) :=
  OpenClaim.holds_of_wide 7 Try.f7 rfl rfl rfl rfl rfl rfl rfl ⟨rfl, rfl, rfl, rfl, rfl⟩ rfl rfl rfl rfl rfl (by kernel_rfl) Try.func7 (by kernel_rfl)
    (of_decide_eq_true (by kernel_rfl)) (by unfold Func.isWrapper; first | (rw [if_pos (by decide +kernel)]; kernel_rfl) | (rw [if_neg (by decide +kernel)]; exact ⟨rfl, rfl⟩))
    (fun os started H enc _ => lifted os started H enc)

end Go.Proofs.Qxb6601698a.cyc
namespace Go.Proofs.Qxb6601698a
/-- THE STATEMENT. -/
theorem proved_cycle : Rows.FnCycleFoundExactlyWhenReachableSaid := cyc.over
end Go.Proofs.Qxb6601698a
