/-
  A region that draws its order and ENDS IN A STORE INTO A CELL THAT IT HAS READ ('x.f = append(x.f, v)', 'x.f = x.f[:n]'): the reads may be taken first under a condition S on the world, S to be shown anew behind every operation BUT THE LAST STORE, which waits for every read that was so taken.
-/
import Derived.OrdersHeld
import Derived.StillTail
import Derived.Deep.RegionHeld
namespace Go.Proofs.Qxb6601698a

section
variable {P : Program} {ops : Array Oper} {Q : Exit → Act → World → Prop} {md : Region.Mode} {S : World → Prop} {st : Nat}

/-- Whatever order is picked from here on; S holds behind every operation but number st. -/
def anyBut (P : Program) (md : Region.Mode) (ops : Array Oper) (Q : Exit → Act → World → Prop) (S : World → Prop) (st : Nat) : Nat → Array Bool → Act → World → Prop
  | 0, listed, a, w => Region.ready md ops listed = [] ∧ Q .normal a w
  | fuel + 1, listed, a, w =>
    (Region.ready md ops listed = [] → Q .normal a w) ∧
    ∀ i ∈ Region.ready md ops listed, wpOp P ops Q i (fun a' w' => (i = st ∨ S w') ∧ anyBut P md ops Q S st fuel (listed.setIfInBounds i true) a' w') a w

theorem any_of_but : ∀ (fuel : Nat) (listed : Array Bool) (a : Act) (w : World), anyBut P md ops Q S st fuel listed a w → wpAny P md ops Q fuel listed a w
  | 0, _, _, _, h => h
  | fuel + 1, _, _, _, h => ⟨h.1, fun i hi => wpOp_mono (fun a' w' h' => any_of_but fuel _ a' w' h'.2) (h.2 i hi)⟩

/-- A read for which the last store waits may be taken first. -/
theorem but_first {i : Nat} {oi : Oper} {v : Value} (hi : ops[i]? = some oi) (hsel : ∀ (j : Nat) (o : Oper) cs b, ops[j]? = some o → o.op ≠ .select cs b)
    (hQ : ∀ c a w, Q (.panic c) (a.put oi.dst v) w → Q (.panic c) a w) (hwait : Region.waitsFor md ops st i = true) :
    ∀ (fuel : Nat) (listed : Array Bool) (a : Act) (w : World),
      (∀ j oj, ops[j]? = some oj → j ≠ i → listed.getD j true = false → (∀ e ∈ oj.after, Region.binds md e = true → e.on ≠ i) → oi.apart ops oj = true) →
      i ∈ Region.ready md ops listed → YieldsIf P ops S oi v a → S w →
      anyBut P md ops Q S st fuel (listed.setIfInBounds i true) (a.put oi.dst v) w → anyBut P md ops Q S st (fuel + 1) listed a w := by
  intro fuel
  induction fuel with
  | zero =>
    intro listed a w _ hr hy hS H
    refine ⟨fun h => (by rw [h] at hr; cases hr), fun j hj => ?_⟩
    by_cases hji : j = i
    · subst hji; exact hy.wpOp hi hS ⟨.inr hS, H⟩
    · have := ready_mono hj hji
      rw [H.1] at this
      cases this
  | succ fuel ih =>
    intro listed a w hfree hr hy hS H
    refine ⟨fun h => (by rw [h] at hr; cases hr), fun j hj => ?_⟩
    by_cases hji : j = i
    · subst hji; exact hy.wpOp hi hS ⟨.inr hS, H⟩
    · have h1 := H.2 j (ready_mono hj hji)
      obtain ⟨hjun, oj, hoj, hall⟩ := mem_ready.1 hj
      have hnot : ∀ e ∈ oj.after, Region.binds md e = true → e.on ≠ i := fun e he hb heq => by
        have h1 := hall e he hb
        have h0 := (mem_ready.1 hr).1
        rw [heq] at h1
        rcases Nat.lt_or_ge i listed.size with h' | h'
        · simp [h'] at h0 h1; rw [h0] at h1; cases h1
        · simp [Array.getElem?_eq_none h'] at h1
      have hjst : j ≠ st := fun e => by
        subst e
        obtain ⟨oj', hj', ed, hed, hb, hon⟩ := Region.waitsFor_spec hwait
        have : oj' = oj := Option.some.inj (hj'.symm.trans hoj)
        subst this
        exact hnot ed hed hb hon
      have h2 := wpOp_putIf hoj (hfree j oj hoj hji hjun hnot) (fun cs b => hsel i oi cs b hi) (fun cs b => hsel j oj cs b hoj) hQ hy h1
      refine wpOp_mono (fun a' w' h3 => ?_) h2
      have hS' : S w' := h3.2.1.resolve_left hjst
      refine ⟨.inr hS', ih (listed.setIfInBounds j true) a' w' (fun k ok hk hki hun hno => hfree k ok hk hki ?_ hno) (ready_mono hr (Ne.symm hji)) h3.1 hS' ?_⟩
      · by_cases hjk : j = k
        · subst hjk; exact hjun
        · rw [getD_set_ne true hjk] at hun; exact hun
      · rw [Array.setIfInBounds_comm _ _ hji]
        exact h3.2.2

theorem but_take {i : Nat} {oi : Oper} {v : Value} {fuel : Nat} {listed : Array Bool} {a : Act} {w : World} (hi : ops[i]? = some oi)
    (hs : Region.noSelect ops = true) (hf : Region.free md ops listed i = true) (hr : (Region.ready md ops listed).contains i = true) (hwait : Region.waitsFor md ops st i = true)
    (hQ : ∀ c a w, Q (.panic c) (a.put oi.dst v) w → Q (.panic c) a w) (hy : YieldsIf P ops S oi v a) (hS : S w)
    (h : anyBut P md ops Q S st fuel (listed.setIfInBounds i true) (a.put oi.dst v) w) : anyBut P md ops Q S st (fuel + 1) listed a w :=
  but_first hi (Region.noSelect_spec hs) hQ hwait fuel listed a w (Region.free_spec hi hf) (by simpa using hr) hy hS h

/-- The same, the operation found in the list: so it comes written out. -/
theorem but_take' {i : Nat} {oi : Oper} {v : Value} {fuel : Nat} {listed : Array Bool} {a : Act} {w : World} (hi : ops.toList[i]? = some oi)
    (hs : Region.noSelect ops = true) (hf : Region.free md ops listed i = true) (hr : (Region.ready md ops listed).contains i = true) (hwait : Region.waitsFor md ops st i = true)
    (hQ : ∀ c a w, Q (.panic c) (a.put oi.dst v) w → Q (.panic c) a w) (hw : Region.wanted oi (yielded ops a.tmps) = true) (hy : ∀ w, S w → (execOp a.eval oi).run P w = .ok (.value v) w) (hS : S w)
    (h : anyBut P md ops Q S st fuel (listed.setIfInBounds i true) (a.put oi.dst v) w) : anyBut P md ops Q S st (fuel + 1) listed a w :=
  but_take (by simpa using hi) hs hf hr hwait hQ (.inl ⟨hw, hy⟩) hS h

/-- One operation alone may come up. -/
theorem but_one {i : Nat} {o : Oper} {fuel : Nat} {listed : Array Bool} {a : Act} {w : World} (hr : Region.ready md ops listed = [i]) (ho : ops[i]? = some o)
    (h : ∀ K : Act → World → Prop, Shut (∀ a' w', (i = st ∨ S w') → anyBut P md ops Q S st fuel (listed.setIfInBounds i true) a' w' → K a' w') →
      if Region.wanted o (yielded ops a.tmps) = true then Oper.wp P o a w K Q else K (a.put o.dst undef) w) : anyBut P md ops Q S st (fuel + 1) listed a w := by
  refine ⟨fun h0 => (by rw [hr] at h0; cases h0), fun j hj => ?_⟩
  rw [hr] at hj
  obtain rfl := List.mem_singleton.1 hj
  have := h (fun a' w' => (j = st ∨ S w') ∧ anyBut P md ops Q S st fuel (listed.setIfInBounds j true) a' w') (fun a' w' h1 h2 => ⟨h1, h2⟩)
  unfold wpOp
  rw [ho]
  dsimp only
  split
  · rename_i hw
    rw [if_pos hw] at this
    exact .inl this
  · rename_i hw
    rw [if_neg hw] at this
    exact this

theorem but_one' {i : Nat} {o : Oper} {fuel : Nat} {listed : Array Bool} {a : Act} {w : World} (hr : Region.ready md ops listed = [i]) (ho : ops.toList[i]? = some o)
    (h : ∀ K : Act → World → Prop, Shut (∀ a' w', (i = st ∨ S w') → anyBut P md ops Q S st fuel (listed.setIfInBounds i true) a' w' → K a' w') →
      if Region.wanted o (yielded ops a.tmps) = true then Oper.wp P o a w K Q else K (a.put o.dst undef) w) : anyBut P md ops Q S st (fuel + 1) listed a w :=
  but_one hr (by simpa using ho) h

theorem but_done {listed : Array Bool} {a : Act} {w : World} (hr : Region.ready md ops listed = []) (h : Q .normal a w) :
    ∀ fuel, anyBut P md ops Q S st fuel listed a w
  | 0 => ⟨hr, h⟩
  | _ + 1 => ⟨fun _ => h, by rw [hr]; simp⟩

theorem but_begin {id : Nat} {a : Act} {w : World} (S : World → Prop) (st : Nat) (hm : P.follows .mixedOrders = true) (hS : S w.drew)
    (h : S w.drew → anyBut P .any ops Q S st ops.size (Array.replicate ops.size false) a w.drew) : (Code.region id ops true).wp P Q a w :=
  wp_region_any hm (any_of_but _ _ _ _ (h hS))

end
end Go.Proofs.Qxb6601698a
