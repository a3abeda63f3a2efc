/-
  The search weighs every set of the rest, as far as none that it leaves out is better: plain.
-/
import Derived.Test.Qxb6602155aPc
namespace Go.Proofs.Qxb6602155a

theorem mem_enum_length : ∀ (m : Nat) (b : List Bool), b ∈ enumB m → b.length = m
  | 0, b, h => by simp [enumB] at h; simp [h]
  | m + 1, b, h => by
    simp only [enumB, List.mem_cons, List.mem_append, List.mem_map] at h
    rcases h with rfl | ⟨c, hc, rfl⟩ | ⟨c, hc, rfl⟩
    · simp
    · simp [mem_enum_length m c hc]
    · simp [mem_enum_length m c hc]

/-- The value of a mask: the sum of the standing set and of what it picks. -/
def valOf (l0 : List It) (sum0 : Int) (b : List Bool) : Int := sum0 + tot (pick l0 b)

theorem val_pre {l0 l1 l : List It} {sum0 : Int} {pre b : List Bool} (hl : l0 = l1 ++ l) (hp : pre.length = l1.length) : valOf l0 sum0 (pre ++ b) = sum0 + tot (pick l1 pre) + tot (pick l b) := by
  unfold valOf
  rw [hl, pick_append _ _ _ _ hp, tot_append]
  omega

structure Num (lo hi sum : Int) (l : List It) : Prop where
  l1 : lo ≤ maxI
  h1 : hi ≤ maxI
  s0 : 0 ≤ sum
  sz : ∀ x ∈ l, 0 ≤ x.size

/-- Nothing behind a cut is better. -/
theorem cut_keeps {lo hi : Int} {least : Bool} {l0 l1 l P0 : List It} {sum0 sum : Int} {pre b : List Bool} {a : Option (List Bool)} {s : St} (hl : l0 = l1 ++ l) (hp : pre.length = l1.length) (hsum : sum = sum0 + tot (pick l1 pre)) (hn : Num lo hi sum l)
    (hH : Held l0 P0 (valOf l0 sum0) a s) (hstand : lo ≤ sum → sum ≤ hi → ∃ c, a = some c ∧ (least = true → valOf l0 sum0 c ≤ sum)) (hc : cuts lo hi least l sum s = true) : improves lo hi least (valOf l0 sum0) a (pre ++ b) = false := by
  have hv := val_pre (b := b) (sum0 := sum0) hl hp
  rw [← hsum] at hv
  have hb := tot_pick_le (l := l) b hn.sz
  have hr := restOf_is hn.sz
  have n1 := hn.l1; have n2 := hn.h1; have n3 := hn.s0
  rw [Bool.eq_false_iff]
  intro himp
  simp only [improves, Bool.and_eq_true, decide_eq_true_eq] at himp
  obtain ⟨⟨i1, i2⟩, i3⟩ := himp
  simp only [cuts, Bool.or_eq_true, Bool.and_eq_true, decide_eq_true_eq, Bool.not_eq_true', beq_iff_eq] at hc
  rcases hc with (⟨c1, c2⟩ | c2) | ⟨⟨c1, c2⟩, c3⟩
  · obtain ⟨c, rfl, h2⟩ := hstand c2 (by omega)
    have := h2 c1
    simp [c1] at i3
    omega
  · rw [hr] at c2
    split at c2 <;> omega
  · rcases hH with ⟨_, hf⟩ | ⟨c, rfl, hf, hsc, _⟩
    · rw [hf] at c2; cases c2
    · simp [c1] at i3
      rcases c3 with c3 | c3
      · omega
      · rw [hr] at c3
        split at c3 <;> omega

/-- Nothing with an item that may not be taken is better. -/
theorem skip_keeps {lo hi : Int} {least : Bool} {l0 l1 r P0 : List It} {x : It} {sum0 sum : Int} {pre b : List Bool} {a : Option (List Bool)} {s : St} (hl : l0 = l1 ++ x :: r) (hp : pre.length = l1.length) (hsum : sum = sum0 + tot (pick l1 pre)) (hn : Num lo hi sum (x :: r))
    (hH : Held l0 P0 (valOf l0 sum0) a s) (ht : takes hi least x.size sum s = false) : improves lo hi least (valOf l0 sum0) a (pre ++ true :: b) = false := by
  have hv := val_pre (b := true :: b) (sum0 := sum0) hl hp
  rw [← hsum] at hv
  have hb := tot_pick_le (l := r) b (fun y hy => hn.sz y (by simp [hy]))
  have e : tot (pick (x :: r) (true :: b)) = x.size + tot (pick r b) := rfl
  rw [e] at hv
  rw [Bool.eq_false_iff]
  intro himp
  simp only [improves, Bool.and_eq_true, decide_eq_true_eq] at himp
  obtain ⟨⟨i1, i2⟩, i3⟩ := himp
  unfold takes at ht
  have h1 : x.size ≤ hi - sum := by omega
  simp only [h1, decide_true, Bool.true_and, Bool.not_eq_false', Bool.and_eq_true, decide_eq_true_eq] at ht
  obtain ⟨⟨t1, t2⟩, t3⟩ := ht
  rcases hH with ⟨_, hf⟩ | ⟨c, rfl, hf, hsc, _⟩
  · rw [hf] at t2; cases t2
  · simp [t1] at i3
    omega

/-- Behind 'enter' a set that lies between lo and hi is held, or a better one. -/
theorem enter_stand {lo hi : Int} {least : Bool} {val : List Bool → Int} {a : Option (List Bool)} {b : List Bool} {sum : Int} (hs : sum = val b) (h1 : lo ≤ sum) (h2 : sum ≤ hi) :
    ∃ c, upd lo hi least val a b = some c ∧ (least = true → val c ≤ sum) := by
  subst hs
  unfold upd
  cases hi' : improves lo hi least val a b with
  | true => exact ⟨b, by simp, fun _ => Int.le_refl _⟩
  | false =>
    cases a with
    | none => simp [improves, h1, h2] at hi'
    | some c =>
      refine ⟨c, by simp, fun hl => ?_⟩
      simp [improves, h1, h2, hl] at hi'
      omega

theorem search_exact (lo hi : Int) (least : Bool) (l0 P0 : List It) (sum0 : Int) (hl1 : lo ≤ maxI) (hh1 : hi ≤ maxI) (hs0 : 0 ≤ sum0) (hsz : ∀ x ∈ l0, 0 ≤ x.size) :
    ∀ (l l1 : List It) (pre : List Bool) (sum : Int) (s : St) (a : Option (List Bool)), l0 = l1 ++ l → pre.length = l1.length → s.set = P0 ++ pick l1 pre → sum = sum0 + tot (pick l1 pre) → Held l0 P0 (valOf l0 sum0) a s → s.steps + 2 ^ (l.length + 1) ≤ 4097 →
      Held l0 P0 (valOf l0 sum0) (((enumB l.length).map (pre ++ ·)).foldl (upd lo hi least (valOf l0 sum0)) a) (search lo hi least l sum s) ∧ (search lo hi least l sum s).steps + 1 ≤ s.steps + 2 ^ (l.length + 1) := by
  intro l
  induction l with
  | nil =>
    intro l1 pre sum s a hl hp hset hsum hH hst
    simp only [List.length_nil, Nat.zero_add, Nat.pow_one] at hst ⊢
    have hne : s.steps ≠ 4096 := by omega
    rw [search_nil hne]
    simp only [enumB, List.map_cons, List.map_nil, List.foldl_cons, List.foldl_nil, List.append_nil]
    refine ⟨enter_held hH ?_ ?_, by rw [enter_steps]; omega⟩
    · have := val_pre (sum0 := sum0) (b := []) hl hp
      simp only [List.append_nil] at this
      rw [this, hsum]; simp [pick, tot]
    · rw [hset, hl]; simp
  | cons x r ih =>
    intro l1 pre sum s a hl hp hset hsum hH hst
    have hpow : 2 ^ ((x :: r).length + 1) = 2 ^ (r.length + 1) + 2 ^ (r.length + 1) := by simp only [List.length_cons]; rw [Nat.pow_succ]; omega
    have hpos : 1 ≤ 2 ^ (r.length + 1) := Nat.one_le_two_pow
    rw [hpow] at hst ⊢
    generalize 2 ^ (r.length + 1) = M at *
    have hne : s.steps ≠ 4096 := by omega
    have hszl : ∀ y ∈ x :: r, 0 ≤ y.size := fun y hy => hsz y (by rw [hl]; simp at hy ⊢; rcases hy with h | h <;> simp [h])
    have hnn : 0 ≤ sum := by
      have := tot_pick_le (l := l1) pre (fun y hy => hsz y (by rw [hl]; simp [hy]))
      omega
    have hn : Num lo hi sum (x :: r) := ⟨hl1, hh1, hnn, hszl⟩
    have hv0 : sum = valOf l0 sum0 (pre ++ List.replicate (x :: r).length false) := by
      rw [val_pre hl hp, hsum, pick_none]; simp [tot]
    have hset0 : s.set = P0 ++ pick l0 (pre ++ List.replicate (x :: r).length false) := by
      rw [hset, hl, pick_append _ _ _ _ hp, pick_none]; simp
    have hE := enter_held (lo := lo) (hi := hi) (least := least) hH hv0 hset0
    have hstand := fun (h1 : lo ≤ sum) (h2 : sum ≤ hi) => enter_stand (least := least) (a := a) hv0 h1 h2
    have hfold : ((enumB (x :: r).length).map (pre ++ ·)).foldl (upd lo hi least (valOf l0 sum0)) a =
        ((enumB r.length).map ((pre ++ [false]) ++ ·)).foldl (upd lo hi least (valOf l0 sum0)) (((enumB r.length).map ((pre ++ [true]) ++ ·)).foldl (upd lo hi least (valOf l0 sum0)) (upd lo hi least (valOf l0 sum0) a (pre ++ List.replicate (x :: r).length false))) := by
      simp only [List.length_cons, enumB, List.map_cons, List.map_append, List.foldl_cons, List.foldl_append, List.map_map]
      congr 1
      · congr 1
        refine List.map_congr_left fun b _ => by simp
      · refine List.map_congr_left fun b _ => by simp
    rw [hfold]
    clear hfold
    generalize upd lo hi least (valOf l0 sum0) a (pre ++ List.replicate (x :: r).length false) = a2 at *
    have e1 := enter_steps lo hi least sum s
    have e2 := enter_set lo hi least sum s
    generalize hs2 : enter lo hi least sum s = s2 at *
    have hl' : l0 = (l1 ++ [x]) ++ r := by rw [hl]; simp
    have hpf : (pre ++ [false]).length = (l1 ++ [x]).length := by simp [hp]
    have hpt : (pre ++ [true]).length = (l1 ++ [x]).length := by simp [hp]
    have pkf : pick (l1 ++ [x]) (pre ++ [false]) = pick l1 pre := by rw [pick_append _ _ _ _ hp]; simp [pick]
    have pkt : pick (l1 ++ [x]) (pre ++ [true]) = pick l1 pre ++ [x] := by rw [pick_append _ _ _ _ hp]; simp [pick]
    cases hc : cuts lo hi least (x :: r) sum s2 with
    | true =>
      rw [search_cut hne (by rw [hs2]; exact hc), hs2]
      have k1 : ((enumB r.length).map ((pre ++ [true]) ++ ·)).foldl (upd lo hi least (valOf l0 sum0)) a2 = a2 := fold_keeps _ (fun b hb => by
        simp only [List.mem_map] at hb
        obtain ⟨c, _, rfl⟩ := hb
        rw [List.append_assoc]
        exact cut_keeps hl hp hsum hn hE hstand hc)
      rw [k1]
      have k2 : ((enumB r.length).map ((pre ++ [false]) ++ ·)).foldl (upd lo hi least (valOf l0 sum0)) a2 = a2 := fold_keeps _ (fun b hb => by
        simp only [List.mem_map] at hb
        obtain ⟨c, _, rfl⟩ := hb
        rw [List.append_assoc]
        exact cut_keeps hl hp hsum hn hE hstand hc)
      rw [k2]
      exact ⟨hE, by omega⟩
    | false =>
      cases ht : takes hi least x.size sum s2 with
      | true =>
        rw [search_take hne (by rw [hs2]; exact hc) (by rw [hs2]; exact ht), hs2]
        have i1 := ih (l1 ++ [x]) (pre ++ [true]) (sum + x.size) (push s2 x) a2 hl' hpt (by show s2.set ++ [x] = _; rw [e2, hset, pkt, List.append_assoc]) (by rw [pkt, tot_append, hsum]; simp [tot]; omega) hE (by show s2.steps + M ≤ 4097; omega)
        have i1s : (search lo hi least r (sum + x.size) (push s2 x)).steps + 1 ≤ s2.steps + M := i1.2
        have hps : (pop (search lo hi least r (sum + x.size) (push s2 x))).set = s2.set := by
          show (search lo hi least r (sum + x.size) (push s2 x)).set.dropLast = s2.set
          rw [search_set]; simp [push]
        have i2 := ih (l1 ++ [x]) (pre ++ [false]) sum (pop (search lo hi least r (sum + x.size) (push s2 x))) _ hl' hpf (by rw [hps, e2, hset, pkf]) (by rw [pkf, hsum]) i1.1 (by show (search lo hi least r (sum + x.size) (push s2 x)).steps + M ≤ 4097; omega)
        have i2s : (search lo hi least r sum (pop (search lo hi least r (sum + x.size) (push s2 x)))).steps + 1 ≤ (search lo hi least r (sum + x.size) (push s2 x)).steps + M := i2.2
        exact ⟨i2.1, by omega⟩
      | false =>
        rw [search_skip hne (by rw [hs2]; exact hc) (by rw [hs2]; exact ht), hs2]
        have k1 : ((enumB r.length).map ((pre ++ [true]) ++ ·)).foldl (upd lo hi least (valOf l0 sum0)) a2 = a2 := fold_keeps _ (fun b hb => by
          simp only [List.mem_map] at hb
          obtain ⟨c, _, rfl⟩ := hb
          rw [List.append_assoc]
          exact skip_keeps hl hp hsum hn hE ht)
        rw [k1]
        have i2 := ih (l1 ++ [x]) (pre ++ [false]) sum s2 a2 hl' hpf (by rw [e2, hset, pkf]) (by rw [pkf, hsum]) hE (by omega)
        exact ⟨i2.1, by omega⟩

end Go.Proofs.Qxb6602155a
