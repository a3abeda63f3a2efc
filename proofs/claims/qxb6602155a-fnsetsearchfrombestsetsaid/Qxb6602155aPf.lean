/-
  The optimum that the search finds: plain.
-/
import Derived.Test.Qxb6602155aPe
namespace Go.Proofs.Qxb6602155a

/-- The masks that pick something, in the search's order, each once. -/
def enumD : Nat → List (List Bool)
  | 0 => []
  | m + 1 => (List.replicate m false :: enumD m).map (true :: ·) ++ (enumD m).map (false :: ·)

theorem enumD_mem : ∀ (m : Nat) (b : List Bool), b ∈ enumD m → b.length = m ∧ b.any id = true
  | 0, b, h => by simp [enumD] at h
  | m + 1, b, h => by
    simp only [enumD, List.mem_append, List.mem_map, List.mem_cons] at h
    rcases h with ⟨c, rfl | hc, rfl⟩ | ⟨c, hc, rfl⟩
    · simp
    · have := enumD_mem m c hc; simp [this.1]
    · have := enumD_mem m c hc; simp [this.1]; simpa using this.2
theorem none_any (m : Nat) : (List.replicate m false).any id = false := by
  induction m with
  | zero => rfl
  | succ m ih => rw [List.replicate_succ, List.any_cons, ih]; rfl
theorem enumD_all : ∀ (m : Nat) (b : List Bool), b.length = m → b = List.replicate m false ∨ b ∈ enumD m
  | 0, b, h => .inl (by simpa using List.eq_nil_of_length_eq_zero h)
  | m + 1, x :: b, h => by
    have hb : b.length = m := by simpa using h
    rcases enumD_all m b hb with e | e
    · cases x
      · left; rw [e, List.replicate_succ]
      · right; simp only [enumD, List.mem_append, List.mem_map, List.mem_cons]; exact .inl ⟨b, .inl e, rfl⟩
    · right
      simp only [enumD, List.mem_append, List.mem_map, List.mem_cons]
      cases x
      · exact .inr ⟨b, e, rfl⟩
      · exact .inl ⟨b, .inr e, rfl⟩

theorem pairwise_map_cons (x : Bool) {L : List (List Bool)} (h : L.Pairwise (fun a b => lex a b = true)) : (L.map (x :: ·)).Pairwise (fun a b => lex a b = true) := by
  rw [List.pairwise_map]
  exact h.imp (fun {a b} hab => by simpa [lex] using hab)
theorem enum_sorted : ∀ m : Nat, (List.replicate m false :: enumD m).Pairwise (fun a b => lex a b = true)
  | 0 => by simp [enumD]
  | m + 1 => by
    have ih := enum_sorted m
    rw [List.pairwise_cons]
    refine ⟨fun b hb => ?_, ?_⟩
    · have := enumD_mem (m + 1) b hb
      exact lex_from_none _ _ (by simp [this.1]) (none_any _) this.2
    · simp only [enumD]
      rw [List.pairwise_append]
      refine ⟨pairwise_map_cons true ih, pairwise_map_cons false (List.pairwise_cons.1 ih).2, ?_⟩
      intro a ha b hb
      simp only [List.mem_map] at ha hb
      obtain ⟨a', _, rfl⟩ := ha
      obtain ⟨b', hb', rfl⟩ := hb
      have := (enumD_mem m b' hb').2
      simp only [lex]
      simpa using this

section
variable {lo hi : Int} {least : Bool} {val : List Bool → Int}

/-- May the mask be kept at all? -/
def feas (lo hi : Int) (val : List Bool → Int) (b : List Bool) : Prop := lo ≤ val b ∧ val b ≤ hi
/-- Strictly better. -/
def beats (least : Bool) (val : List Bool → Int) (b c : List Bool) : Prop := (least = true ∧ val b < val c) ∨ (least = false ∧ val c < val b)

theorem improves_iff {a : Option (List Bool)} {b : List Bool} : improves lo hi least val a b = true ↔ feas lo hi val b ∧ ∀ c, a = some c → beats least val b c := by
  cases a with
  | none => simp [improves, feas]
  | some c =>
    simp only [improves, feas, beats, Bool.and_eq_true, decide_eq_true_eq, Bool.or_eq_true, Bool.not_eq_true', Option.some.injEq]
    constructor
    · rintro ⟨h1, h2⟩; exact ⟨h1, fun _ e => by subst e; exact h2⟩
    · rintro ⟨h1, h2⟩; exact ⟨h1, h2 c rfl⟩

/-- What is held only gets better: what did not improve it does not improve it later. -/
theorem upd_mono {a : Option (List Bool)} {b c : List Bool} (h : improves lo hi least val a b = false) : improves lo hi least val (upd lo hi least val a c) b = false := by
  unfold upd
  cases hc : improves lo hi least val a c with
  | false => simpa using h
  | true =>
    rw [if_pos rfl, Bool.eq_false_iff]
    intro hb
    have h1 := (improves_iff (a := some c)).1 hb
    have h2 := (improves_iff (a := a)).1 hc
    rw [Bool.eq_false_iff] at h
    refine h ((improves_iff (a := a)).2 ⟨h1.1, fun d hd => ?_⟩)
    have := h2.2 d hd
    have := h1.2 c rfl
    unfold beats at *
    cases least <;> simp_all <;> omega
theorem fold_mono : ∀ (L : List (List Bool)) (a : Option (List Bool)) (b : List Bool), improves lo hi least val a b = false → improves lo hi least val (L.foldl (upd lo hi least val) a) b = false
  | [], _, _, h => h
  | _ :: L, _, b, h => fold_mono L _ b (upd_mono h)
theorem upd_self {a : Option (List Bool)} {b : List Bool} : improves lo hi least val (upd lo hi least val a b) b = false := by
  unfold upd
  cases hb : improves lo hi least val a b with
  | false => simpa using hb
  | true =>
    rw [if_pos rfl, Bool.eq_false_iff]
    intro h
    have := (improves_iff (a := some b)).1 h
    have := this.2 b rfl
    unfold beats at this
    omega

theorem upd_no {a : Option (List Bool)} {b : List Bool} (h : improves lo hi least val a b = false) : upd lo hi least val a b = a := by
  unfold upd; rw [h]; rfl

/-- The empty mask is weighed once and for all. -/
theorem fold_enum : ∀ (m : Nat) (pre : List Bool) (a : Option (List Bool)), ((enumB m).map (pre ++ ·)).foldl (upd lo hi least val) a = ((List.replicate m false :: enumD m).map (pre ++ ·)).foldl (upd lo hi least val) a
  | 0, pre, a => by simp [enumB, enumD]
  | m + 1, pre, a => by
    have e1 : ∀ (x : Bool) (L : List (List Bool)), (L.map (x :: ·)).map (pre ++ ·) = L.map ((pre ++ [x]) ++ ·) := fun x L => by
      rw [List.map_map]; exact List.map_congr_left fun b _ => by simp
    simp only [enumB, enumD, List.map_cons, List.map_append, List.foldl_cons, List.foldl_append]
    have e1t := e1 true (enumB m)
    have e1f := e1 false (enumB m)
    have e2t := e1 true (enumD m)
    have e2f := e1 false (enumD m)
    rw [e1t, e1f, e2t, e2f, fold_enum m (pre ++ [true]), fold_enum m (pre ++ [false])]
    simp only [List.map_cons, List.foldl_cons, List.append_assoc, List.cons_append, List.nil_append]
    congr 1
    have hn := fold_mono (lo := lo) (hi := hi) (least := least) (val := val) ((enumD m).map ((pre ++ [true]) ++ ·)) (upd lo hi least val (upd lo hi least val a (pre ++ List.replicate (m + 1) false)) (pre ++ true :: List.replicate m false)) (pre ++ List.replicate (m + 1) false) (upd_mono upd_self)
    rw [List.replicate_succ] at hn ⊢
    simp only [List.append_assoc, List.cons_append, List.nil_append] at hn
    exact upd_no hn

/-- The best of the masks of L, the first of those as good. -/
structure Best (lo hi : Int) (least : Bool) (val : List Bool → Int) (L : List (List Bool)) (c : List Bool) : Prop where
  mem : c ∈ L
  feas : feas lo hi val c
  top : ∀ b ∈ L, Go.Proofs.Qxb6602155a.feas lo hi val b → ¬ beats least val b c
  first : ∀ b ∈ L, Go.Proofs.Qxb6602155a.feas lo hi val b → val b = val c → c = b ∨ lex c b = true

theorem fold_snoc (L : List (List Bool)) (b : List Bool) (a : Option (List Bool)) : (L ++ [b]).foldl (upd lo hi least val) a = upd lo hi least val (L.foldl (upd lo hi least val) a) b := by simp

theorem fold_best : ∀ (n : Nat) (L : List (List Bool)), L.length = n → L.Pairwise (fun a b => lex a b = true) →
    (L.foldl (upd lo hi least val) none = none ∧ ∀ b ∈ L, ¬ feas lo hi val b) ∨ ∃ c, L.foldl (upd lo hi least val) none = some c ∧ Best lo hi least val L c
  | 0, L, hl, _ => by
    obtain rfl := List.eq_nil_of_length_eq_zero hl
    exact .inl ⟨rfl, by simp⟩
  | n + 1, L, hl, hp => by
    obtain ⟨L', b, rfl⟩ : ∃ L' b, L = L' ++ [b] := ⟨L.dropLast, L.getLast (by intro e; simp [e] at hl), (List.dropLast_concat_getLast _).symm⟩
    rw [List.pairwise_append] at hp
    obtain ⟨hp1, _, hp3⟩ := hp
    rw [fold_snoc]
    rcases fold_best n L' (by simpa using hl) hp1 with ⟨h1, h2⟩ | ⟨c, h1, h2⟩
    · rw [h1]
      by_cases hf : feas lo hi val b
      · right
        refine ⟨b, ?_, by simp, hf, ?_, ?_⟩
        · unfold upd; rw [if_pos ((improves_iff (a := none)).2 ⟨hf, by simp⟩)]
        · intro d hd hfd
          rcases List.mem_append.1 hd with hd | hd
          · exact absurd hfd (h2 d hd)
          · rw [List.mem_singleton.1 hd]; unfold beats; omega
        · intro d hd hfd _
          rcases List.mem_append.1 hd with hd | hd
          · exact absurd hfd (h2 d hd)
          · exact .inl (List.mem_singleton.1 hd).symm
      · left
        refine ⟨?_, ?_⟩
        · exact upd_no (by rw [Bool.eq_false_iff]; intro h; exact hf ((improves_iff (a := none)).1 h).1)
        · intro d hd
          rcases List.mem_append.1 hd with hd | hd
          · exact h2 d hd
          · rw [List.mem_singleton.1 hd]; exact hf
    · rw [h1]
      right
      cases himp : improves lo hi least val (some c) b with
      | true =>
        have hi2 := (improves_iff (a := some c)).1 himp
        have hbc := hi2.2 c rfl
        refine ⟨b, by unfold upd; rw [himp]; rfl, by simp, hi2.1, ?_, ?_⟩
        · intro d hd hfd hdb
          rcases List.mem_append.1 hd with hd | hd
          · exact h2.top d hd hfd (by unfold beats at *; cases least <;> simp_all <;> omega)
          · rw [List.mem_singleton.1 hd] at hdb; unfold beats at hdb; omega
        · intro d hd hfd hv
          rcases List.mem_append.1 hd with hd | hd
          · exact absurd (show beats least val d c by unfold beats at *; cases least <;> simp_all) (h2.top d hd hfd)
          · exact .inl (List.mem_singleton.1 hd).symm
      | false =>
        refine ⟨c, upd_no himp, by simp [h2.mem], h2.feas, ?_, ?_⟩
        · intro d hd hfd hdc
          rcases List.mem_append.1 hd with hd | hd
          · exact h2.top d hd hfd hdc
          · rw [List.mem_singleton.1 hd] at hdc hfd
            rw [Bool.eq_false_iff] at himp
            exact himp ((improves_iff (a := some c)).2 ⟨hfd, fun e he => by cases he; exact hdc⟩)
        · intro d hd hfd hv
          rcases List.mem_append.1 hd with hd | hd
          · exact h2.first d hd hfd hv
          · rw [List.mem_singleton.1 hd]
            exact .inr (hp3 c h2.mem b (by simp))

/-- Two that are the best are one. -/
theorem best_unique {L : List (List Bool)} {c d : List Bool} (h1 : Best lo hi least val L c) (h2 : Best lo hi least val L d) : c = d := by
  have t1 := h1.top d h2.mem h2.feas
  have t2 := h2.top c h1.mem h1.feas
  have hv : val d = val c := by unfold beats at *; cases least <;> simp_all <;> omega
  rcases h1.first d h2.mem h2.feas hv with e | e
  · exact e
  · rcases h2.first c h1.mem h1.feas hv.symm with e' | e'
    · exact e'.symm
    · rw [lex_asymm c d e] at e'; cases e'

end
end Go.Proofs.Qxb6602155a
