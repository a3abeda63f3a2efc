/-
  Tarjan's algorithm: plain.
-/
import Derived.Test.Qxb6601698aGb
namespace Go.Proofs.Qxb6601698a

def reachN (adj : Nat → List Nat) : Nat → Nat → Nat → Prop
  | 0, u, v => u = v
  | k + 1, u, v => ∃ m, m ∈ adj u ∧ reachN adj k m v
def Reach (adj : Nat → List Nat) (u v : Nat) : Prop := ∃ k, reachN adj k u v
theorem Reach.refl (adj : Nat → List Nat) (u : Nat) : Reach adj u u := ⟨0, rfl⟩
theorem Reach.edge {adj : Nat → List Nat} {u v : Nat} (h : v ∈ adj u) : Reach adj u v := ⟨1, v, h, rfl⟩
theorem reachN_trans {adj : Nat → List Nat} : ∀ {k l u v w : Nat}, reachN adj k u v → reachN adj l v w → reachN adj (k + l) u w
  | 0, l, u, v, w, h, g => by
    have e : u = v := h
    subst e
    rw [Nat.zero_add]
    exact g
  | k + 1, l, u, v, w, ⟨m, hm, h⟩, g => by
    rw [Nat.add_right_comm]
    exact ⟨m, hm, reachN_trans h g⟩
theorem Reach.trans {adj : Nat → List Nat} {u v w : Nat} (h : Reach adj u v) (g : Reach adj v w) : Reach adj u w := by
  obtain ⟨k, h⟩ := h
  obtain ⟨l, g⟩ := g
  exact ⟨k + l, reachN_trans h g⟩

/-- p is the last on the path that was met no later than v. -/
structure Own (idx : Nat → Nat) (Pt : List Nat) (p v : Nat) : Prop where
  mem : p ∈ Pt
  le : idx p ≤ idx v
  last : ∀ q ∈ Pt, idx q ≤ idx v → idx q ≤ idx p

/-- The step from v to d has been looked at. -/
def Seen2 (adj : Nat → List Nat) (XP : List (Nat × Nat)) (v d : Nat) : Prop :=
  (v ∉ XP.map Prod.fst ∧ d ∈ adj v) ∨ ∃ k j, (v, k) ∈ XP ∧ j < k ∧ (adj v)[j]? = some d

/-- How Tarjan's search stands: t met so far, O open, XP the path, C closed, k of them numbers. -/
structure Tj (n : Nat) (adj : Nat → List Nat) (idx low comp : Nat → Nat) (t : Nat) (O : List Nat) (XP : List (Nat × Nat)) (C : List Nat) (k : Nat) : Prop where
  nd : (C ++ O).Nodup
  lt : ∀ v ∈ C ++ O, v < n
  vis : ∀ v, v < n → (idx v ≠ 0 ↔ v ∈ C ++ O)
  sorted : O.Pairwise (fun a b => idx a < idx b)
  top : ∀ v ∈ O, idx v ≤ t
  path : List.Sublist (XP.map Prod.fst) O
  xle : ∀ v x, (v, x) ∈ XP → x ≤ (adj v).length
  head : ∀ v ∈ O, ∃ p ∈ XP.map Prod.fst, idx p ≤ idx v
  lowle : ∀ v ∈ O, low v ≤ idx v
  lowreach : ∀ v ∈ O, ∃ w ∈ O, idx w = low v ∧ Reach adj v w
  lowpath : ∀ v ∈ O, ∀ p, Own idx (XP.map Prod.fst) p v → low p ≤ low v
  fin : ∀ v ∈ O, v ∉ XP.map Prod.fst → low v < idx v
  tree : ∀ v ∈ O, ∀ p, Own idx (XP.map Prod.fst) p v → Reach adj p v
  link : (XP.map Prod.fst).Pairwise (fun a b => Reach adj a b)
  edge : ∀ v ∈ O, ∀ d, Seen2 adj XP v d → d ∈ C ++ O ∧ (d ∈ O → ∀ p, Own idx (XP.map Prod.fst) p v → low p ≤ idx d)
  closed : ∀ u ∈ C, ∀ d ∈ adj u, d ∈ C ∧ comp d ≤ comp u
  scc : ∀ u ∈ C, ∀ v ∈ C, comp u = comp v → Reach adj u v
  num : ∀ u ∈ C, comp u < k

section
variable {n : Nat} {adj : Nat → List Nat} {idx low comp : Nat → Nat} {t : Nat} {O : List Nat} {XP : List (Nat × Nat)} {C : List Nat} {k : Nat}

theorem Tj.pathO (h : Tj n adj idx low comp t O XP C k) {p : Nat} (hp : p ∈ XP.map Prod.fst) : p ∈ O := h.path.subset hp
theorem Tj.sortedP (h : Tj n adj idx low comp t O XP C k) : (XP.map Prod.fst).Pairwise (fun a b => idx a < idx b) := h.sorted.sublist h.path
theorem Tj.inj (h : Tj n adj idx low comp t O XP C k) {u v : Nat} (hu : u ∈ O) (hv : v ∈ O) (e : idx u = idx v) : u = v := by
  have hs := h.sorted
  clear h
  induction O with
  | nil => cases hu
  | cons x r ih =>
    rw [List.pairwise_cons] at hs
    rcases List.mem_cons.1 hu with hu1 | hu1
    · rcases List.mem_cons.1 hv with hv1 | hv1
      · rw [hu1, hv1]
      · have := hs.1 v hv1; rw [hu1] at e; omega
    · rcases List.mem_cons.1 hv with hv1 | hv1
      · have := hs.1 u hu1; rw [hv1] at e; omega
      · exact ih hu1 hv1 hs.2
/-- One on the path is its own last one. -/
theorem Tj.ownSelf (h : Tj n adj idx low comp t O XP C k) {p q : Nat} (hq : q ∈ XP.map Prod.fst) (ho : Own idx (XP.map Prod.fst) p q) : p = q :=
  h.inj (h.pathO ho.mem) (h.pathO hq) (Nat.le_antisymm ho.le (ho.last q hq (Nat.le_refl _)))
theorem Tj.pos (h : Tj n adj idx low comp t O XP C k) {v : Nat} (hv : v ∈ C ++ O) : 0 < idx v := by
  have := (h.vis v (h.lt v hv)).2 hv
  omega

theorem tj_start (n : Nat) (adj : Nat → List Nat) (comp low : Nat → Nat) : Tj n adj (fun _ => 0) low comp 0 [] [] [] 0 := by
  refine ⟨List.nodup_nil, ?_, ?_, List.Pairwise.nil, ?_, List.Sublist.slnil, ?_, ?_, ?_, ?_, ?_, ?_, ?_, List.Pairwise.nil, ?_, ?_, ?_, ?_⟩
  all_goals first
    | (intro v hv; simp at hv; done)
    | (intro v x hx; simp at hx; done)
    | (intro v _; simp; done)

theorem fst_snoc (XP : List (Nat × Nat)) (v x : Nat) : (XP ++ [(v, x)]).map Prod.fst = XP.map Prod.fst ++ [v] := by simp

/-- The top's next step is looked at; what it leads to was met before. -/
theorem Tj.look {r x d : Nat} (h : Tj n adj idx low comp t O (XP ++ [(r, x)]) C k) (hx : x < (adj r).length) (hd : (adj r)[x]? = some d) (hv : d ∈ C ++ O) :
    Tj n adj idx (fun y => if y = r then (if d ∈ O then min (low r) (idx d) else low r) else low y) comp t O (XP ++ [(r, x + 1)]) C k := by
  have ef : (XP ++ [(r, x)]).map Prod.fst = (XP ++ [(r, x + 1)]).map Prod.fst := by simp
  have hrP : r ∈ (XP ++ [(r, x)]).map Prod.fst := by simp
  have hrO := h.pathO hrP
  have hle : (if d ∈ O then min (low r) (idx d) else low r) ≤ low r := by split; exact Nat.min_le_left _ _; exact Nat.le_refl _
  have hleY : ∀ y, (fun y => if y = r then (if d ∈ O then min (low r) (idx d) else low r) else low y) y ≤ low y := fun y => by
    by_cases e : y = r
    · subst e; simpa using hle
    · simp [e]
  have hdm : d ∈ adj r := List.mem_of_getElem? hd
  have hown := fun (p v : Nat) => (show Own idx ((XP ++ [(r, x + 1)]).map Prod.fst) p v → Own idx ((XP ++ [(r, x)]).map Prod.fst) p v from fun ho => by rw [ef]; exact ho)
  refine ⟨h.nd, h.lt, h.vis, h.sorted, h.top, by rw [← ef]; exact h.path, fun v y hy => ?_, by rw [← ef]; exact h.head, fun v hv' => Nat.le_trans (hleY v) (h.lowle v hv'), fun v hv' => ?_, fun v hv' p ho => ?_, fun v hv' hn => ?_, fun v hv' p ho => h.tree v hv' p (hown p v ho), by rw [← ef]; exact h.link, fun v hv' e he => ?_, h.closed, h.scc, h.num⟩
  · rcases List.mem_append.1 hy with hy | hy
    · exact h.xle v y (by simp [hy])
    · simp at hy; obtain ⟨rfl, rfl⟩ := hy; omega
  · by_cases e : v = r
    · subst e
      simp only [if_true]
      obtain ⟨w, hw, e1, e2⟩ := h.lowreach v hv'
      by_cases hdO : d ∈ O
      · simp only [if_pos hdO]
        rcases Nat.le_total (low v) (idx d) with hm | hm
        · rw [Nat.min_eq_left hm]; exact ⟨w, hw, e1, e2⟩
        · rw [Nat.min_eq_right hm]; exact ⟨d, hdO, rfl, Reach.edge hdm⟩
      · simp only [if_neg hdO]; exact ⟨w, hw, e1, e2⟩
    · simp only [if_neg e]; exact h.lowreach v hv'
  · have ho' := hown p v ho
    have h1 := h.lowpath v hv' p ho'
    by_cases e : v = r
    · subst e
      have : p = v := h.ownSelf hrP ho'
      subst this
      exact Nat.le_refl _
    · simp only [if_neg e]
      exact Nat.le_trans (hleY p) h1
  · rw [← ef] at hn
    have : v ≠ r := fun e => hn (e ▸ hrP)
    simp only [if_neg this]
    exact h.fin v hv' hn
  · have key : Seen2 adj (XP ++ [(r, x)]) v e ∨ (v = r ∧ e = d) := by
      rcases he with ⟨hn, he⟩ | ⟨k', j, hk, hj, he⟩
      · exact .inl (.inl ⟨by rw [ef]; exact hn, he⟩)
      · rcases List.mem_append.1 hk with hk | hk
        · exact .inl (.inr ⟨k', j, by simp [hk], hj, he⟩)
        · simp at hk
          obtain ⟨rfl, rfl⟩ := hk
          by_cases e2 : j = x
          · subst e2; rw [hd] at he; exact .inr ⟨rfl, (Option.some.inj he).symm⟩
          · exact .inl (.inr ⟨x, j, by simp, by omega, he⟩)
    rcases key with key | ⟨rfl, rfl⟩
    · obtain ⟨h1, h2⟩ := h.edge v hv' e key
      exact ⟨h1, fun hO p ho => Nat.le_trans (hleY p) (h2 hO p (hown p v ho))⟩
    · refine ⟨hv, fun hO p ho => ?_⟩
      have hpv : p = v := h.ownSelf hrP (hown p v ho)
      subst hpv
      simp only [if_true, if_pos hO]
      exact Nat.min_le_right _ _

/-- A new one is met and walked down. -/
theorem Tj.meet {d : Nat} (h : Tj n adj idx low comp t O XP C k) (hd : d < n) (hnew : idx d = 0) (XP1 : List (Nat × Nat)) (hf : XP1.map Prod.fst = XP.map Prod.fst) (hxle : ∀ v x, (v, x) ∈ XP1 → x ≤ (adj v).length)
    (hs : ∀ v e, Seen2 adj XP1 v e → Seen2 adj XP v e ∨ (v ∈ XP.map Prod.fst ∧ e = d)) (hlink : ∀ a ∈ XP.map Prod.fst, Reach adj a d) :
    Tj n adj (fun y => if y = d then t + 1 else idx y) (fun y => if y = d then t + 1 else low y) comp (t + 1) (O ++ [d]) (XP1 ++ [(d, 0)]) C k := by
  have hdn : d ∉ C ++ O := fun hm => ((h.vis d hd).2 hm) hnew
  have hdO : d ∉ O := fun hm => hdn (List.mem_append_right _ hm)
  have hdC : d ∉ C := fun hm => hdn (List.mem_append_left _ hm)
  have hne : ∀ v ∈ O, v ≠ d := fun v hv e => hdO (e ▸ hv)
  have hix : ∀ v ∈ O, (fun y => if y = d then t + 1 else idx y) v = idx v := fun v hv => by simp [hne v hv]
  have hlo : ∀ v ∈ O, (fun y => if y = d then t + 1 else low y) v = low v := fun v hv => by simp [hne v hv]
  have hixd : (fun y => if y = d then t + 1 else idx y) d = t + 1 := by simp
  have hlod : (fun y => if y = d then t + 1 else low y) d = t + 1 := by simp
  generalize hI : (fun y => if y = d then t + 1 else idx y) = idx' at *
  generalize hL : (fun y => if y = d then t + 1 else low y) = low' at *
  have hidx' : ∀ v, v ≠ d → idx' v = idx v := fun v hv => by rw [← hI]; simp [hv]
  have eP : (XP1 ++ [(d, 0)]).map Prod.fst = XP.map Prod.fst ++ [d] := by rw [fst_snoc, hf]
  have hPO : ∀ p ∈ XP.map Prod.fst, p ∈ O := fun p hp => h.pathO hp
  -- owners of those that were open
  have hown : ∀ v ∈ O, ∀ p, Own idx' (XP.map Prod.fst ++ [d]) p v → Own idx (XP.map Prod.fst) p v := fun v hv p ho => by
    have hp : p ∈ XP.map Prod.fst := by
      rcases List.mem_append.1 ho.mem with hp | hp
      · exact hp
      · simp at hp
        subst hp
        have := ho.le
        rw [hixd, hix v hv] at this
        have := h.top v hv
        omega
    refine ⟨hp, ?_, fun q hq hle => ?_⟩
    · have := ho.le
      rwa [hix p (hPO p hp), hix v hv] at this
    · have := ho.last q (List.mem_append_left _ hq) (by rw [hix q (hPO q hq), hix v hv]; exact hle)
      rwa [hix q (hPO q hq), hix p (hPO p hp)] at this
  have hownD : ∀ p, Own idx' (XP.map Prod.fst ++ [d]) p d → p = d := fun p ho => by
    rcases List.mem_append.1 ho.mem with hp | hp
    · exfalso
      have h1 := ho.last d (by simp) (Nat.le_refl _)
      rw [hixd, hix p (hPO p hp)] at h1
      have := h.top p (hPO p hp)
      omega
    · simpa using hp
  refine ⟨?_, fun v hv => ?_, fun v hv => ?_, ?_, fun v hv => ?_, ?_, fun v x hx => ?_, fun v hv => ?_, fun v hv => ?_, fun v hv => ?_, fun v hv p ho => ?_, fun v hv hn => ?_, fun v hv p ho => ?_, ?_, fun v hv e he => ?_, h.closed, h.scc, h.num⟩
  · rw [← List.append_assoc, List.nodup_append]
    exact ⟨h.nd, by simp, fun a ha b hb => by simp at hb; subst hb; exact fun e => hdn (e ▸ ha)⟩
  · rw [← List.append_assoc] at hv
    rcases List.mem_append.1 hv with hv | hv
    · exact h.lt v hv
    · simp at hv; subst hv; exact hd
  · rw [← List.append_assoc, List.mem_append]
    by_cases e : v = d
    · subst e; rw [hixd]; simp
    · rw [hidx' v e, h.vis v hv]; simp [e]
  · rw [List.pairwise_append]
    refine ⟨?_, List.pairwise_singleton _ _, fun a ha b hb => ?_⟩
    · exact h.sorted.imp_of_mem (fun {a b} ha hb hab => by rw [hix a ha, hix b hb]; exact hab)
    · simp at hb; subst hb; rw [hixd, hix a ha]; have := h.top a ha; omega
  · rcases List.mem_append.1 hv with hv | hv
    · rw [hix v hv]; have := h.top v hv; omega
    · simp at hv; subst hv; rw [hixd]; exact Nat.le_refl _
  · rw [eP]; exact List.Sublist.append h.path (List.Sublist.refl _)
  · rcases List.mem_append.1 hx with hx | hx
    · exact hxle v x hx
    · simp at hx; obtain ⟨rfl, rfl⟩ := hx; exact Nat.zero_le _
  · rw [eP]
    rcases List.mem_append.1 hv with hv | hv
    · obtain ⟨p, hp, hle⟩ := h.head v hv
      exact ⟨p, List.mem_append_left _ hp, by rw [hix p (hPO p hp), hix v hv]; exact hle⟩
    · simp at hv; subst hv; exact ⟨v, by simp, Nat.le_refl _⟩
  · rcases List.mem_append.1 hv with hv | hv
    · rw [hix v hv, hlo v hv]; exact h.lowle v hv
    · simp at hv; subst hv; rw [hixd, hlod]; exact Nat.le_refl _
  · rcases List.mem_append.1 hv with hv | hv
    · obtain ⟨w, hw, e1, e2⟩ := h.lowreach v hv
      exact ⟨w, List.mem_append_left _ hw, by rw [hix w hw, hlo v hv]; exact e1, e2⟩
    · simp at hv; subst hv; exact ⟨v, by simp, by rw [hixd, hlod], Reach.refl _ _⟩
  · rw [eP] at ho
    rcases List.mem_append.1 hv with hv | hv
    · have ho' := hown v hv p ho
      rw [hlo v hv, hlo p (hPO p ho'.mem)]
      exact h.lowpath v hv p ho'
    · simp at hv; subst hv
      rw [hownD p ho]; exact Nat.le_refl _
  · rw [eP] at hn
    rcases List.mem_append.1 hv with hv | hv
    · rw [hix v hv, hlo v hv]
      exact h.fin v hv (fun hm => hn (List.mem_append_left _ hm))
    · simp at hv; subst hv; exact absurd (by simp) hn
  · rw [eP] at ho
    rcases List.mem_append.1 hv with hv | hv
    · exact h.tree v hv p (hown v hv p ho)
    · simp at hv; subst hv
      rw [hownD p ho]; exact Reach.refl _ _
  · rw [eP, List.pairwise_append]
    exact ⟨h.link, List.pairwise_singleton _ _, fun a ha b hb => by simp at hb; subst hb; exact hlink a ha⟩
  · -- steps looked at
    have hSd : ∀ e, ¬ Seen2 adj (XP1 ++ [(d, 0)]) d e := fun e he => by
      rcases he with ⟨hn, _⟩ | ⟨k', j, hk, hj, _⟩
      · rw [eP] at hn; exact hn (by simp)
      · rcases List.mem_append.1 hk with hk | hk
        · have : d ∈ XP1.map Prod.fst := List.mem_map.2 ⟨_, hk, rfl⟩
          rw [hf] at this
          exact hdO (hPO d this)
        · simp at hk; omega
    rcases List.mem_append.1 hv with hv | hv
    · have he1 : Seen2 adj XP1 v e := by
        rcases he with ⟨hn, he⟩ | ⟨k', j, hk, hj, he⟩
        · rw [eP] at hn
          exact .inl ⟨by rw [hf]; exact fun hm => hn (List.mem_append_left _ hm), he⟩
        · rcases List.mem_append.1 hk with hk | hk
          · exact .inr ⟨k', j, hk, hj, he⟩
          · simp at hk; exact absurd hk.1 (hne v hv)
      rw [eP]
      rcases hs v e he1 with h1 | ⟨h1, hed⟩
      · have h2 := (h.edge v hv e h1).1
        refine ⟨by rw [← List.append_assoc]; exact List.mem_append_left _ h2, fun hO p ho => ?_⟩
        have ho' := hown v hv p ho
        rw [hlo p (hPO p ho'.mem)]
        rcases List.mem_append.1 hO with hO | hO
        · rw [hix e hO]; exact (h.edge v hv e h1).2 hO p ho'
        · simp at hO; subst hO; exact absurd h2 hdn
      · refine ⟨by rw [hed]; simp, fun _ p ho => ?_⟩
        have ho' := hown v hv p ho
        rw [hlo p (hPO p ho'.mem), hed, hixd]
        have h3 := h.lowle p (hPO p ho'.mem)
        have h4 := h.top p (hPO p ho'.mem)
        omega
    · simp at hv; subst hv; exact absurd he (hSd e)

/-- What is known of the top of the path, followed to its end. -/
theorem Tj.topOwn {r x : Nat} (h : Tj n adj idx low comp t O (XP ++ [(r, x)]) C k) {v : Nat} (_ : v ∈ O) (hle : idx r ≤ idx v) : Own idx ((XP ++ [(r, x)]).map Prod.fst) r v := by
  refine ⟨by simp, hle, fun q hq _ => ?_⟩
  have hs := h.sortedP
  rw [fst_snoc, List.pairwise_append] at hs
  rw [fst_snoc] at hq
  rcases List.mem_append.1 hq with hq | hq
  · exact Nat.le_of_lt (hs.2.2 q hq r (by simp))
  · simp at hq; rw [hq]; exact Nat.le_refl _
theorem Tj.below {r x : Nat} (h : Tj n adj idx low comp t O (XP ++ [(r, x)]) C k) {q : Nat} (hq : q ∈ XP.map Prod.fst) : idx q < idx r := by
  have hs := h.sortedP
  rw [fst_snoc, List.pairwise_append] at hs
  exact hs.2.2 q hq r (by simp)
/-- Where nothing is below it the top is the least open one. -/
theorem Tj.bottom {r x : Nat} (h : Tj n adj idx low comp t O [(r, x)] C k) : low r = idx r := by
  have hrO : r ∈ O := h.pathO (by simp)
  obtain ⟨w, hw, e, _⟩ := h.lowreach r hrO
  obtain ⟨p, hp, hle⟩ := h.head w hw
  simp at hp
  subst hp
  have := h.lowle p hrO
  omega

/-- The top is left behind, still open. -/
theorem Tj.back {r u y : Nat} (h : Tj n adj idx low comp t O (XP ++ [(u, y)] ++ [(r, (adj r).length)]) C k) (hlow : low r ≠ idx r) :
    Tj n adj idx (fun z => if z = u then min (low u) (low r) else low z) comp t O (XP ++ [(u, y)]) C k := by
  have hrP : r ∈ (XP ++ [(u, y)] ++ [(r, (adj r).length)]).map Prod.fst := by simp
  have huP : u ∈ (XP ++ [(u, y)] ++ [(r, (adj r).length)]).map Prod.fst := by simp
  have hrO := h.pathO hrP
  have huO := h.pathO huP
  have hur : idx u < idx r := h.below (by simp)
  have hrlt : low r < idx r := by have := h.lowle r hrO; omega
  have hne : r ≠ u := fun e => by rw [e] at hur; omega
  have eP : (XP ++ [(u, y)] ++ [(r, (adj r).length)]).map Prod.fst = (XP ++ [(u, y)]).map Prod.fst ++ [r] := fst_snoc _ _ _
  have hlink : Reach adj u r := by
    have := h.link
    rw [eP, List.pairwise_append] at this
    exact this.2.2 u (by simp) r (by simp)
  have hleY : ∀ z, (fun z => if z = u then min (low u) (low r) else low z) z ≤ low z := fun z => by
    by_cases e : z = u
    · subst e; simp; exact Nat.min_le_left _ _
    · simp [e]
  -- an owner on the shorter path
  have hown : ∀ v ∈ O, ∀ p, Own idx ((XP ++ [(u, y)]).map Prod.fst) p v → Own idx ((XP ++ [(u, y)] ++ [(r, (adj r).length)]).map Prod.fst) p v ∨ (p = u ∧ idx r ≤ idx v) := fun v hv p ho => by
    by_cases hr : idx r ≤ idx v
    · right
      refine ⟨?_, hr⟩
      have h1 := ho.last u (by simp) (by omega)
      have hs := h.sortedP
      rw [eP, List.pairwise_append] at hs
      have h2 := hs.1
      rw [fst_snoc, List.pairwise_append] at h2
      have hp := ho.mem
      rw [fst_snoc] at hp
      rcases List.mem_append.1 hp with hp | hp
      · have := h2.2.2 p hp u (by simp); omega
      · simpa using hp
    · left
      refine ⟨by rw [eP]; exact List.mem_append_left _ ho.mem, ho.le, fun q hq hle => ?_⟩
      rw [eP] at hq
      rcases List.mem_append.1 hq with hq | hq
      · exact ho.last q hq hle
      · simp at hq; rw [hq] at hle; exact absurd hle hr
  refine ⟨h.nd, h.lt, h.vis, h.sorted, h.top, ?_, fun v x hx => h.xle v x (by simp at hx ⊢; rcases hx with hx | hx; exact .inl hx; exact .inr (.inl hx)), fun v hv => ?_, fun v hv => Nat.le_trans (hleY v) (h.lowle v hv), fun v hv => ?_, fun v hv p ho => ?_, fun v hv hn => ?_, fun v hv p ho => ?_, ?_, fun v hv e he => ?_, h.closed, h.scc, h.num⟩
  · have := h.path; rw [eP] at this; exact (List.sublist_append_left _ _).trans this
  · obtain ⟨p, hp, hle⟩ := h.head v hv
    rw [eP] at hp
    rcases List.mem_append.1 hp with hp | hp
    · exact ⟨p, hp, hle⟩
    · simp at hp; subst hp; exact ⟨u, by simp, by omega⟩
  · by_cases e : v = u
    · subst e
      simp only [if_true]
      rcases Nat.le_total (low v) (low r) with hm | hm
      · rw [Nat.min_eq_left hm]; exact h.lowreach v hv
      · rw [Nat.min_eq_right hm]
        obtain ⟨w, hw, e1, e2⟩ := h.lowreach r hrO
        exact ⟨w, hw, e1, hlink.trans e2⟩
    · simp only [if_neg e]; exact h.lowreach v hv
  · by_cases e : v = u
    · subst e
      rcases hown v hv p ho with h1 | ⟨h1, h2⟩
      · rw [h.ownSelf huP h1]; exact Nat.le_refl _
      · omega
    · simp only [if_neg e]
      rcases hown v hv p ho with h1 | ⟨rfl, h2⟩
      · exact Nat.le_trans (hleY p) (h.lowpath v hv p h1)
      · simp only [if_true]
        exact Nat.le_trans (Nat.min_le_right _ _) (h.lowpath v hv r (h.topOwn hv h2))
  · by_cases e : v = r
    · subst e; simp only [if_neg hne]; exact hrlt
    · have : v ≠ u := fun e2 => hn (by rw [e2]; simp)
      simp only [if_neg this]
      exact h.fin v hv (by rw [eP]; intro hm; rcases List.mem_append.1 hm with hm | hm; exact hn hm; simp at hm; exact e hm)
  · rcases hown v hv p ho with h1 | ⟨rfl, h2⟩
    · exact h.tree v hv p h1
    · exact hlink.trans (h.tree v hv r (h.topOwn hv h2))
  · have := h.link; rw [eP, List.pairwise_append] at this; exact this.1
  · have he1 : Seen2 adj (XP ++ [(u, y)] ++ [(r, (adj r).length)]) v e := by
      rcases he with ⟨hn, he⟩ | ⟨k', j, hk, hj, he⟩
      · by_cases e2 : v = r
        · subst e2
          obtain ⟨j, hj, ej⟩ := List.getElem_of_mem he
          exact .inr ⟨(adj v).length, j, by simp, hj, by rw [List.getElem?_eq_getElem hj, ej]⟩
        · exact .inl ⟨by rw [eP]; intro hm; rcases List.mem_append.1 hm with hm | hm; exact hn hm; simp at hm; exact e2 hm, he⟩
      · exact .inr ⟨k', j, List.mem_append_left _ hk, hj, he⟩
    obtain ⟨h1, h2⟩ := h.edge v hv e he1
    refine ⟨h1, fun hO p ho => ?_⟩
    rcases hown v hv p ho with h3 | ⟨rfl, h4⟩
    · exact Nat.le_trans (hleY p) (h2 hO p h3)
    · simp only [if_true]
      exact Nat.le_trans (Nat.min_le_right _ _) (h2 hO r (h.topOwn hv h4))

/-- The top and all that was opened since are one component. -/
theorem Tj.shut {r : Nat} {A B : List Nat} (h : Tj n adj idx low comp t (A ++ r :: B) (XP ++ [(r, (adj r).length)]) C k) (hlow : low r = idx r) (S : List Nat) (hS : S.Perm (r :: B)) :
    Tj n adj idx low (fun v => if v ∈ S then k else comp v) t A XP (C ++ S) (k + 1) := by
  have hrP : r ∈ (XP ++ [(r, (adj r).length)]).map Prod.fst := by simp
  have hrO := h.pathO hrP
  have eP : (XP ++ [(r, (adj r).length)]).map Prod.fst = XP.map Prod.fst ++ [r] := fst_snoc _ _ _
  have hmS : ∀ v, v ∈ S ↔ v ∈ r :: B := fun v => hS.mem_iff
  have hso := h.sorted
  rw [List.pairwise_append, List.pairwise_cons] at hso
  obtain ⟨hsA, ⟨hsr, hsB⟩, hsx⟩ := hso
  have hge : ∀ v ∈ r :: B, idx r ≤ idx v := fun v hv => by
    rcases List.mem_cons.1 hv with hv | hv
    · rw [hv]; exact Nat.le_refl _
    · exact Nat.le_of_lt (hsr v hv)
  have hAlt : ∀ v ∈ A, idx v < idx r := fun v hv => hsx v hv r (by simp)
  have hmem : ∀ v ∈ A ++ r :: B, idx r ≤ idx v → v ∈ r :: B := fun v hv hle => by
    rcases List.mem_append.1 hv with hv | hv
    · have := hAlt v hv; omega
    · exact hv
  have hmemA : ∀ v ∈ A ++ r :: B, idx v < idx r → v ∈ A := fun v hv hlt => by
    rcases List.mem_append.1 hv with hv | hv
    · exact hv
    · have := hge v hv; omega
  have hnd := h.nd
  have hdisj : ∀ v ∈ C, v ∉ A ++ r :: B := fun v hv hm => by
    rw [List.nodup_append] at hnd
    exact hnd.2.2 v hv v hm rfl
  have hSO : ∀ v ∈ S, v ∈ A ++ r :: B := fun v hv => List.mem_append_right _ ((hmS v).1 hv)
  have hAS : ∀ v ∈ A, v ∉ S := fun v hv hm => by have := hge v ((hmS v).1 hm); have := hAlt v hv; omega
  have hCS : ∀ v ∈ C, v ∉ S := fun v hv hm => hdisj v hv (hSO v hm)
  have hPA : ∀ p ∈ XP.map Prod.fst, p ∈ A := fun p hp => hmemA p (h.pathO (by rw [eP]; exact List.mem_append_left _ hp)) (h.below hp)
  -- each of them reaches the top
  have hback : ∀ m v, idx v < m → v ∈ r :: B → Reach adj v r := by
    intro m
    induction m with
    | zero => intro v hv; omega
    | succ m ih =>
      intro v hv hvB
      by_cases e : v = r
      · rw [e]; exact Reach.refl _ _
      · have hvO : v ∈ A ++ r :: B := List.mem_append_right _ hvB
        have hnP : v ∉ (XP ++ [(r, (adj r).length)]).map Prod.fst := fun hm => by
          rw [eP] at hm
          rcases List.mem_append.1 hm with hm | hm
          · have := hAlt v (hPA v hm); have := hge v hvB; omega
          · simp at hm; exact e hm
        have hf := h.fin v hvO hnP
        obtain ⟨w, hw, e1, e2⟩ := h.lowreach v hvO
        have hlp := h.lowpath v hvO r (h.topOwn hvO (hge v hvB))
        exact e2.trans (ih w (by omega) (hmem w hw (by omega)))
  have hfwd : ∀ v ∈ r :: B, Reach adj r v := fun v hv => h.tree v (List.mem_append_right _ hv) r (h.topOwn (List.mem_append_right _ hv) (hge v hv))
  have hownA : ∀ v ∈ A, ∀ p, Own idx (XP.map Prod.fst) p v → Own idx ((XP ++ [(r, (adj r).length)]).map Prod.fst) p v := fun v hv p ho => by
    refine ⟨by rw [eP]; exact List.mem_append_left _ ho.mem, ho.le, fun q hq hle => ?_⟩
    rw [eP] at hq
    rcases List.mem_append.1 hq with hq | hq
    · exact ho.last q hq hle
    · simp at hq; rw [hq] at hle; have := hAlt v hv; omega
  have hSedge : ∀ v ∈ S, ∀ d ∈ adj v, d ∈ C ∨ d ∈ S := fun v hv d hd => by
    have hvB := (hmS v).1 hv
    have hvO := hSO v hv
    have hsee : Seen2 adj (XP ++ [(r, (adj r).length)]) v d := by
      by_cases e : v = r
      · subst e
        obtain ⟨j, hj, ej⟩ := List.getElem_of_mem hd
        exact .inr ⟨(adj v).length, j, by simp, hj, by rw [List.getElem?_eq_getElem hj, ej]⟩
      · refine .inl ⟨fun hm => ?_, hd⟩
        rw [eP] at hm
        rcases List.mem_append.1 hm with hm | hm
        · have := hAlt v (hPA v hm); have := hge v hvB; omega
        · simp at hm; exact e hm
    obtain ⟨h1, h2⟩ := h.edge v hvO d hsee
    rcases List.mem_append.1 h1 with h1 | h1
    · exact .inl h1
    · right
      rw [hmS]
      refine hmem d h1 ?_
      have := h2 h1 r (h.topOwn hvO (hge v hvB))
      omega
  have hpm : (C ++ (A ++ r :: B)).Perm (C ++ S ++ A) := by
    rw [List.append_assoc]
    exact List.Perm.append_left _ ((List.perm_append_comm).trans (List.Perm.append_right _ hS.symm))
  refine ⟨hpm.nodup_iff.1 h.nd, fun v hv => h.lt v (hpm.mem_iff.2 hv), fun v hv => by rw [h.vis v hv, hpm.mem_iff], hsA, fun v hv => h.top v (List.mem_append_left _ hv), ?_, fun v x hx => h.xle v x (List.mem_append_left _ hx), fun v hv => ?_, fun v hv => h.lowle v (List.mem_append_left _ hv), fun v hv => ?_, fun v hv p ho => h.lowpath v (List.mem_append_left _ hv) p (hownA v hv p ho), fun v hv hn => ?_, fun v hv p ho => h.tree v (List.mem_append_left _ hv) p (hownA v hv p ho), ?_, fun v hv e he => ?_, fun u hu d hd => ?_, fun u hu v hv e => ?_, fun u hu => ?_⟩
  · -- the path without its top lies in A
    have hp := h.path
    rw [eP] at hp
    obtain ⟨l1, l2, hl, hp1, hp2⟩ := List.sublist_append_iff.1 hp
    have hl2 : l2 = [r] ∨ ∃ q l3, l2 = q :: l3 ++ [r] := by
      rcases List.eq_nil_or_concat l2 with h0 | ⟨l3, z, h0⟩
      · exfalso
        rw [h0, List.append_nil] at hl
        have : r ∈ l1 := by rw [← hl]; simp
        have := hAlt r (hp1.subset this)
        omega
      · rw [List.concat_eq_append] at h0
        have hz : z = r := by
          have e2 : XP.map Prod.fst ++ [r] = (l1 ++ l3) ++ [z] := by rw [hl, h0, List.append_assoc]
          have := (List.append_inj' e2 rfl).2
          simpa using this.symm
        subst hz
        cases l3 with
        | nil => left; simpa using h0
        | cons q l3 => right; exact ⟨q, l3, by rw [h0]⟩
    rcases hl2 with hl2 | ⟨q, l3, hl2⟩
    · have e2 : XP.map Prod.fst ++ [r] = l1 ++ [r] := by rw [hl, hl2]
      have := (List.append_inj' e2 rfl).1
      rw [this]; exact hp1
    · exfalso
      have hq1 : q ∈ XP.map Prod.fst := by
        have e2 : XP.map Prod.fst ++ [r] = (l1 ++ (q :: l3)) ++ [r] := by rw [hl, hl2, List.append_assoc]
        rw [(List.append_inj' e2 rfl).1]
        simp
      have hq2 : q ∈ r :: B := hp2.subset (by rw [hl2]; simp)
      have := hAlt q (hPA q hq1)
      have := hge q hq2
      omega
  · obtain ⟨p, hp, hle⟩ := h.head v (List.mem_append_left _ hv)
    rw [eP] at hp
    rcases List.mem_append.1 hp with hp | hp
    · exact ⟨p, hp, hle⟩
    · simp at hp; subst hp; have := hAlt v hv; omega
  · obtain ⟨w, hw, e1, e2⟩ := h.lowreach v (List.mem_append_left _ hv)
    refine ⟨w, hmemA w hw ?_, e1, e2⟩
    have := h.lowle v (List.mem_append_left _ hv)
    have := hAlt v hv
    omega
  · refine h.fin v (List.mem_append_left _ hv) (fun hm => ?_)
    rw [eP] at hm
    rcases List.mem_append.1 hm with hm | hm
    · exact hn hm
    · simp at hm; subst hm; have := hAlt v hv; omega
  · have := h.link; rw [eP, List.pairwise_append] at this; exact this.1
  · have he1 : Seen2 adj (XP ++ [(r, (adj r).length)]) v e := by
      rcases he with ⟨hn, he⟩ | ⟨k', j, hk, hj, he⟩
      · refine .inl ⟨fun hm => ?_, he⟩
        rw [eP] at hm
        rcases List.mem_append.1 hm with hm | hm
        · exact hn hm
        · simp at hm; subst hm; have := hAlt v hv; omega
      · exact .inr ⟨k', j, List.mem_append_left _ hk, hj, he⟩
    obtain ⟨h1, h2⟩ := h.edge v (List.mem_append_left _ hv) e he1
    exact ⟨hpm.mem_iff.1 h1, fun hA p ho => h2 (List.mem_append_left _ hA) p (hownA v hv p ho)⟩
  · rcases List.mem_append.1 hu with hu | hu
    · obtain ⟨h1, h2⟩ := h.closed u hu d hd
      exact ⟨List.mem_append_left _ h1, by simp only [if_neg (hCS u hu), if_neg (hCS d h1)]; exact h2⟩
    · rcases hSedge u hu d hd with h1 | h1
      · exact ⟨List.mem_append_left _ h1, by simp only [if_pos hu, if_neg (hCS d h1)]; exact Nat.le_of_lt (h.num d h1)⟩
      · exact ⟨List.mem_append_right _ h1, by simp only [if_pos hu, if_pos h1]; exact Nat.le_refl _⟩
  · rcases List.mem_append.1 hu with hu | hu
    · rcases List.mem_append.1 hv with hv | hv
      · simp only [if_neg (hCS u hu), if_neg (hCS v hv)] at e
        exact h.scc u hu v hv e
      · simp only [if_neg (hCS u hu), if_pos hv] at e
        have := h.num u hu; omega
    · rcases List.mem_append.1 hv with hv | hv
      · simp only [if_pos hu, if_neg (hCS v hv)] at e
        have := h.num v hv; omega
      · exact (hback (idx u + 1) u (by omega) ((hmS u).1 hu)).trans (hfwd v ((hmS v).1 hv))
  · rcases List.mem_append.1 hu with hu | hu
    · simp only [if_neg (hCS u hu)]; have := h.num u hu; omega
    · simp only [if_pos hu]; omega
end
end Go.Proofs.Qxb6601698a
