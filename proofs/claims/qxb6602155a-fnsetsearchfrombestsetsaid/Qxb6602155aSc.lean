/-
  The walk of '(*setSearch).from' (13).
-/
import Derived.Test.Qxb6602155aSb
import Derived.Test.Qxb6602155aRe
import Derived.Deep.RegionHeld3
import Derived.Deep.RegionLaw
import Derived.Deep.DrawnRows
import Derived.Deep.DeepCutAuto
import Derived.Deep.QuietTactic
import Derived.BigQuiet
namespace Go.Proofs.Qxb6602155a
open Go.RowKit
attribute [local go_sem ↓] Go.wp_at_zero Go.wp_at_succ

/-- An item's cell by its place. -/
def It.val (x : It) : Nat → Value
  | 0 => .string x.name
  | 1 => .int .u64 x.ver
  | 2 => .int .i64 x.num
  | 3 => .int .u64 x.ctr
  | _ => .int .i64 x.size
def noIt : It := ⟨ByteArray.empty, 0, 0, 0, 0⟩
/-- A row of items, five cells an item. -/
def itF (xs : List It) (j : Nat) : Value := (xs.getD (j / 5) noIt).val (j % 5)
theorem itF_at (xs : List It) (k r : Nat) (hr : r < 5) : itF xs (k * 5 + r) = (xs.getD k noIt).val r := by
  unfold itF
  rw [show (k * 5 + r) / 5 = k by omega, show (k * 5 + r) % 5 = r by omega]

/-- What the search is told of its items and of the sums from each on. -/
structure Given (w : World) (sb ib rb : Nat) (items : List It) (sv : Value) : Prop where
  irow : w.rowIs ib 32 (items.length * 5) (itF items)
  rrow : w.rowIs rb 2 (items.length + 1) (fun j => .int .i64 (restOf (items.drop j)))
  i1 : ib ≠ sb
  r1 : rb ≠ sb
  i2 : sv.ownBlock ≠ some ib
  r2 : sv.ownBlock ≠ some rb

/-- The bounds that keep Go's int64 from wrapping. -/
structure Fits (lo hi sum : Int) : Prop where
  s0 : 0 ≤ sum
  s1 : sum ≤ maxI
  l0 : -9223372036854775808 ≤ lo
  l1 : lo ≤ maxI
  h1 : hi ≤ maxI
  ls : -9223372036854775808 ≤ lo - sum
  hs : -9223372036854775808 ≤ hi - sum
  lh : -9223372036854775808 ≤ lo - hi

def ivOf (ib n : Nat) : Value := .slice (some ⟨ib, 0, none⟩) n n
def rvOf (rb n : Nat) : Value := .slice (some ⟨rb, 0, none⟩) (n + 1) (n + 1)

theorem owns_shape {w : World} {base : Nat} {e : TypeId} {size : Nat} {v : Value} {n : Nat} {xs : List Value} (h : w.ownsRow base e size v n xs) : ∃ a n' c, v = .slice a n' c := by
  rcases h.2 with ⟨rfl, _⟩ | ⟨g, cap, cur, rfl, _⟩
  · exact ⟨_, _, _, rfl⟩
  · exact ⟨_, _, _, rfl⟩

theorem SIn.drewN {w : World} {sb : Nat} {iv rv : Value} {lo hi : Int} {least : Bool} {sv bv : Value} {s : St} (h : SIn w sb iv rv lo hi least sv bv s) (n : Nat) : SIn (w.drewN n) sb iv rv lo hi least sv bv s :=
  ⟨h.row, h.set, h.best, h.ss, h.bs, h.sn⟩
theorem Kept.drewN {T : Nat → Prop} {w w' : World} (h : Kept T w w') (n : Nat) : Kept T w (w'.drewN n) := ⟨h.os, h.tape, h.output, h.size, h.block⟩
theorem After.drewN {w w' : World} {sb : Nat} {iv rv : Value} {lo hi : Int} {least : Bool} {sv : Value} {s : St} (h : After w w' sb iv rv lo hi least sv s) (n : Nat) : After w (w'.drewN n) sb iv rv lo hi least sv s := by
  obtain ⟨a, b, c, d, e⟩ := h
  exact ⟨a, b, c.drewN n, d.drewN n, e⟩

theorem moved_touch {w : World} {sb : Nat} {sv sv1 : Value} (hm : Moved w sv sv1) {k : Nat} (hk : k < w.heap.size) (t : Touch sb sv1 k) : Touch sb sv k := by
  rcases t with t | t
  · exact .inl t
  · rcases hm with m | ⟨g, hg, m⟩
    · exact .inr (m ▸ t)
    · rw [m] at t; cases t; omega
theorem kept_moved {w w1 w2 : World} {sb : Nat} {sv sv1 : Value} (hk : Kept (Touch sb sv) w w1) (hm : Moved w sv sv1) (h2 : Kept (Touch sb sv1) w1 w2) : Kept (Touch sb sv) w w2 :=
  hk.trans h2 (fun _ hx t => moved_touch hm hx t)
theorem moved_moved {w w1 : World} {sb : Nat} {sv sv1 sv2 : Value} (hk : Kept (Touch sb sv) w w1) (hm : Moved w sv sv1) (c : Moved w1 sv1 sv2) : Moved w sv sv2 := by
  rcases c with c | ⟨g, hg, c⟩
  · rcases hm with m | ⟨g, hg, m⟩
    · exact .inl (c.trans m)
    · exact .inr ⟨g, hg, c.trans m⟩
  · exact .inr ⟨g, Nat.le_trans hk.size hg, c⟩
theorem given_moved {w w1 : World} {sb ib rb : Nat} {items : List It} {sv sv1 : Value} (h : Given w sb ib rb items sv) (hk : Kept (Touch sb sv) w w1) (hm : Moved w sv sv1) : Given w1 sb ib rb items sv1 := by
  refine ⟨hk.row h.irow (fun t => by rcases t with t | t; exact h.i1 t; exact h.i2 t), hk.row h.rrow (fun t => by rcases t with t | t; exact h.r1 t; exact h.r2 t), h.i1, h.r1, fun e => ?_, fun e => ?_⟩
  · rcases moved_touch (sb := sb) hm h.irow.lt (.inr e) with t | t
    · exact h.i1 t
    · exact h.i2 t
  · rcases moved_touch (sb := sb) hm h.rrow.lt (.inr e) with t | t
    · exact h.r1 t
    · exact h.r2 t
theorem fits_take {lo hi sum : Int} {size : Int} (h : Fits lo hi sum) (hx : InR size) (hle : sum + size ≤ hi) : Fits lo hi (sum + size) := by
  obtain ⟨a, b, c, d, e, f, g, k⟩ := h
  obtain ⟨x1, x2⟩ := hx
  exact ⟨by omega, by omega, c, d, e, by omega, by omega, k⟩
theorem own_cap {w : World} {base : Nat} {e : TypeId} {size g n m cap : Nat} {xs : List Value} (h : w.ownsRow base e size (.slice (some ⟨g, 0, none⟩) n cap) m xs) : n ≤ cap := by
  rcases h.2 with ⟨h0, _⟩ | ⟨g', cap', cur, hv, _, _, hn, _⟩
  · cases h0
  · cases hv; exact hn

/-- The contract of 'from' over the suffix l. -/
def FromC (items : List It) (lo hi : Int) (least : Bool) (l : List It) : Prop :=
  ∀ (sb ib rb i : Nat) (sum : Int) (s : St) (w : World) (sv bv : Value), items.drop i = l → i ≤ items.length → items.length ≤ 4096 → (∀ x ∈ items, InR x.size) → Fits lo hi sum → s.steps ≤ 4096 → InR s.sum → s.set.length + l.length ≤ 8192 →
    SIn w sb (ivOf ib items.length) (rvOf rb items.length) lo hi least sv bv s → Given w sb ib rb items sv →
    Calls Try.prog 13 #[.pointer (some ⟨sb, 0, none⟩), .int .i64 i, .int .i64 sum] w fun e w' => e = .returned (.tuple #[]) ∧ After w w' sb (ivOf ib items.length) (rvOf rb items.length) lo hi least sv (search lo hi least l sum s)

set_option maxRecDepth 100000 in
set_option maxHeartbeats 8000000 in
theorem from_body (items : List It) (lo hi : Int) (least : Bool) (l : List It) (ih : ∀ x r, l = x :: r → FromC items lo hi least r) : FromC items lo hi least l := by
  intro sb ib rb i sum s w sv bv hdrop hi' hlen hsz hfit hst hsum hset hS hG
  have c5 : w.cell? ⟨sb, 5, none⟩ = some (.int .i64 s.steps) := hS.row.cell (i := 5) (by omega)
  have f5 := hS.row.frozen 5
  by_cases hout : s.steps = 4096
  · have hb : ((s.steps : Int) == 4096) = true := by rw [beq_iff_eq]; omega
    have HO : Hid (s.steps = 4096) := hout
    clear hout
    as_aux_lemma =>
      go_enter Try.func13, Try.ntmps13
      go_wp2
      refine bodyPost_ret (results_none rfl _ _ _) rfl ?_
      rw [search_out HO.out]
      exact ⟨rfl, After.start hS⟩
  · have hb : ((s.steps : Int) == 4096) = false := by rw [beq_eq_false_iff_ne]; omega
    have hlt : s.steps < 4096 := by omega
    have c2 : w.cell? ⟨sb, 2, none⟩ = some (.int .i64 lo) := hS.row.cell (i := 2) (by omega)
    have c3 : w.cell? ⟨sb, 3, none⟩ = some (.int .i64 hi) := hS.row.cell (i := 3) (by omega)
    have c4 : w.cell? ⟨sb, 4, none⟩ = some (.bool least) := hS.row.cell (i := 4) (by omega)
    have c6 : w.cell? ⟨sb, 6, none⟩ = some sv := hS.row.cell (i := 6) (by omega)
    have c7 : w.cell? ⟨sb, 7, none⟩ = some bv := hS.row.cell (i := 7) (by omega)
    have c8 : w.cell? ⟨sb, 8, none⟩ = some (.int .i64 s.sum) := hS.row.cell (i := 8) (by omega)
    have c9 : w.cell? ⟨sb, 9, none⟩ = some (.bool s.found) := hS.row.cell (i := 9) (by omega)
    have f7 := hS.row.frozen 7
    have f8 := hS.row.frozen 8
    have f9 := hS.row.frozen 9
    have hsbl := hS.row.lt
    go_enter Try.func13, Try.ntmps13
    go_upto_region 2 with fail
    go_cut [6] from 8 (fun t w1 => t = .bool (better least sum s) ∧ w1 = w.setCell ⟨sb, 5, none⟩ (.int .i64 (s.steps + 1)))
    case first =>
      as_aux_lemma =>
        rcases Bool.eq_false_or_eq_true s.found with hf | hf
        · rw [hf] at c9
          rcases Bool.eq_false_or_eq_true least with hl | hl
          · rw [hl] at c4
            have HB : Hid (better least sum s = decide (sum < s.sum)) := by simp [Hid, better, hf, hl]
            clear hf hl
            go_wp2_with fail
            all_goals
              go_meet
              case rel => exact ⟨by rw [HB.out]; first | done | simp_all, rfl⟩
          · rw [hl] at c4
            have HB : Hid (better least sum s = decide (s.sum < sum)) := by simp [Hid, better, hf, hl]
            clear hf hl
            go_wp2_with fail
            all_goals
              go_meet
              case rel => exact ⟨by rw [HB.out]; first | done | simp_all, rfl⟩
        · rw [hf] at c9
          have HB : Hid (better least sum s = true) := by simp [Hid, better, hf]
          clear hf
          go_wp2_with fail
          go_meet
          case rel => exact ⟨by rw [HB.out]; first | done | simp_all, rfl⟩
    case rest =>
      obtain ⟨rfl, rfl⟩ := hcut
      go_upto_region 3 with fail
      go_cut [70] from 8 (fun t w1 => t = .bool (decide (lo ≤ sum) && decide (sum ≤ hi) && better least sum s) ∧ w1 = w.setCell ⟨sb, 5, none⟩ (.int .i64 (s.steps + 1)))
      case first =>
        as_aux_lemma =>
          generalize better least sum s = bt at *
          by_cases h1 : lo ≤ sum
          · by_cases h2 : sum ≤ hi
            · have HT : Hid ((decide (lo ≤ sum) && decide (sum ≤ hi) && bt) = bt) := by simp [Hid, h1, h2]
              cases bt
              all_goals
                go_wp2_with fail
                go_meet
                case rel => exact ⟨by rw [HT.out], rfl⟩
            · have HT : Hid ((decide (lo ≤ sum) && decide (sum ≤ hi) && bt) = false) := by simp [Hid, h2]
              go_wp2_with fail
              go_meet
              case rel => exact ⟨by rw [HT.out], rfl⟩
          · have HT : Hid ((decide (lo ≤ sum) && decide (sum ≤ hi) && bt) = false) := by simp [Hid, h1]
            go_wp2_with fail
            go_meet
            case rel => exact ⟨by rw [HT.out], rfl⟩
      case rest =>
        obtain ⟨rfl, rfl⟩ := hcut
        have hS1 := hS.tick
        go_upto_if 70 with fail
        go_cut [2] from 8 (fun t w1 => t = .int .i64 sum ∧ ∃ bv1, SIn w1 sb (ivOf ib items.length) (rvOf rb items.length) lo hi least sv bv1 (enter lo hi least sum s) ∧ Kept (Touch sb sv) w w1)
        case first =>
          as_aux_lemma =>
            cases hbt : (decide (lo ≤ sum) && decide (sum ≤ hi) && better least sum s) with
            | true =>
              have HE : Hid (enter lo hi least sum s = { { s with steps := s.steps + 1 } with best := s.set, sum := sum, found := true }) := by
                simp only [Bool.and_eq_true, decide_eq_true_eq] at hbt
                have hb2 : better least sum { s with steps := s.steps + 1 } = true := hbt.2
                simp only [Hid, enter, weigh]
                rw [if_pos ⟨hbt.1.1, hbt.1.2, hb2⟩]
              clear hbt
              go_wp2_with fail
              refine (clone_any _ s.set _ hS1.set (by omega)).mono ?_
              rintro e w1 ⟨⟨bv1, rfl, hown, hnew⟩, hgrow⟩
              obtain ⟨ba, bn, bc, rfl⟩ := owns_shape hown
              have hS2 := hS1.keep sum hgrow hown hnew
              have hr1 := hS1.row.of_block (hgrow.block sb (by simpa [World.setCell] using hsbl) (by simp))
              have d7 := hr1.cell (i := 7) (by omega)
              have d8 := hr1.cell (i := 8) (by omega)
              have d9 := hr1.cell (i := 9) (by omega)
              have g7 := hr1.frozen 7
              have g8 := hr1.frozen 8
              have g9 := hr1.frozen 9
              simp only [sCells] at d7 d8 d9
              have HK : Hid (Kept (Touch sb sv) w (((w1.setCell ⟨sb, 7, none⟩ (.slice ba bn bc)).setCell ⟨sb, 8, none⟩ (.int .i64 sum)).setCell ⟨sb, 9, none⟩ (.bool true))) :=
                ((((((Kept.refl _ _).setCell (a := ⟨sb, 5, none⟩) (.inl (.inl rfl)) _).grown hgrow (fun k hk => by cases hk)).setCell (.inl (.inl rfl)) _).setCell (.inl (.inl rfl)) _).setCell (.inl (.inl rfl)) _)
              have HS2 : Hid _ := hS2
              clear hS2 hr1 hgrow hown hS1
              go_wp2_with fail
              go_meet
              case rel => exact ⟨rfl, _, by rw [HE.out]; exact HS2.out, HK.out⟩
            | false =>
              have HE : Hid (enter lo hi least sum s = { s with steps := s.steps + 1 }) := by
                simp only [Hid, enter, weigh]
                rw [if_neg]
                rintro ⟨a, b, c⟩
                have hb2 : better least sum s = true := c
                rw [hb2] at hbt
                simp [a, b] at hbt
              clear hbt
              go_wp2_with fail
              go_meet
              case rel => exact ⟨rfl, bv, by rw [HE.out]; exact hS1, (Kept.refl _ _).setCell (.inl (.inl rfl)) _⟩
        case rest =>
          obtain ⟨rfl, bv1, hS2, hK2⟩ := hcut
          clear hS1 c2 c3 c4 c5 c6 c7 c8 c9 f5 f7 f8 f9
          as_aux_lemma =>
            have e1 := enter_set lo hi least sum s
            have e2 := enter_steps lo hi least sum s
            have e3 : InR (enter lo hi least sum s).sum := enter_sum ⟨hfit.s0, hfit.s1⟩ hsum
            generalize hs2 : enter lo hi least sum s = s2 at *
            have HS2 : Hid (enter lo hi least sum s = s2) := hs2
            clear hs2
            have c0 : wc.cell? ⟨sb, 0, none⟩ = some (.slice (some ⟨ib, 0, none⟩) items.length items.length) := hS2.row.cell (i := 0) (by omega)
            have c1 : wc.cell? ⟨sb, 1, none⟩ = some (.slice (some ⟨rb, 0, none⟩) (items.length + 1) (items.length + 1)) := hS2.row.cell (i := 1) (by omega)
            have c2 : wc.cell? ⟨sb, 2, none⟩ = some (.int .i64 lo) := hS2.row.cell (i := 2) (by omega)
            have c3 : wc.cell? ⟨sb, 3, none⟩ = some (.int .i64 hi) := hS2.row.cell (i := 3) (by omega)
            have c4 : wc.cell? ⟨sb, 4, none⟩ = some (.bool least) := hS2.row.cell (i := 4) (by omega)
            have c6 : wc.cell? ⟨sb, 6, none⟩ = some sv := hS2.row.cell (i := 6) (by omega)
            have c8 : wc.cell? ⟨sb, 8, none⟩ = some (.int .i64 s2.sum) := hS2.row.cell (i := 8) (by omega)
            have c9 : wc.cell? ⟨sb, 9, none⟩ = some (.bool s2.found) := hS2.row.cell (i := 9) (by omega)
            have hA2 : After w wc sb (ivOf ib items.length) (rvOf rb items.length) lo hi least sv s2 := ⟨sv, bv1, hS2, hK2, .inl rfl⟩
            have hstep : s.steps ≠ 4096 := hout
            clear hout hb
            cases l with
            | nil =>
              as_aux_lemma =>
                have hin : i = items.length := by
                  rcases Nat.lt_or_ge i items.length with h | h
                  · rw [List.drop_eq_getElem_cons h] at hdrop; cases hdrop
                  · omega
                have hne : ((i : Int) == (items.length : Int)) = true := by rw [beq_iff_eq]; omega
                have HE : Hid (search lo hi least [] sum s = s2) := by rw [Hid, search_nil hstep]; exact HS2.out
                clear hin
                go_wp2
                refine bodyPost_ret (results_none rfl _ _ _) rfl ?_
                rw [HE.out]
                exact ⟨rfl, hA2⟩
            | cons x r =>
              have hin : i < items.length := by
                rcases Nat.lt_or_ge i items.length with h | h
                · exact h
                · rw [List.drop_of_length_le h] at hdrop; cases hdrop
              have hx : items.getD i noIt = x := by
                have := List.drop_eq_getElem_cons hin
                rw [hdrop] at this
                injection this with h1 h2
                rw [List.getD, List.getElem?_eq_getElem hin, ← h1]; rfl
              have hr : items.drop (i + 1) = r := by
                have := List.drop_eq_getElem_cons hin
                rw [hdrop] at this
                injection this with h1 h2
                exact h2.symm
              have hI2 := hK2.row hG.irow (fun t => by rcases t with t | t; exact hG.i1 t; exact hG.i2 t)
              have hR2 := hK2.row hG.rrow (fun t => by rcases t with t | t; exact hG.r1 t; exact hG.r2 t)
              have crest : wc.cell? ⟨rb, i, none⟩ = some (.int .i64 (restOf (x :: r))) := by rw [← hdrop]; exact hR2.cell (i := i) (by omega)
              have csize : wc.cell? ⟨ib, i * 5 + 4, none⟩ = some (.int .i64 x.size) := by
                rw [hI2.cell (i := i * 5 + 4) (by omega), itF_at _ _ _ (by omega), hx]; rfl
              have hxs : InR x.size := hsz x (by
                have : x ∈ items.drop i := by rw [hdrop]; simp
                exact List.mem_of_mem_drop this)
              have hne : ((i : Int) == (items.length : Int)) = false := by rw [beq_eq_false_iff_ne]; omega
              have HF : Hid (Fits lo hi sum) := hfit
              have HG : Hid (Given w sb ib rb items sv) := hG
              have HD : Hid (items.drop (i + 1) = r) := hr
              have w1 : IntKind.i64.wrap (lo - sum) = lo - sum := by have := hfit.ls; have := hfit.l1; have := hfit.s0; unfold maxI at *; rw [IntKind.wrap_i64]; omega
              have w2 : IntKind.i64.wrap (s2.sum - sum) = s2.sum - sum := by obtain ⟨a, b⟩ := e3; have := hfit.s1; have := hfit.s0; unfold maxI at *; rw [IntKind.wrap_i64]; omega
              have hi0 : (0 : Int) ≤ (i : Int) := by omega
              have hi1 : (i : Int) < (items.length : Int) + 1 := by omega
              have hi2 : (i : Int) < (items.length : Int) := by omega
              by_cases k1 : least = true ∧ lo ≤ sum
              · skip
                as_aux_lemma =>
                  have HE : Hid (search lo hi least (x :: r) sum s = s2) := by
                    rw [Hid, search_cut hstep]
                    · exact HS2.out
                    · rw [HS2.out]; simp [cuts, k1.1, k1.2]
                  obtain ⟨k1a, k1b⟩ := k1
                  rw [k1a] at c4
                  clear k1a
                  go_wp2
                  refine bodyPost_ret (results_none rfl _ _ _) rfl ?_
                  rw [HE.out]
                  exact ⟨rfl, hA2⟩
              · by_cases k2 : restOf (x :: r) < lo - sum
                · skip
                  have HE : Hid (search lo hi least (x :: r) sum s = s2) := by
                    rw [Hid, search_cut hstep]
                    · exact HS2.out
                    · rw [HS2.out]; simp [cuts, k2]
                  have hd : decide (restOf (x :: r) < lo - sum) = true := by simpa using k2
                  as_aux_lemma =>
                    rcases Bool.eq_false_or_eq_true least with hl | hl
                    all_goals
                      rw [hl] at c4
                      have k1b : least = true → sum < lo := fun h => by have := k1; simp [h] at this; omega
                      clear k1
                      first | (have k1c := k1b hl; clear k1b hl) | clear k1b hl
                      go_upto_region 7 with fail
                      go_quiet (fail)
                      go_wp2
                      refine bodyPost_ret (results_none rfl _ _ _) rfl ?_
                      rw [HE.out]
                      exact ⟨rfl, hA2.drewN _⟩
                · skip
                  have hd : decide (restOf (x :: r) < lo - sum) = false := by simpa using k2
                  have HKC : Hid (cuts lo hi least (x :: r) sum s2 = (!least && s2.found && (s2.sum == hi || decide (restOf (x :: r) ≤ s2.sum - sum)))) := by
                    have : (least && decide (lo ≤ sum)) = false := by
                      rcases Bool.eq_false_or_eq_true least with hl | hl
                      · have : ¬ lo ≤ sum := fun h => k1 ⟨hl, h⟩
                        simp [this]
                      · simp [hl]
                    simp [Hid, cuts, this, hd]
                  go_upto_region 6 with fail
                  go_cut [94] from 8 (fun t w1 => t = .bool false ∧ w1 = wc)
                  case first =>
                    as_aux_lemma =>
                      rcases Bool.eq_false_or_eq_true least with hl | hl
                      · rw [hl] at c4
                        have k1c : sum < lo := by have := k1; simp [hl] at this; omega
                        have k1d : decide (lo ≤ sum) = false := by simp; omega
                        clear k1 k2 hl
                        go_wp2_with fail
                        go_meet
                        case rel => exact ⟨rfl, rfl⟩
                      · rw [hl] at c4
                        clear k1 k2 hl
                        go_wp2_with fail
                        go_meet
                        case rel => exact ⟨rfl, rfl⟩
                  case rest =>
                    obtain ⟨rfl, rfl⟩ := hcut
                    clear k1 k2
                    go_upto_region 7 with fail
                    go_quiet (fail)
                    go_upto_region 8 with fail
                    by_cases k3 : least = false ∧ s2.found = true ∧ (s2.sum = hi ∨ restOf (x :: r) ≤ s2.sum - sum)
                    · have HE : Hid (search lo hi least (x :: r) sum s = s2) := by
                        rw [Hid, search_cut hstep]
                        · exact HS2.out
                        · rw [HS2.out, HKC.out]
                          obtain ⟨c, a, b⟩ := k3
                          rw [a, c]
                          rcases b with b | b
                          · simp [b]
                          · simp [b]
                      as_aux_lemma =>
                        obtain ⟨hl, hf, hor⟩ := k3
                        rw [hf] at c9
                        rw [hl] at c4
                        clear hf hl
                        by_cases hq : s2.sum = hi
                        · have hq2 : (s2.sum == hi) = true := by rw [beq_iff_eq]; exact hq
                          clear hor hq
                          go_quiet (fail)
                          go_wp2
                          refine bodyPost_ret (results_none rfl _ _ _) rfl ?_
                          rw [HE.out]
                          exact ⟨rfl, (hA2.drewN _).drewN _⟩
                        · have hq2 : (s2.sum == hi) = false := by rw [beq_eq_false_iff_ne]; exact hq
                          have hq3 : restOf (x :: r) ≤ s2.sum - sum := by rcases hor with h | h; exact absurd h hq; exact h
                          have hq4 : decide (restOf (x :: r) ≤ s2.sum - sum) = true := by simpa using hq3
                          clear hor hq
                          go_quiet (fail)
                          go_wp2
                          refine bodyPost_ret (results_none rfl _ _ _) rfl ?_
                          rw [HE.out]
                          exact ⟨rfl, (hA2.drewN _).drewN _⟩
                    · have HNC : Hid (cuts lo hi least (x :: r) sum s2 = false) := by
                        rw [Hid, HKC.out]
                        rcases Bool.eq_false_or_eq_true least with hl | hl
                        · simp [hl]
                        · rcases Bool.eq_false_or_eq_true s2.found with hf | hf
                          · have n1 : ¬ s2.sum = hi := fun h => k3 ⟨hl, hf, .inl h⟩
                            have n2 : ¬ restOf (x :: r) ≤ s2.sum - sum := fun h => k3 ⟨hl, hf, .inr h⟩
                            simp [n1, n2]
                          · simp [hf]
                      as_aux_lemma =>
                        go_cut [122] from 8 (fun t w1 => t = .bool false ∧ ∃ q, w1 = wc.drewN q)
                        case first =>
                          as_aux_lemma =>
                            rcases Bool.eq_false_or_eq_true least with hl | hl
                            · rw [hl] at c4
                              clear k3 hl
                              go_quiet (fail)
                              go_wp2_with fail
                              go_meet
                              case rel => exact ⟨rfl, _, World.drewN_drewN _ _ _⟩
                            · rcases Bool.eq_false_or_eq_true s2.found with hf | hf
                              · have n1 : (s2.sum == hi) = false := by rw [beq_eq_false_iff_ne]; exact fun h => k3 ⟨hl, hf, .inl h⟩
                                have n2 : decide (restOf (x :: r) ≤ s2.sum - sum) = false := by simpa using fun h => k3 ⟨hl, hf, .inr h⟩
                                rw [hf] at c9
                                rw [hl] at c4
                                clear k3 hf hl
                                go_quiet (fail)
                                go_wp2_with fail
                                go_meet
                                case rel => exact ⟨rfl, _, World.drewN_drewN _ _ _⟩
                              · rw [hf] at c9
                                rw [hl] at c4
                                clear k3 hf hl
                                go_quiet (fail)
                                go_wp2_with fail
                                go_meet
                                case rel => exact ⟨rfl, _, World.drewN_drewN _ _ _⟩
                        case rest =>
                          obtain ⟨rfl, q, rfl⟩ := hcut
                          go_upto_region 9 with fail
                          as_aux_lemma =>
                            go_cut [7] from 8 (fun t w1 => t = .int .i64 x.size ∧ ∃ q, w1 = wc.drewN q)
                            case first =>
                              go_wp2_with fail
                              go_meet
                              case rel => exact ⟨rfl, _, rfl⟩
                            case rest =>
                              obtain ⟨rfl, q, rfl⟩ := hcut
                              have hS3 := hS2.drewN q
                              have hK3 := hK2.drewN q
                              have hI3 : (wc.drewN q).rowIs ib 32 (items.length * 5) (itF items) := hI2
                              clear c0 c1 c2 c3 c4 c6 c8 c9 crest csize hA2 hI2 hR2 hS2 hK2
                              generalize wc.drewN q = wd at *
                              have c0 : wd.cell? ⟨sb, 0, none⟩ = some (.slice (some ⟨ib, 0, none⟩) items.length items.length) := hS3.row.cell (i := 0) (by omega)
                              have c3 : wd.cell? ⟨sb, 3, none⟩ = some (.int .i64 hi) := hS3.row.cell (i := 3) (by omega)
                              have c4 : wd.cell? ⟨sb, 4, none⟩ = some (.bool least) := hS3.row.cell (i := 4) (by omega)
                              have c6 : wd.cell? ⟨sb, 6, none⟩ = some sv := hS3.row.cell (i := 6) (by omega)
                              have c8 : wd.cell? ⟨sb, 8, none⟩ = some (.int .i64 s2.sum) := hS3.row.cell (i := 8) (by omega)
                              have c9 : wd.cell? ⟨sb, 9, none⟩ = some (.bool s2.found) := hS3.row.cell (i := 9) (by omega)
                              have w3 : IntKind.i64.wrap (hi - sum) = hi - sum := by have := hfit.hs; have := hfit.h1; have := hfit.s0; unfold maxI at *; rw [IntKind.wrap_i64]; omega
                              go_upto_region 10 with fail
                              go_cut [199] from 8 (fun t w1 => t = .bool (takes hi least x.size sum s2) ∧ w1 = wd)
                              case first =>
                                as_aux_lemma =>
                                  have b1 : -9223372036854775808 ≤ hi - sum := hfit.hs
                                  have b2 : hi - sum ≤ 9223372036854775807 := by have := hfit.h1; have := hfit.s0; unfold maxI at *; omega
                                  have b3 : -9223372036854775808 ≤ s2.sum - sum ∧ s2.sum - sum ≤ 9223372036854775807 := by obtain ⟨a, b⟩ := e3; have := hfit.s1; have := hfit.s0; unfold maxI at *; omega
                                  obtain ⟨b3, b4⟩ := b3
                                  by_cases h1 : x.size ≤ hi - sum
                                  · rcases Bool.eq_false_or_eq_true least with hl | hl
                                    · rcases Bool.eq_false_or_eq_true s2.found with hf | hf
                                      · have HT : Hid (takes hi least x.size sum s2 = (!(decide (s2.sum - sum ≤ x.size)))) := by simp [Hid, takes, h1, hf, hl]
                                        rw [hf] at c9
                                        rw [hl] at c4
                                        clear hf hl
                                        go_wp2_with fail
                                        go_meet
                                        case rel => exact ⟨by rw [HT.out], rfl⟩
                                      · have HT : Hid (takes hi least x.size sum s2 = true) := by simp [Hid, takes, h1, hf]
                                        rw [hf] at c9
                                        rw [hl] at c4
                                        clear hf hl
                                        go_wp2_with fail
                                        go_meet
                                        case rel => exact ⟨by rw [HT.out], rfl⟩
                                    · have HT : Hid (takes hi least x.size sum s2 = true) := by simp [Hid, takes, h1, hl]
                                      rw [hl] at c4
                                      clear hl
                                      go_wp2_with fail
                                      go_meet
                                      case rel => exact ⟨by rw [HT.out], rfl⟩
                                  · have HT : Hid (takes hi least x.size sum s2 = false) := by simp [Hid, takes, h1]
                                    go_wp2_with fail
                                    go_meet
                                    case rel => exact ⟨by rw [HT.out], rfl⟩
                              case rest =>
                                obtain ⟨rfl, rfl⟩ := hcut
                                go_upto_if 199 with fail
                                go_cut [2] from 8 (fun t w1 => t = .int .i64 sum ∧ ∃ s3, search lo hi least (x :: r) sum s = search lo hi least r sum s3 ∧ s3.steps ≤ 4096 ∧ InR s3.sum ∧ s3.set = s.set ∧ After w w1 sb (ivOf ib items.length) (rvOf rb items.length) lo hi least sv s3)
                                case first =>
                                  as_aux_lemma =>
                                    cases htk : takes hi least x.size sum s2 with
                                    | false =>
                                      have HE : Hid (search lo hi least (x :: r) sum s = search lo hi least r sum s2) := by
                                        rw [Hid, search_skip hstep (by rw [HS2.out]; exact HNC.out) (by rw [HS2.out]; exact htk), HS2.out]
                                      clear htk
                                      go_wp2_with fail
                                      go_meet
                                      case rel => exact ⟨rfl, s2, HE.out, by omega, e3, e1, sv, bv1, hS3, hK3, .inl rfl⟩
                                    | true =>
                                      have HE : Hid (search lo hi least (x :: r) sum s = search lo hi least r sum (pop (search lo hi least r (sum + x.size) (push s2 x)))) := by
                                        rw [Hid, search_take hstep (by rw [HS2.out]; exact HNC.out) (by rw [HS2.out]; exact htk), HS2.out]
                                      have hle := takes_le htk
                                      clear htk
                                      obtain ⟨i0, hi0', hz0, hz1, hz2⟩ := info_parts info32
                                      have x0 : wc.cell? ⟨ib, i * 5, none⟩ = some (.string x.name) := by
                                        have := hI3.cell (i := i * 5) (by omega)
                                        rw [show i * 5 = i * 5 + 0 from rfl, itF_at _ _ _ (by omega), hx] at this; exact this
                                      have x1 : wc.cell? ⟨ib, i * 5 + 1, none⟩ = some (.int .u64 x.ver) := by rw [hI3.cell (i := i * 5 + 1) (by omega), itF_at _ _ _ (by omega), hx]; rfl
                                      have x2 : wc.cell? ⟨ib, i * 5 + 2, none⟩ = some (.int .i64 x.num) := by rw [hI3.cell (i := i * 5 + 2) (by omega), itF_at _ _ _ (by omega), hx]; rfl
                                      have x3 : wc.cell? ⟨ib, i * 5 + 3, none⟩ = some (.int .u64 x.ctr) := by rw [hI3.cell (i := i * 5 + 3) (by omega), itF_at _ _ _ (by omega), hx]; rfl
                                      have x4 : wc.cell? ⟨ib, i * 5 + 4, none⟩ = some (.int .i64 x.size) := by rw [hI3.cell (i := i * 5 + 4) (by omega), itF_at _ _ _ (by omega), hx]; rfl
                                      have lsb := hS3.row.lt
                                      have lib := hI3.lt
                                      have g6 := hS3.row.frozen 6
                                      have hG1 := HG.out.i1
                                      have hG2 := HG.out.i2
                                      have hss := hS3.ss
                                      have hown : wc.ownsRow 0 32 5 sv s2.set.length (valsOf s2.set) := hS3.set
                                      go_upto_region 11 with fail

                                      as_aux_lemma =>
                                        refine wp_region_noPanic ?_
                                        refine reg11 _ (by kernel_rfl) _ _ _ _ _ _ _ _ _ _ _ _ _ _ _ _ _ _ _ _ _ _ _ _ _ _ _ _ _ _ _ _ _ _ _ _ _ _ _ _ _ _ _ _ _ _ _ _ _ _ _ _ _ _ _ _ _ _ _ _ _ _ _ _ _ _ _ _ _ _ _ _ _ _ _ _ _ _ _ _ _ _ _ _ _ _ _ _ _ _ _ _ _ _ _ _ _ _ _ _ _ _ _ _ _ _ _ _ _ _ _ _ _ _ _ _ _ _ _ _ _ _ _ _ _ _ _ _ _ _ _ _ _ _ _ _ _ _ _ _ _ _ _ _ _ _ _ _ _ _ _ _ _ _ _ _ _ _ _ _ _ _ _ _ _ _ _ _ _ _ _ _ _ _ _ _ _ _ _ _ _ _ _ _ _ _ _ _ _ _ _ _ _ _ _ _ _ _ _ _ _ _ _ _ _ _ _ _ _ _ _ _ _ _ _ _ _ _ _ _ _ _ _ _ _ _ _ _ _ _ _ _ _ _ _ _ _ _ _ sb ib i items.length sum sv x s2.set wc _ (fun _ _ _ _ _ h => h) hi0 hi2 (by rw [e1]; omega) c6 c0 x0 x1 x2 x3 x4 hown lsb lib hss hG2 g6 ?_
                                        intro g cap w2 v200 v201 v202 v203 v204 v205 v206 v207 v208 v209 v210 v211 v212 v213 v214 v215 hgA hown1 hat
                                        refine NoPanic.normal ?_
                                        obtain ⟨hP1, hP2, hP3⟩ := hS3.pushed hgA hown1 hat
                                        have hK4 : Kept (Touch sb sv) w (w2.setCell ⟨sb, 6, none⟩ (.slice (some ⟨g, 0, none⟩) (s2.set.length + 1) cap)) := hK3.trans hP2 (fun _ _ h => h)
                                        have hM4 : Moved w sv (.slice (some ⟨g, 0, none⟩) (s2.set.length + 1) cap) := .elim hP3 (fun h => .inl h) (fun ⟨g', hg', h⟩ => .inr ⟨g', Nat.le_trans hK3.size hg', h⟩)
                                        have hG4 : Given (w2.setCell ⟨sb, 6, none⟩ (.slice (some ⟨g, 0, none⟩) (s2.set.length + 1) cap)) sb ib rb items (.slice (some ⟨g, 0, none⟩) (s2.set.length + 1) cap) := given_moved HG.out hK4 hM4
                                        clear hP2 hP3 hgA hown1 hat hS3 hK3 c0 c3 c4 c6 c8 c9 x0 x1 x2 x3 x4 hown hI3
                                        generalize w2.setCell ⟨sb, 6, none⟩ (.slice (some ⟨g, 0, none⟩) (s2.set.length + 1) cap) = w4 at *
                                        have hfit2 : Fits lo hi (sum + x.size) := fits_take hfit hxs hle
                                        have w5 : IntKind.i64.wrap (sum + x.size) = sum + x.size := by have := hfit2.s0; have := hfit2.s1; unfold maxI at *; rw [IntKind.wrap_i64]; omega
                                        have hlo5 : 0 ≤ sum + x.size := hfit2.s0
                                        have hhi5 : sum + x.size ≤ 9223372036854775807 := hfit2.s1
                                        go_wp2_with fail
                                        have hC := (ih x r rfl) sb ib rb (i + 1) (sum + x.size) (push s2 x) w4 _ bv1 HD.out (by omega) hlen hsz hfit2 (by show s2.steps ≤ 4096; omega) e3 (by simp only [push, List.length_append, List.length_cons, List.length_nil] at *; rw [e1]; omega) hP1 hG4
                                        rw [show ((i + 1 : Nat) : Int) = (i : Int) + 1 from by omega] at hC
                                        refine hC.mono ?_
                                        clear hC
                                        rintro e w6 ⟨rfl, sv6, bv6, hS6, hK6, hM6⟩
                                        have hset6 : (search lo hi least r (sum + x.size) (push s2 x)).set = s2.set ++ [x] := search_set ..
                                        have hst6 := search_steps lo hi least r (sum + x.size) (push s2 x) (by show s2.steps ≤ 4096; omega)
                                        have hsum6 : InR (search lo hi least r (sum + x.size) (push s2 x)).sum := search_sum lo hi least hfit.h1 r (sum + x.size) (push s2 x) (fun y hy => (hsz y (by have : y ∈ items.drop i := by rw [hdrop]; simp [hy]
                                                                                                                                                                                                      exact List.mem_of_mem_drop this)).1) ⟨hfit2.s0, hfit2.s1⟩ e3
                                        obtain ⟨g6', cap6, hsv6⟩ := hS6.shape (by rw [hset6]; simp)
                                        rw [hset6, List.length_append, List.length_cons, List.length_nil, Nat.zero_add] at hsv6
                                        subst hsv6
                                        have hS7 := hS6.popped hset6
                                        have hK7 : Kept (Touch sb sv) w w6 := kept_moved hK4 hM4 hK6
                                        have hM7 := moved_moved hK4 hM4 hM6
                                        have hcap6 : (s2.set.length : Int) ≤ (cap6 : Int) := by
                                          have := own_cap hS6.set
                                          omega
                                        have d6 : w6.cell? ⟨sb, 6, none⟩ = some (.slice (some ⟨g6', 0, none⟩) (s2.set.length + 1) cap6) := hS6.row.cell (i := 6) (by omega)
                                        have q6 := hS6.row.frozen 6
                                        go_upto_region 13 with fail
                                        refine wp_region_noPanic ?_
                                        refine reg13 _ (by kernel_rfl) _ _ _ _ _ _ _ _ _ _ _ _ _ _ _ _ _ _ _ _ _ _ _ _ _ _ _ _ _ _ _ _ _ _ _ _ _ _ _ _ _ _ _ _ _ _ _ _ _ _ _ _ _ _ _ _ _ _ _ _ _ _ _ _ _ _ _ _ _ _ _ _ _ _ _ _ _ _ _ _ _ _ _ _ _ _ _ _ _ _ _ _ _ _ _ _ _ _ _ _ _ _ _ _ _ _ _ _ _ _ _ _ _ _ _ _ _ _ _ _ _ _ _ _ _ _ _ _ _ _ _ _ _ _ _ _ _ _ _ _ _ _ _ _ _ _ _ _ _ _ _ _ _ _ _ _ _ _ _ _ _ _ _ _ _ _ _ _ _ _ _ _ _ _ _ _ _ _ _ _ _ _ _ _ _ _ _ _ _ _ _ _ _ _ _ _ _ _ _ _ _ _ _ _ _ _ _ _ _ _ _ _ _ _ _ _ _ _ _ _ _ _ _ _ _ _ _ _ _ _ _ _ _ _ _ _ _ _ _ sb i g6' s2.set.length cap6 sum w6 _ (fun _ _ _ _ _ h => h) (by rw [e1]; omega) hcap6 d6 q6 ?_
                                        intro v223 v224 v225 v226 v227 v228 v229 v230 v231 v232 v233 v234 v235 v236
                                        refine NoPanic.normal ?_
                                        have HA : Hid (After w (w6.setCell ⟨sb, 6, none⟩ (.slice (some ⟨g6', 0, none⟩) s2.set.length cap6)).drew sb (ivOf ib items.length) (rvOf rb items.length) lo hi least sv (pop (search lo hi least r (sum + x.size) (push s2 x)))) :=
                                          ⟨_, bv6, hS7.drewN 1, (hK7.setCell (.inl (.inl rfl)) _).drewN 1, hM7⟩
                                        have HP : Hid ((pop (search lo hi least r (sum + x.size) (push s2 x))).set = s.set) := by
                                          rw [Hid]; simp only [pop, hset6, List.dropLast_concat]; exact e1
                                        clear hS6 hS7 hK6 hK7 hM6 hM7 hP1 hG4 d6 q6 hset6
                                        go_wp2_with fail
                                        go_meet
                                        case rel => exact ⟨rfl, _, HE.out, hst6.1, hsum6, HP.out, HA.out⟩
                                case rest =>
                                  as_aux_lemma =>
                                    obtain ⟨rfl, s3, hE3, hst3, hsum3, hset3, sv3, bv3, hS8, hK8, hM8⟩ := hcut
                                    have HE : Hid _ := hE3
                                    have hG8 := given_moved HG.out hK8 hM8
                                    clear hE3
                                    go_wp2_with fail
                                    have hC := (ih x r rfl) sb ib rb (i + 1) sum s3 wc _ bv3 HD.out (by omega) hlen hsz hfit hst3 hsum3 (by rw [hset3]; simp only [List.length_cons] at hset; omega) hS8 hG8
                                    rw [show ((i + 1 : Nat) : Int) = (i : Int) + 1 from by omega] at hC
                                    refine hC.mono ?_
                                    clear hC
                                    rintro e w9 ⟨rfl, hA9⟩
                                    have HA : Hid _ := After.trans hK8 hM8 hA9
                                    clear hA9 hS8 hG8
                                    go_wp2
                                    go_end0
                                    rw [HE.out]
                                    exact ⟨rfl, HA.out⟩

theorem from_any (items : List It) (lo hi : Int) (least : Bool) : ∀ l : List It, FromC items lo hi least l
  | [] => from_body items lo hi least [] (fun x r h => by cases h)
  | x :: r => from_body items lo hi least (x :: r) (fun y q h => by injection h with h1 h2; subst h2; exact from_any items lo hi least r)

end Go.Proofs.Qxb6602155a
