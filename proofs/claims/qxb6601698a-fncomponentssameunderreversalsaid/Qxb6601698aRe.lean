/-
  One region of '(Graph).cycle' (36) by itself: 'onPath[path[top]], done[path[top]] = false, true' (12). Written by program.
-/
import Derived.Test.Qxb6601698aKc
import Derived.Test.Qxb6601698aOrd
import Derived.WideKeyEntry
import Derived.Deep.RegionHeld3
namespace Go.Proofs.Qxb6601698a
open Go.RowKit Go.ChangeMaps Go.MapKept

/-- The region of that number. -/
def findReg (n : Nat) : Code → Option Code
  | .region k ops b => if k = n then some (.region k ops b) else none
  | .seq a b => match findReg n a with
    | some c => some c
    | none => findReg n b
  | .block _ c => findReg n c
  | .scope c => findReg n c
  | .loop c => findReg n c
  | .cond _ a b => match findReg n a with
    | some c => some c
    | none => findReg n b
  | _ => none

theorem setBlock_twice (w : World) (b : Nat) (x y : Obj) : setBlock (setBlock w b x) b y = setBlock w b y := by
  simp [setBlock]
theorem Mp.entry {w : World} {b n : Nat} {f : ByteArray → Option Value} (h : Mp w b n f) {t e : TypeId} (ht : Try.prog.underlying t = some (.map 9 e)) {z : Value} (hz : ∀ u : World, (zeroValue e).run Try.prog u = .ok z u) (hn : n < maxLen) {s : ByteArray} (hs : s.size ≤ maxLen) (v : Value) :
    ∃ (v0 : Value) (st : Nat) (wa wb : World), (Instr.mapEntry t (.map (some b)) (.string s)).run Try.prog w = .ok (.tuple #[v0, goInt st]) wa ∧ w.grownBy wa (some b) ∧ (Instr.entryStore t (.map (some b)) (goInt st) v).run Try.prog wa = .ok () wb ∧ Mp wb b (n + 1) (upd f s v) ∧ w.grownBy wb (some b) := by
  obtain ⟨w', hr, hm, hg⟩ := h.put ht hn hs v
  obtain ⟨D, ⟨es, clock, hb, F, _, _⟩, _⟩ := h
  obtain ⟨v0, st, es1, clock1, h1, _, h2⟩ := WideElems.entry_then_store (WideMaps.string_law Try.underlying9) ht hz hb F (key9 hs)
  have hb1 := heap_setBlock_same hb (.map es1 clock1)
  obtain ⟨es', clock', h3, h4⟩ := h2 _ v hb1
  rw [setBlock_twice] at h3
  have e : setBlock w b (.map es' clock') = w' := by
    rw [hr] at h4
    injection h4 with _ h5
    exact h5.symm
  rw [e] at h3
  refine ⟨v0, st, _, w', h1, ⟨rfl, rfl, rfl, by simp [setBlock], fun i _ hi => heap_setBlock_other hb _ (fun e => hi (by rw [e]))⟩, h3, hm, hg⟩

set_option maxRecDepth 100000 in
set_option maxHeartbeats 2000000 in
theorem reg12 (c : Code) (hc : Try.f36.body.bind (findReg 12) = some c) (u0 u1 u2 u3 u4 u7 u8 u10 u12 u13 u14 u15 u16 u17 u18 u19 u20 u21 u22 u23 u24 u25 u26 u27 u28 u29 u30 u31 u32 u33 u34 u35 u36 u37 u38 u39 u40 u41 u42 u43 u44 u45 u46 u47 u48 u49 u50 u51 u52 u53 u54 u55 u56 u57 u58 u59 u60 u61 u62 u63 u64 u65 u66 u67 u68 u69 u70 u71 u72 u73 u74 u75 u76 u77 u78 u79 u80 u81 u82 u83 u84 u85 u86 u87 u88 u89 u90 u91 u92 u93 u94 u95 u96 u97 u98 u99 u100 u101 u102 u103 u104 u105 u106 u107 u108 u109 u110 u111 u112 u113 u114 u115 u116 u117 u118 u119 : Value) (m1 m2 pb pc t s1 s2 : Nat) (x : ByteArray) (v1 v2 : Value) (wc wa wb wd we : World) (Q : Exit → Act → World → Prop)
    (hQ : ∀ c a d v w, Q (.panic c) (a.put d v) w → Q (.panic c) a w) (_ht : t ≤ 1048576) (c0 : wc.cell? ⟨pb, t, none⟩ = some (.string x))
    (h1 : (Instr.mapEntry 74 (.map (some m1)) (.string x)).run Try.prog wc.drew = .ok (.tuple #[v1, goInt s1]) wa) (h2 : (Instr.entryStore 74 (.map (some m1)) (.int .i64 (s1 : Int)) (.bool false)).run Try.prog wa = .ok () wb)
    (h3 : (Instr.mapEntry 74 (.map (some m2)) (.string x)).run Try.prog wb = .ok (.tuple #[v2, goInt s2]) wd) (h4 : (Instr.entryStore 74 (.map (some m2)) (.int .i64 (s2 : Int)) (.bool true)).run Try.prog wd = .ok () we)
    (ca : wa.cell? ⟨pb, t, none⟩ = some (.string x)) (cb : wb.cell? ⟨pb, t, none⟩ = some (.string x)) (cd : wd.cell? ⟨pb, t, none⟩ = some (.string x))
    (hK : ∀ (v52 v53 v54 v55 v56 v57 v58 v59 v60 v61 v62 v63 v64 v65 : Value), Q .normal ⟨#[u0, u1, u2, u3, u4, .map (some m1), .map (some m2), u7, u8, .slice (some ⟨pb, 0, none⟩) (t + 1) pc, u10, .int .i64 t, u12, u13, u14, u15, u16, u17, u18, u19, u20, u21, u22, u23, u24, u25, u26, u27, u28, u29, u30, u31, u32, u33, u34, u35, u36, u37, u38, u39, u40, u41, u42, u43, u44, u45, u46, u47, u48, u49, u50, u51, v52, v53, v54, v55, v56, v57, v58, v59, v60, v61, v62, v63, v64, v65, u66, u67, u68, u69, u70, u71, u72, u73, u74, u75, u76, u77, u78, u79, u80, u81, u82, u83, u84, u85, u86, u87, u88, u89, u90, u91, u92, u93, u94, u95, u96, u97, u98, u99, u100, u101, u102, u103, u104, u105, u106, u107, u108, u109, u110, u111, u112, u113, u114, u115, u116, u117, u118, u119], []⟩ we) :
    Code.wp Try.prog c Q ⟨#[u0, u1, u2, u3, u4, .map (some m1), .map (some m2), u7, u8, .slice (some ⟨pb, 0, none⟩) (t + 1) pc, u10, .int .i64 t, u12, u13, u14, u15, u16, u17, u18, u19, u20, u21, u22, u23, u24, u25, u26, u27, u28, u29, u30, u31, u32, u33, u34, u35, u36, u37, u38, u39, u40, u41, u42, u43, u44, u45, u46, u47, u48, u49, u50, u51, u52, u53, u54, u55, u56, u57, u58, u59, u60, u61, u62, u63, u64, u65, u66, u67, u68, u69, u70, u71, u72, u73, u74, u75, u76, u77, u78, u79, u80, u81, u82, u83, u84, u85, u86, u87, u88, u89, u90, u91, u92, u93, u94, u95, u96, u97, u98, u99, u100, u101, u102, u103, u104, u105, u106, u107, u108, u109, u110, u111, u112, u113, u114, u115, u116, u117, u118, u119], []⟩ wc := by
  have HK : Hid _ := hK
  clear hK
  have ht0 : (0 : Int) ≤ (t : Int) := Int.natCast_nonneg _
  have ht1 : (t : Int) < ((t + 1 : Nat) : Int) := by omega
  have ht2 : (t : Int) < (t : Int) + 1 := by omega
  have ec := Option.some.inj hc
  clear hc
  subst ec
  refine but_begin (fun w' : World => w'.cell? ⟨pb, t, none⟩ = some (.string x)) 15 (by kernel_rfl) c0 (fun hSd => ?_)
  refine but_take' (i := 0) (v := ?v0) (by rfl) (by kernel_rfl) (by kernel_rfl) (by kernel_rfl) (by kernel_rfl) (by exact fun c a w h => hQ c a _ _ w h) (by rfl) ?hy0 hSd ?_
  case hy0 => intro w hSw; (try dsimp only at hSw); go_simp; (try with_reducible rfl)
  try simp only [Act.put, List.setIfInBounds_toArray, List.set_cons_zero, List.set_cons_succ]
  refine but_take' (i := 1) (v := ?v1) (by rfl) (by kernel_rfl) (by kernel_rfl) (by kernel_rfl) (by kernel_rfl) (by exact fun c a w h => hQ c a _ _ w h) (by rfl) ?hy1 hSd ?_
  case hy1 => intro w hSw; (try dsimp only at hSw); go_simp; (try with_reducible rfl)
  try simp only [Act.put, List.setIfInBounds_toArray, List.set_cons_zero, List.set_cons_succ]
  refine but_take' (i := 2) (v := ?v2) (by rfl) (by kernel_rfl) (by kernel_rfl) (by kernel_rfl) (by kernel_rfl) (by exact fun c a w h => hQ c a _ _ w h) (by rfl) ?hy2 hSd ?_
  case hy2 => intro w hSw; (try dsimp only at hSw); go_simp; (try with_reducible rfl)
  try simp only [Act.put, List.setIfInBounds_toArray, List.set_cons_zero, List.set_cons_succ]
  refine but_take' (i := 3) (v := ?v3) (by rfl) (by kernel_rfl) (by kernel_rfl) (by kernel_rfl) (by kernel_rfl) (by exact fun c a w h => hQ c a _ _ w h) (by rfl) ?hy3 hSd ?_
  case hy3 => intro w hSw; (try dsimp only at hSw); go_simp; (try with_reducible rfl)
  try simp only [Act.put, List.setIfInBounds_toArray, List.set_cons_zero, List.set_cons_succ]
  refine but_take' (i := 4) (v := ?v4) (by rfl) (by kernel_rfl) (by kernel_rfl) (by kernel_rfl) (by kernel_rfl) (by exact fun c a w h => hQ c a _ _ w h) (by rfl) ?hy4 hSd ?_
  case hy4 => intro w hSw; (try dsimp only at hSw); go_simp; (try with_reducible rfl)
  try simp only [Act.put, List.setIfInBounds_toArray, List.set_cons_zero, List.set_cons_succ]
  refine but_take' (i := 5) (v := ?v5) (by rfl) (by kernel_rfl) (by kernel_rfl) (by kernel_rfl) (by kernel_rfl) (by exact fun c a w h => hQ c a _ _ w h) (by rfl) ?hy5 hSd ?_
  case hy5 => intro w hSw; (try dsimp only at hSw); go_simp; (try with_reducible rfl)
  try simp only [Act.put, List.setIfInBounds_toArray, List.set_cons_zero, List.set_cons_succ]
  refine but_take' (i := 6) (v := ?v6) (by rfl) (by kernel_rfl) (by kernel_rfl) (by kernel_rfl) (by kernel_rfl) (by exact fun c a w h => hQ c a _ _ w h) (by rfl) ?hy6 hSd ?_
  case hy6 => intro w hSw; (try dsimp only at hSw); go_simp; (try with_reducible rfl)
  try simp only [Act.put, List.setIfInBounds_toArray, List.set_cons_zero, List.set_cons_succ]
  refine but_take' (i := 7) (v := ?v7) (by rfl) (by kernel_rfl) (by kernel_rfl) (by kernel_rfl) (by kernel_rfl) (by exact fun c a w h => hQ c a _ _ w h) (by rfl) ?hy7 hSd ?_
  case hy7 => intro w hSw; (try dsimp only at hSw); go_simp; (try with_reducible rfl)
  try simp only [Act.put, List.setIfInBounds_toArray, List.set_cons_zero, List.set_cons_succ]
  refine but_take' (i := 8) (v := ?v8) (by rfl) (by kernel_rfl) (by kernel_rfl) (by kernel_rfl) (by kernel_rfl) (by exact fun c a w h => hQ c a _ _ w h) (by rfl) ?hy8 hSd ?_
  case hy8 => intro w hSw; (try dsimp only at hSw); go_simp; (try with_reducible rfl)
  try simp only [Act.put, List.setIfInBounds_toArray, List.set_cons_zero, List.set_cons_succ]
  refine but_take' (i := 9) (v := ?v9) (by rfl) (by kernel_rfl) (by kernel_rfl) (by kernel_rfl) (by kernel_rfl) (by exact fun c a w h => hQ c a _ _ w h) (by rfl) ?hy9 hSd ?_
  case hy9 => intro w hSw; (try dsimp only at hSw); go_simp; (try with_reducible rfl)
  try simp only [Act.put, List.setIfInBounds_toArray, List.set_cons_zero, List.set_cons_succ]
  refine but_one' (i := 10) (by kernel_rfl) (by rfl) (fun K hK => ?_)
  go_simp
  refine hK.out _ _ (.inr ca) ?_
  clear hK
  try simp only [Act.put, List.setIfInBounds_toArray, List.set_cons_zero, List.set_cons_succ]
  refine but_one' (i := 11) (by kernel_rfl) (by rfl) (fun K hK => ?_)
  go_simp
  refine hK.out _ _ (.inr ca) ?_
  clear hK
  try simp only [Act.put, List.setIfInBounds_toArray, List.set_cons_zero, List.set_cons_succ]
  refine but_one' (i := 12) (by kernel_rfl) (by rfl) (fun K hK => ?_)
  go_simp
  refine hK.out _ _ (.inr cb) ?_
  clear hK
  try simp only [Act.put, List.setIfInBounds_toArray, List.set_cons_zero, List.set_cons_succ]
  refine but_one' (i := 13) (by kernel_rfl) (by rfl) (fun K hK => ?_)
  go_simp
  refine hK.out _ _ (.inr cd) ?_
  clear hK
  try simp only [Act.put, List.setIfInBounds_toArray, List.set_cons_zero, List.set_cons_succ]
  refine but_one' (i := 14) (by kernel_rfl) (by rfl) (fun K hK => ?_)
  go_simp
  refine hK.out _ _ (.inr cd) ?_
  clear hK
  try simp only [Act.put, List.setIfInBounds_toArray, List.set_cons_zero, List.set_cons_succ]
  refine but_one' (i := 15) (by kernel_rfl) (by rfl) (fun K hK => ?_)
  go_simp
  refine hK.out _ _ (.inl rfl) ?_
  clear hK
  try simp only [Act.put, List.setIfInBounds_toArray, List.set_cons_zero, List.set_cons_succ]
  refine but_done (by kernel_rfl) ?_ _
  exact HK.out _ _ _ _ _ _ _ _ _ _ _ _ _ _

end Go.Proofs.Qxb6601698a
