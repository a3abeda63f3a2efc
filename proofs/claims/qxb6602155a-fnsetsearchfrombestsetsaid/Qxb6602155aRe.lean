/-
  Two regions of '(*setSearch).from' (13) by themselves: 's.set = append(s.set, s.items[i])' (11) and 's.set = s.set[:len(s.set)-1]' (13). Written by program.
-/
import Derived.Test.Qxb6602155aSb
import Derived.Test.Qxb6602155aOrd
import Derived.Deep.RegionHeld3
namespace Go.Proofs.Qxb6602155a
open Go.RowKit

/-- The region of that number. -/
def findReg (n : Nat) : Code → Option Code
  | .region k ops b => if k = n then some (.region k ops b) else none
  | .seq a b => match findReg n a with
    | some c => some c
    | none => findReg n b
  | .block _ c => findReg n c
  | .scope c => findReg n c
  | .loop c => findReg n c
  | .cond _ a b => match findReg n a with
    | some c => some c
    | none => findReg n b
  | _ => none

set_option maxRecDepth 100000 in
set_option maxHeartbeats 2000000 in
theorem reg11 (c : Code) (hc : Try.f13.body.bind (findReg 11) = some c) (u3 u4 u5 u6 u7 u8 u9 u10 u11 u12 u13 u14 u15 u16 u17 u18 u19 u20 u21 u22 u23 u24 u25 u26 u27 u28 u29 u30 u31 u32 u33 u34 u35 u36 u37 u38 u39 u40 u41 u42 u43 u44 u45 u46 u47 u48 u49 u50 u51 u52 u53 u54 u55 u56 u57 u58 u59 u60 u61 u62 u63 u64 u65 u66 u67 u68 u69 u70 u71 u72 u73 u74 u75 u76 u77 u78 u79 u80 u81 u82 u83 u84 u85 u86 u87 u88 u89 u90 u91 u92 u93 u94 u95 u96 u97 u98 u99 u100 u101 u102 u103 u104 u105 u106 u107 u108 u109 u110 u111 u112 u113 u114 u115 u116 u117 u118 u119 u120 u121 u122 u123 u124 u125 u126 u127 u128 u129 u130 u131 u132 u133 u134 u135 u136 u137 u138 u139 u140 u141 u142 u143 u144 u145 u146 u147 u148 u149 u150 u151 u152 u153 u154 u155 u156 u157 u158 u159 u160 u161 u162 u163 u164 u165 u166 u167 u168 u169 u170 u171 u172 u173 u174 u175 u176 u177 u178 u179 u180 u181 u182 u183 u184 u185 u186 u187 u188 u189 u190 u191 u192 u193 u194 u195 u196 u197 u198 u199 u200 u201 u202 u203 u204 u205 u206 u207 u208 u209 u210 u211 u212 u213 u214 u215 u216 u217 u218 u219 u220 u221 u222 u223 u224 u225 u226 u227 u228 u229 u230 u231 u232 u233 u234 u235 u236 u237 u238 u239 u240 u241 : Value) (sb ib i n : Nat) (sum : Int) (sv : Value) (x : It) (xs : List It) (wc : World) (Q : Exit → Act → World → Prop)
    (hQ : ∀ c a d v w, Q (.panic c) (a.put d v) w → Q (.panic c) a w) (hi0 : (0 : Int) ≤ (i : Int)) (hi2 : (i : Int) < (n : Int)) (hxs : xs.length ≤ 8192)
    (c6 : wc.cell? ⟨sb, 6, none⟩ = some sv) (c0 : wc.cell? ⟨sb, 0, none⟩ = some (.slice (some ⟨ib, 0, none⟩) n n))
    (x0 : wc.cell? ⟨ib, i * 5, none⟩ = some (.string x.name)) (x1 : wc.cell? ⟨ib, i * 5 + 1, none⟩ = some (.int .u64 x.ver)) (x2 : wc.cell? ⟨ib, i * 5 + 2, none⟩ = some (.int .i64 x.num)) (x3 : wc.cell? ⟨ib, i * 5 + 3, none⟩ = some (.int .u64 x.ctr)) (x4 : wc.cell? ⟨ib, i * 5 + 4, none⟩ = some (.int .i64 x.size))
    (hown : wc.ownsRow 0 32 5 sv xs.length (valsOf xs)) (lsb : sb < wc.heap.size) (lib : ib < wc.heap.size) (hss : sv.ownBlock ≠ some sb) (hG2 : sv.ownBlock ≠ some ib) (g6 : wc.frozen? ⟨sb, 6, none⟩ = false)
    (hK : ∀ (g cap : Nat) (w2 : World) (v200 v201 v202 v203 v204 v205 v206 v207 v208 v209 v210 v211 v212 v213 v214 v215 : Value), wc.grownBy w2 sv.ownBlock → w2.ownsRow 0 32 5 (.slice (some ⟨g, 0, none⟩) (xs.length + 1) cap) (xs.length + 1) (valsOf xs ++ x.vals) → (sv.ownBlock = some g ∨ wc.heap.size ≤ g) →
      Q .normal ⟨#[.pointer (some ⟨sb, 0, none⟩), .int .i64 i, .int .i64 sum, u3, u4, u5, u6, u7, u8, u9, u10, u11, u12, u13, u14, u15, u16, u17, u18, u19, u20, u21, u22, u23, u24, u25, u26, u27, u28, u29, u30, u31, u32, u33, u34, u35, u36, u37, u38, u39, u40, u41, u42, u43, u44, u45, u46, u47, u48, u49, u50, u51, u52, u53, u54, u55, u56, u57, u58, u59, u60, u61, u62, u63, u64, u65, u66, u67, u68, u69, u70, u71, u72, u73, u74, u75, u76, u77, u78, u79, u80, u81, u82, u83, u84, u85, u86, u87, u88, u89, u90, u91, u92, u93, u94, u95, u96, u97, u98, u99, u100, u101, u102, u103, u104, u105, u106, u107, u108, u109, u110, u111, u112, u113, u114, u115, u116, u117, u118, u119, u120, u121, u122, u123, u124, u125, u126, u127, u128, u129, u130, u131, u132, u133, u134, u135, u136, u137, u138, u139, u140, u141, u142, u143, u144, u145, u146, u147, u148, u149, u150, u151, u152, u153, u154, u155, u156, u157, u158, u159, u160, u161, u162, u163, u164, u165, u166, u167, u168, u169, u170, u171, u172, u173, u174, u175, u176, u177, u178, u179, u180, u181, u182, u183, u184, u185, u186, u187, u188, u189, u190, u191, u192, u193, u194, u195, u196, u197, u198, u199, v200, v201, v202, v203, v204, v205, v206, v207, v208, v209, v210, v211, v212, v213, v214, v215, u216, u217, u218, u219, u220, u221, u222, u223, u224, u225, u226, u227, u228, u229, u230, u231, u232, u233, u234, u235, u236, u237, u238, u239, u240, u241], []⟩ (w2.setCell ⟨sb, 6, none⟩ (.slice (some ⟨g, 0, none⟩) (xs.length + 1) cap))) :
    Code.wp Try.prog c Q ⟨#[.pointer (some ⟨sb, 0, none⟩), .int .i64 i, .int .i64 sum, u3, u4, u5, u6, u7, u8, u9, u10, u11, u12, u13, u14, u15, u16, u17, u18, u19, u20, u21, u22, u23, u24, u25, u26, u27, u28, u29, u30, u31, u32, u33, u34, u35, u36, u37, u38, u39, u40, u41, u42, u43, u44, u45, u46, u47, u48, u49, u50, u51, u52, u53, u54, u55, u56, u57, u58, u59, u60, u61, u62, u63, u64, u65, u66, u67, u68, u69, u70, u71, u72, u73, u74, u75, u76, u77, u78, u79, u80, u81, u82, u83, u84, u85, u86, u87, u88, u89, u90, u91, u92, u93, u94, u95, u96, u97, u98, u99, u100, u101, u102, u103, u104, u105, u106, u107, u108, u109, u110, u111, u112, u113, u114, u115, u116, u117, u118, u119, u120, u121, u122, u123, u124, u125, u126, u127, u128, u129, u130, u131, u132, u133, u134, u135, u136, u137, u138, u139, u140, u141, u142, u143, u144, u145, u146, u147, u148, u149, u150, u151, u152, u153, u154, u155, u156, u157, u158, u159, u160, u161, u162, u163, u164, u165, u166, u167, u168, u169, u170, u171, u172, u173, u174, u175, u176, u177, u178, u179, u180, u181, u182, u183, u184, u185, u186, u187, u188, u189, u190, u191, u192, u193, u194, u195, u196, u197, u198, u199, u200, u201, u202, u203, u204, u205, u206, u207, u208, u209, u210, u211, u212, u213, u214, u215, u216, u217, u218, u219, u220, u221, u222, u223, u224, u225, u226, u227, u228, u229, u230, u231, u232, u233, u234, u235, u236, u237, u238, u239, u240, u241], []⟩ wc := by
  have HK : Hid _ := hK
  clear hK
  obtain ⟨i0, hi0', hz0, hz1, hz2⟩ := info_parts info32
  have ec := Option.some.inj hc
  clear hc
  subst ec
  refine but_begin (fun w' : World => w'.cell? ⟨sb, 6, none⟩ = some sv ∧ w'.cell? ⟨sb, 0, none⟩ = some (.slice (some ⟨ib, 0, none⟩) n n) ∧ w'.cell? ⟨ib, i * 5, none⟩ = some (.string x.name)
    ∧ w'.cell? ⟨ib, i * 5 + 1, none⟩ = some (.int .u64 x.ver) ∧ w'.cell? ⟨ib, i * 5 + 2, none⟩ = some (.int .i64 x.num) ∧ w'.cell? ⟨ib, i * 5 + 3, none⟩ = some (.int .u64 x.ctr) ∧ w'.cell? ⟨ib, i * 5 + 4, none⟩ = some (.int .i64 x.size)) 16 (by kernel_rfl) ⟨c6, c0, x0, x1, x2, x3, x4⟩ (fun hSd => ?_)
  refine but_take' (i := 0) (v := ?v0) (by rfl) (by kernel_rfl) (by kernel_rfl) (by kernel_rfl) (by kernel_rfl) (by exact fun c a w h => hQ c a _ _ w h) (by rfl) ?hy0 hSd ?_
  case hy0 => intro w hSw; (try dsimp only at hSw); go_simp; (try with_reducible rfl)
  try simp only [Act.put, List.setIfInBounds_toArray, List.set_cons_zero, List.set_cons_succ]
  refine but_take' (i := 1) (v := ?v1) (by rfl) (by kernel_rfl) (by kernel_rfl) (by kernel_rfl) (by kernel_rfl) (by exact fun c a w h => hQ c a _ _ w h) (by rfl) ?hy1 hSd ?_
  case hy1 => intro w hSw; (try dsimp only at hSw); go_simp; (try with_reducible rfl)
  try simp only [Act.put, List.setIfInBounds_toArray, List.set_cons_zero, List.set_cons_succ]
  refine but_take' (i := 2) (v := ?v2) (by rfl) (by kernel_rfl) (by kernel_rfl) (by kernel_rfl) (by kernel_rfl) (by exact fun c a w h => hQ c a _ _ w h) (by rfl) ?hy2 hSd ?_
  case hy2 => intro w hSw; (try dsimp only at hSw); go_simp; (try with_reducible rfl)
  try simp only [Act.put, List.setIfInBounds_toArray, List.set_cons_zero, List.set_cons_succ]
  refine but_take' (i := 3) (v := ?v3) (by rfl) (by kernel_rfl) (by kernel_rfl) (by kernel_rfl) (by kernel_rfl) (by exact fun c a w h => hQ c a _ _ w h) (by rfl) ?hy3 hSd ?_
  case hy3 => intro w hSw; (try dsimp only at hSw); go_simp; (try with_reducible rfl)
  try simp only [Act.put, List.setIfInBounds_toArray, List.set_cons_zero, List.set_cons_succ]
  refine but_take' (i := 4) (v := ?v4) (by rfl) (by kernel_rfl) (by kernel_rfl) (by kernel_rfl) (by kernel_rfl) (by exact fun c a w h => hQ c a _ _ w h) (by rfl) ?hy4 hSd ?_
  case hy4 => intro w hSw; (try dsimp only at hSw); go_simp; (try with_reducible rfl)
  try simp only [Act.put, List.setIfInBounds_toArray, List.set_cons_zero, List.set_cons_succ]
  refine but_take' (i := 5) (v := ?v5) (by rfl) (by kernel_rfl) (by kernel_rfl) (by kernel_rfl) (by kernel_rfl) (by exact fun c a w h => hQ c a _ _ w h) (by rfl) ?hy5 hSd ?_
  case hy5 => intro w hSw; (try dsimp only at hSw); go_simp; (try with_reducible rfl)
  try simp only [Act.put, List.setIfInBounds_toArray, List.set_cons_zero, List.set_cons_succ]
  refine but_take' (i := 6) (v := ?v6) (by rfl) (by kernel_rfl) (by kernel_rfl) (by kernel_rfl) (by kernel_rfl) (by exact fun c a w h => hQ c a _ _ w h) (by rfl) ?hy6 hSd ?_
  case hy6 => intro w hSw; (try dsimp only at hSw); go_simp; (try with_reducible rfl)
  try simp only [Act.put, List.setIfInBounds_toArray, List.set_cons_zero, List.set_cons_succ]
  refine but_take' (i := 7) (v := ?v7) (by rfl) (by kernel_rfl) (by kernel_rfl) (by kernel_rfl) (by kernel_rfl) (by exact fun c a w h => hQ c a _ _ w h) (by rfl) ?hy7 hSd ?_
  case hy7 => intro w hSw; (try dsimp only at hSw); go_simp; (try with_reducible rfl)
  try simp only [Act.put, List.setIfInBounds_toArray, List.set_cons_zero, List.set_cons_succ]
  refine but_take' (i := 8) (v := ?v8) (by rfl) (by kernel_rfl) (by kernel_rfl) (by kernel_rfl) (by kernel_rfl) (by exact fun c a w h => hQ c a _ _ w h) (by rfl) ?hy8 hSd ?_
  case hy8 => intro w hSw; (try dsimp only at hSw); go_simp; (try with_reducible rfl)
  try simp only [Act.put, List.setIfInBounds_toArray, List.set_cons_zero, List.set_cons_succ]
  refine but_take' (i := 9) (v := ?v9) (by rfl) (by kernel_rfl) (by kernel_rfl) (by kernel_rfl) (by kernel_rfl) (by exact fun c a w h => hQ c a _ _ w h) (by rfl) ?hy9 hSd ?_
  case hy9 => intro w hSw; (try dsimp only at hSw); go_simp; (try with_reducible rfl)
  try simp only [Act.put, List.setIfInBounds_toArray, List.set_cons_zero, List.set_cons_succ]
  refine but_take' (i := 10) (v := ?v10) (by rfl) (by kernel_rfl) (by kernel_rfl) (by kernel_rfl) (by kernel_rfl) (by exact fun c a w h => hQ c a _ _ w h) (by rfl) ?hy10 hSd ?_
  case hy10 => intro w hSw; (try dsimp only at hSw); go_simp; (try with_reducible rfl)
  try simp only [Act.put, List.setIfInBounds_toArray, List.set_cons_zero, List.set_cons_succ]
  refine but_take' (i := 11) (v := ?v11) (by rfl) (by kernel_rfl) (by kernel_rfl) (by kernel_rfl) (by kernel_rfl) (by exact fun c a w h => hQ c a _ _ w h) (by rfl) ?hy11 hSd ?_
  case hy11 => intro w hSw; (try dsimp only at hSw); go_simp; (try with_reducible rfl)
  try simp only [Act.put, List.setIfInBounds_toArray, List.set_cons_zero, List.set_cons_succ]
  refine but_one' (i := 12) (by kernel_rfl) (by rfl) (fun K hK => ?_)
  go_simp
  have hSd2 : ∀ (k o : Nat) (u : Value), k < wc.heap.size → wc.cell? ⟨k, o, none⟩ = some u → (wc.alloc (Obj.cells #[Value.string x.name, Value.int IntKind.u64 x.ver, Value.int IntKind.i64 x.num, Value.int IntKind.u64 x.ctr, Value.int IntKind.i64 x.size] 32)).drew.cell? ⟨k, o, none⟩ = some u :=
    fun k o u hk hu => by rw [World.cell?_drew, World.cell?_alloc_past _ _ _ hk]; exact hu
  refine hK.out _ _ (.inr ⟨hSd2 _ _ _ lsb c6, hSd2 _ _ _ lsb c0, hSd2 _ _ _ lib x0, hSd2 _ _ _ lib x1, hSd2 _ _ _ lib x2, hSd2 _ _ _ lib x3, hSd2 _ _ _ lib x4⟩) ?_
  clear hK hSd
  try simp only [Act.put, List.setIfInBounds_toArray, List.set_cons_zero, List.set_cons_succ]
  refine but_one' (i := 13) (by kernel_rfl) (by rfl) (fun K hK => ?_)
  refine step_append_lies _ (by rfl) _ _ _ (by rfl) 0 32 i0 _ 5 48 Try.underlying28 hi0' hz0 hz1 hz2 rfl (by omega) sv xs.length (valsOf xs) (by rfl) ((hown.alloc _).drew)
    ⟨wc.heap.size, 0, none⟩ 1 1 x.vals (by rfl) (by rfl) (World.news_of_block (cs := #[.string x.name, .int .u64 x.ver, .int .i64 x.num, .int .u64 x.ctr, .int .i64 x.size]) (t := 32) (fr := (0, 0)) (heap_alloc_new wc _)) (by have := vals_oneCell [x]; rw [valsOf_one] at this; exact this)
    (by omega) (by unfold maxLen; omega) (by omega) (by simp) (wc.heap.size + 1) (by simp) ?_
  intro g cap w2 hown1 hgrow hat hlt2
  have hfar : ∀ (k o : Nat) (u : Value), k < wc.heap.size → sv.ownBlock ≠ some k → wc.cell? ⟨k, o, none⟩ = some u → w2.cell? ⟨k, o, none⟩ = some u :=
    fun k o u hk hn hu => by rw [hgrow.cell_far ⟨k, o, none⟩ (by simp; omega) (Ne.symm hn)]; exact hSd2 k o u hk hu
  have hfz : w2.frozen? ⟨sb, 6, none⟩ = false := by
    rw [hgrow.frozen_far ⟨sb, 6, none⟩ (by simp; omega) (Ne.symm hss)]
    rw [World.frozen?_drew, World.frozen?_alloc_past _ _ _ lsb]; exact g6
  have k6 := hfar _ _ _ lsb hss c6
  have hSd : (fun w' : World => w'.cell? ⟨sb, 6, none⟩ = some sv ∧ w'.cell? ⟨sb, 0, none⟩ = some (.slice (some ⟨ib, 0, none⟩) n n) ∧ w'.cell? ⟨ib, i * 5, none⟩ = some (.string x.name)
      ∧ w'.cell? ⟨ib, i * 5 + 1, none⟩ = some (.int .u64 x.ver) ∧ w'.cell? ⟨ib, i * 5 + 2, none⟩ = some (.int .i64 x.num) ∧ w'.cell? ⟨ib, i * 5 + 3, none⟩ = some (.int .u64 x.ctr) ∧ w'.cell? ⟨ib, i * 5 + 4, none⟩ = some (.int .i64 x.size)) w2 :=
    ⟨k6, hfar _ _ _ lsb hss c0, hfar _ _ _ lib hG2 x0, hfar _ _ _ lib hG2 x1, hfar _ _ _ lib hG2 x2, hfar _ _ _ lib hG2 x3, hfar _ _ _ lib hG2 x4⟩
  refine hK.out _ _ (.inr hSd) ?_
  clear hK
  try simp only [Act.put, List.setIfInBounds_toArray, List.set_cons_zero, List.set_cons_succ]
  refine but_one' (i := 14) (by kernel_rfl) (by rfl) (fun K hK => ?_)
  go_simp
  refine hK.out _ _ (.inr hSd) ?_
  clear hK
  try simp only [Act.put, List.setIfInBounds_toArray, List.set_cons_zero, List.set_cons_succ]
  refine but_take' (i := 15) (v := ?v15) (by rfl) (by kernel_rfl) (by kernel_rfl) (by kernel_rfl) (by kernel_rfl) (by exact fun c a w h => hQ c a _ _ w h) (by rfl) ?hy15 hSd ?_
  case hy15 => intro w hSw; (try dsimp only at hSw); go_simp; (try with_reducible rfl)
  try simp only [Act.put, List.setIfInBounds_toArray, List.set_cons_zero, List.set_cons_succ]
  refine but_one' (i := 16) (by kernel_rfl) (by rfl) (fun K hK => ?_)
  go_simp
  refine hK.out _ _ (.inl rfl) ?_
  clear hK
  try simp only [Act.put, List.setIfInBounds_toArray, List.set_cons_zero, List.set_cons_succ]
  refine but_done (by kernel_rfl) ?_ _
  have hgA : wc.grownBy w2 sv.ownBlock := (World.grownBy_alloc wc _ _).trans (show (wc.alloc _).grownBy w2 sv.ownBlock from ⟨hgrow.os, hgrow.tape, hgrow.output, hgrow.size, hgrow.block⟩)
  exact HK.out _ _ _ _ _ _ _ _ _ _ _ _ _ _ _ _ _ _ _ hgA hown1 (hat.imp id (fun h => by omega))

set_option maxRecDepth 100000 in
set_option maxHeartbeats 2000000 in
theorem reg13 (c : Code) (hc : Try.f13.body.bind (findReg 13) = some c) (u3 u4 u5 u6 u7 u8 u9 u10 u11 u12 u13 u14 u15 u16 u17 u18 u19 u20 u21 u22 u23 u24 u25 u26 u27 u28 u29 u30 u31 u32 u33 u34 u35 u36 u37 u38 u39 u40 u41 u42 u43 u44 u45 u46 u47 u48 u49 u50 u51 u52 u53 u54 u55 u56 u57 u58 u59 u60 u61 u62 u63 u64 u65 u66 u67 u68 u69 u70 u71 u72 u73 u74 u75 u76 u77 u78 u79 u80 u81 u82 u83 u84 u85 u86 u87 u88 u89 u90 u91 u92 u93 u94 u95 u96 u97 u98 u99 u100 u101 u102 u103 u104 u105 u106 u107 u108 u109 u110 u111 u112 u113 u114 u115 u116 u117 u118 u119 u120 u121 u122 u123 u124 u125 u126 u127 u128 u129 u130 u131 u132 u133 u134 u135 u136 u137 u138 u139 u140 u141 u142 u143 u144 u145 u146 u147 u148 u149 u150 u151 u152 u153 u154 u155 u156 u157 u158 u159 u160 u161 u162 u163 u164 u165 u166 u167 u168 u169 u170 u171 u172 u173 u174 u175 u176 u177 u178 u179 u180 u181 u182 u183 u184 u185 u186 u187 u188 u189 u190 u191 u192 u193 u194 u195 u196 u197 u198 u199 u200 u201 u202 u203 u204 u205 u206 u207 u208 u209 u210 u211 u212 u213 u214 u215 u216 u217 u218 u219 u220 u221 u222 u223 u224 u225 u226 u227 u228 u229 u230 u231 u232 u233 u234 u235 u236 u237 u238 u239 u240 u241 : Value) (sb i g m cap : Nat) (sum : Int) (wc : World) (Q : Exit → Act → World → Prop)
    (hQ : ∀ c a d v w, Q (.panic c) (a.put d v) w → Q (.panic c) a w) (hm : m ≤ 8192) (hcap : (m : Int) ≤ (cap : Int))
    (c6 : wc.cell? ⟨sb, 6, none⟩ = some (.slice (some ⟨g, 0, none⟩) (m + 1) cap)) (g6 : wc.frozen? ⟨sb, 6, none⟩ = false)
    (hK : ∀ (v223 v224 v225 v226 v227 v228 v229 v230 v231 v232 v233 v234 v235 v236 : Value), Q .normal ⟨#[.pointer (some ⟨sb, 0, none⟩), .int .i64 i, .int .i64 sum, u3, u4, u5, u6, u7, u8, u9, u10, u11, u12, u13, u14, u15, u16, u17, u18, u19, u20, u21, u22, u23, u24, u25, u26, u27, u28, u29, u30, u31, u32, u33, u34, u35, u36, u37, u38, u39, u40, u41, u42, u43, u44, u45, u46, u47, u48, u49, u50, u51, u52, u53, u54, u55, u56, u57, u58, u59, u60, u61, u62, u63, u64, u65, u66, u67, u68, u69, u70, u71, u72, u73, u74, u75, u76, u77, u78, u79, u80, u81, u82, u83, u84, u85, u86, u87, u88, u89, u90, u91, u92, u93, u94, u95, u96, u97, u98, u99, u100, u101, u102, u103, u104, u105, u106, u107, u108, u109, u110, u111, u112, u113, u114, u115, u116, u117, u118, u119, u120, u121, u122, u123, u124, u125, u126, u127, u128, u129, u130, u131, u132, u133, u134, u135, u136, u137, u138, u139, u140, u141, u142, u143, u144, u145, u146, u147, u148, u149, u150, u151, u152, u153, u154, u155, u156, u157, u158, u159, u160, u161, u162, u163, u164, u165, u166, u167, u168, u169, u170, u171, u172, u173, u174, u175, u176, u177, u178, u179, u180, u181, u182, u183, u184, u185, u186, u187, u188, u189, u190, u191, u192, u193, u194, u195, u196, u197, u198, u199, u200, u201, u202, u203, u204, u205, u206, u207, u208, u209, u210, u211, u212, u213, u214, u215, u216, u217, u218, u219, u220, u221, u222, v223, v224, v225, v226, v227, v228, v229, v230, v231, v232, v233, v234, v235, v236, u237, u238, u239, u240, u241], []⟩ (wc.setCell ⟨sb, 6, none⟩ (.slice (some ⟨g, 0, none⟩) m cap)).drew) :
    Code.wp Try.prog c Q ⟨#[.pointer (some ⟨sb, 0, none⟩), .int .i64 i, .int .i64 sum, u3, u4, u5, u6, u7, u8, u9, u10, u11, u12, u13, u14, u15, u16, u17, u18, u19, u20, u21, u22, u23, u24, u25, u26, u27, u28, u29, u30, u31, u32, u33, u34, u35, u36, u37, u38, u39, u40, u41, u42, u43, u44, u45, u46, u47, u48, u49, u50, u51, u52, u53, u54, u55, u56, u57, u58, u59, u60, u61, u62, u63, u64, u65, u66, u67, u68, u69, u70, u71, u72, u73, u74, u75, u76, u77, u78, u79, u80, u81, u82, u83, u84, u85, u86, u87, u88, u89, u90, u91, u92, u93, u94, u95, u96, u97, u98, u99, u100, u101, u102, u103, u104, u105, u106, u107, u108, u109, u110, u111, u112, u113, u114, u115, u116, u117, u118, u119, u120, u121, u122, u123, u124, u125, u126, u127, u128, u129, u130, u131, u132, u133, u134, u135, u136, u137, u138, u139, u140, u141, u142, u143, u144, u145, u146, u147, u148, u149, u150, u151, u152, u153, u154, u155, u156, u157, u158, u159, u160, u161, u162, u163, u164, u165, u166, u167, u168, u169, u170, u171, u172, u173, u174, u175, u176, u177, u178, u179, u180, u181, u182, u183, u184, u185, u186, u187, u188, u189, u190, u191, u192, u193, u194, u195, u196, u197, u198, u199, u200, u201, u202, u203, u204, u205, u206, u207, u208, u209, u210, u211, u212, u213, u214, u215, u216, u217, u218, u219, u220, u221, u222, u223, u224, u225, u226, u227, u228, u229, u230, u231, u232, u233, u234, u235, u236, u237, u238, u239, u240, u241], []⟩ wc := by
  have HK : Hid _ := hK
  clear hK
  have hw : IntKind.i64.wrap (m : Int) = (m : Int) := by rw [IntKind.wrap_i64]; omega
  have hm0 : (0 : Int) ≤ (m : Int) := by omega
  have ec := Option.some.inj hc
  clear hc
  subst ec
  refine but_begin (fun w' : World => w'.cell? ⟨sb, 6, none⟩ = some (.slice (some ⟨g, 0, none⟩) (m + 1) cap)) 14 (by kernel_rfl) c6 (fun hSd => ?_)
  refine but_take' (i := 0) (v := ?vb0) (by rfl) (by kernel_rfl) (by kernel_rfl) (by kernel_rfl) (by kernel_rfl) (by exact fun c a w h => hQ c a _ _ w h) (by rfl) ?hyb0 hSd ?_
  case hyb0 => intro w hSw; (try dsimp only at hSw); go_simp; (try with_reducible rfl)
  try simp only [Act.put, List.setIfInBounds_toArray, List.set_cons_zero, List.set_cons_succ]
  refine but_take' (i := 1) (v := ?vb1) (by rfl) (by kernel_rfl) (by kernel_rfl) (by kernel_rfl) (by kernel_rfl) (by exact fun c a w h => hQ c a _ _ w h) (by rfl) ?hyb1 hSd ?_
  case hyb1 => intro w hSw; (try dsimp only at hSw); go_simp; (try with_reducible rfl)
  try simp only [Act.put, List.setIfInBounds_toArray, List.set_cons_zero, List.set_cons_succ]
  refine but_take' (i := 2) (v := ?vb2) (by rfl) (by kernel_rfl) (by kernel_rfl) (by kernel_rfl) (by kernel_rfl) (by exact fun c a w h => hQ c a _ _ w h) (by rfl) ?hyb2 hSd ?_
  case hyb2 => intro w hSw; (try dsimp only at hSw); go_simp; (try with_reducible rfl)
  try simp only [Act.put, List.setIfInBounds_toArray, List.set_cons_zero, List.set_cons_succ]
  refine but_take' (i := 3) (v := ?vb3) (by rfl) (by kernel_rfl) (by kernel_rfl) (by kernel_rfl) (by kernel_rfl) (by exact fun c a w h => hQ c a _ _ w h) (by rfl) ?hyb3 hSd ?_
  case hyb3 => intro w hSw; (try dsimp only at hSw); go_simp; (try with_reducible rfl)
  try simp only [Act.put, List.setIfInBounds_toArray, List.set_cons_zero, List.set_cons_succ]
  refine but_take' (i := 4) (v := ?vb4) (by rfl) (by kernel_rfl) (by kernel_rfl) (by kernel_rfl) (by kernel_rfl) (by exact fun c a w h => hQ c a _ _ w h) (by rfl) ?hyb4 hSd ?_
  case hyb4 => intro w hSw; (try dsimp only at hSw); go_simp; (try with_reducible rfl)
  try simp only [Act.put, List.setIfInBounds_toArray, List.set_cons_zero, List.set_cons_succ]
  refine but_take' (i := 5) (v := ?vb5) (by rfl) (by kernel_rfl) (by kernel_rfl) (by kernel_rfl) (by kernel_rfl) (by exact fun c a w h => hQ c a _ _ w h) (by rfl) ?hyb5 hSd ?_
  case hyb5 => intro w hSw; (try dsimp only at hSw); go_simp; (try with_reducible rfl)
  try simp only [Act.put, List.setIfInBounds_toArray, List.set_cons_zero, List.set_cons_succ]
  refine but_take' (i := 6) (v := ?vb6) (by rfl) (by kernel_rfl) (by kernel_rfl) (by kernel_rfl) (by kernel_rfl) (by exact fun c a w h => hQ c a _ _ w h) (by rfl) ?hyb6 hSd ?_
  case hyb6 => intro w hSw; (try dsimp only at hSw); go_simp; (try with_reducible rfl)
  try simp only [Act.put, List.setIfInBounds_toArray, List.set_cons_zero, List.set_cons_succ]
  refine but_take' (i := 7) (v := ?vb7) (by rfl) (by kernel_rfl) (by kernel_rfl) (by kernel_rfl) (by kernel_rfl) (by exact fun c a w h => hQ c a _ _ w h) (by rfl) ?hyb7 hSd ?_
  case hyb7 => intro w hSw; (try dsimp only at hSw); go_simp; (try with_reducible rfl)
  try simp only [Act.put, List.setIfInBounds_toArray, List.set_cons_zero, List.set_cons_succ]
  refine but_take' (i := 8) (v := ?vb8) (by rfl) (by kernel_rfl) (by kernel_rfl) (by kernel_rfl) (by kernel_rfl) (by exact fun c a w h => hQ c a _ _ w h) (by rfl) ?hyb8 hSd ?_
  case hyb8 => intro w hSw; (try dsimp only at hSw); go_simp; (try with_reducible rfl)
  try simp only [Act.put, List.setIfInBounds_toArray, List.set_cons_zero, List.set_cons_succ]
  refine but_take' (i := 9) (v := ?vb9) (by rfl) (by kernel_rfl) (by kernel_rfl) (by kernel_rfl) (by kernel_rfl) (by exact fun c a w h => hQ c a _ _ w h) (by rfl) ?hyb9 hSd ?_
  case hyb9 => intro w hSw; (try dsimp only at hSw); go_simp; (try with_reducible rfl)
  try simp only [Act.put, List.setIfInBounds_toArray, List.set_cons_zero, List.set_cons_succ]
  refine but_take' (i := 10) (v := ?vb10) (by rfl) (by kernel_rfl) (by kernel_rfl) (by kernel_rfl) (by kernel_rfl) (by exact fun c a w h => hQ c a _ _ w h) (by rfl) ?hyb10 hSd ?_
  case hyb10 => intro w hSw; (try dsimp only at hSw); go_simp; (try with_reducible rfl)
  try simp only [Act.put, List.setIfInBounds_toArray, List.set_cons_zero, List.set_cons_succ]
  refine but_take' (i := 11) (v := ?vb11) (by rfl) (by kernel_rfl) (by kernel_rfl) (by kernel_rfl) (by kernel_rfl) (by exact fun c a w h => hQ c a _ _ w h) (by rfl) ?hyb11 hSd ?_
  case hyb11 => intro w hSw; (try dsimp only at hSw); go_simp; (try with_reducible rfl)
  try simp only [Act.put, List.setIfInBounds_toArray, List.set_cons_zero, List.set_cons_succ]
  refine but_one' (i := 12) (by kernel_rfl) (by rfl) (fun K hK => ?_)
  go_simp
  refine hK.out _ _ (.inr hSd) ?_
  clear hK
  try simp only [Act.put, List.setIfInBounds_toArray, List.set_cons_zero, List.set_cons_succ]
  refine but_take' (i := 13) (v := ?vb13) (by rfl) (by kernel_rfl) (by kernel_rfl) (by kernel_rfl) (by kernel_rfl) (by exact fun c a w h => hQ c a _ _ w h) (by rfl) ?hyb13 hSd ?_
  case hyb13 => intro w hSw; (try dsimp only at hSw); go_simp; (try with_reducible rfl)
  try simp only [Act.put, List.setIfInBounds_toArray, List.set_cons_zero, List.set_cons_succ]
  refine but_one' (i := 14) (by kernel_rfl) (by rfl) (fun K hK => ?_)
  go_simp
  refine hK.out _ _ (.inl rfl) ?_
  clear hK
  try simp only [Act.put, List.setIfInBounds_toArray, List.set_cons_zero, List.set_cons_succ]
  refine but_done (by kernel_rfl) ?_ _
  exact HK.out _ _ _ _ _ _ _ _ _ _ _ _ _ _

end Go.Proofs.Qxb6602155a
