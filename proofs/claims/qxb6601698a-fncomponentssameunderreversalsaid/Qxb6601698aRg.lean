/-
  Two regions of '(Links).components' (34): 'low[r] = min(low[r], index[d])' (25), 'low[up] = min(low[up], low[r])' (29). Written by program.
-/
import Derived.Test.Qxb6601698aTb
namespace Go.Proofs.Qxb6601698a
open Go.RowKit

set_option maxRecDepth 100000 in
set_option maxHeartbeats 2000000 in
theorem reg25 (c : Code) (hc : Try.f34.body.bind (findReg 25) = some c) (u0 u1 u2 u3 u4 u5 u8 u9 u10 u11 u12 u13 u14 u16 u18 u19 u20 u21 u22 u23 u24 u25 u26 u27 u28 u29 u30 u31 u32 u33 u34 u35 u36 u37 u38 u39 u40 u41 u42 u43 u44 u45 u46 u47 u48 u49 u50 u51 u52 u53 u54 u55 u56 u57 u58 u59 u60 u61 u62 u63 u64 u65 u66 u67 u68 u69 u70 u71 u72 u73 u74 u75 u76 u77 u78 u79 u80 u81 u82 u83 u84 u85 u86 u87 u88 u89 u90 u91 u92 u93 u94 u95 u96 u97 u98 u99 u100 u101 u102 u103 u104 u105 u106 u107 u108 u109 u110 u111 u112 u113 u114 u115 u116 u117 u118 u119 u120 u121 u122 u123 u124 u125 u126 u127 u128 u129 u130 u131 u132 u133 u134 u135 u136 u137 u138 u139 u140 u141 u142 u143 u144 u145 u146 u147 u148 u149 u150 u151 u152 u153 u154 u155 u156 u157 u158 u159 u160 u161 u162 u163 u164 u165 u166 u167 u168 u169 u170 u171 u172 u173 u174 u175 u176 u177 u178 u179 u180 u181 u182 u183 u184 u185 u186 u187 : Value) (ib lk ix lx n r d lr id : Nat) (wc : World) (Q : Exit → Act → World → Prop)
    (hQ : ∀ c a d v w, Q (.panic c) (a.put d v) w → Q (.panic c) a w)
    (cl : wc.cell? ⟨lx, 0, none⟩ = some (.slice (some ⟨lk, 0, none⟩) n n)) (ci : wc.cell? ⟨ix, 0, none⟩ = some (.slice (some ⟨ib, 0, none⟩) n n)) (el : wc.cell? ⟨lk, r, none⟩ = some (.int .i64 (lr : Int))) (fl : wc.frozen? ⟨lk, r, none⟩ = false) (ei : wc.cell? ⟨ib, d, none⟩ = some (.int .i64 (id : Int)))
    (hr0 : (0 : Int) ≤ (r : Int)) (hrn : (r : Int) < (n : Int)) (hd0 : (0 : Int) ≤ (d : Int)) (hdn : (d : Int) < (n : Int))
    (hK : ∀ (v99 v100 v101 v102 v103 v104 v105 v106 v107 v108 v109 v110 : Value), Q .normal ⟨#[u0, u1, u2, u3, u4, u5, .pointer (some ⟨ix, 0, none⟩), .pointer (some ⟨lx, 0, none⟩), u8, u9, u10, u11, u12, u13, u14, .int .i64 r, u16, .int .i64 d, u18, u19, u20, u21, u22, u23, u24, u25, u26, u27, u28, u29, u30, u31, u32, u33, u34, u35, u36, u37, u38, u39, u40, u41, u42, u43, u44, u45, u46, u47, u48, u49, u50, u51, u52, u53, u54, u55, u56, u57, u58, u59, u60, u61, u62, u63, u64, u65, u66, u67, u68, u69, u70, u71, u72, u73, u74, u75, u76, u77, u78, u79, u80, u81, u82, u83, u84, u85, u86, u87, u88, u89, u90, u91, u92, u93, u94, u95, u96, u97, u98, v99, v100, v101, v102, v103, v104, v105, v106, v107, v108, v109, v110, u111, u112, u113, u114, u115, u116, u117, u118, u119, u120, u121, u122, u123, u124, u125, u126, u127, u128, u129, u130, u131, u132, u133, u134, u135, u136, u137, u138, u139, u140, u141, u142, u143, u144, u145, u146, u147, u148, u149, u150, u151, u152, u153, u154, u155, u156, u157, u158, u159, u160, u161, u162, u163, u164, u165, u166, u167, u168, u169, u170, u171, u172, u173, u174, u175, u176, u177, u178, u179, u180, u181, u182, u183, u184, u185, u186, u187], []⟩ (wc.setCell ⟨lk, r, none⟩ (.int .i64 ((min lr id : Nat) : Int))).drew) :
    Code.wp Try.prog c Q ⟨#[u0, u1, u2, u3, u4, u5, .pointer (some ⟨ix, 0, none⟩), .pointer (some ⟨lx, 0, none⟩), u8, u9, u10, u11, u12, u13, u14, .int .i64 r, u16, .int .i64 d, u18, u19, u20, u21, u22, u23, u24, u25, u26, u27, u28, u29, u30, u31, u32, u33, u34, u35, u36, u37, u38, u39, u40, u41, u42, u43, u44, u45, u46, u47, u48, u49, u50, u51, u52, u53, u54, u55, u56, u57, u58, u59, u60, u61, u62, u63, u64, u65, u66, u67, u68, u69, u70, u71, u72, u73, u74, u75, u76, u77, u78, u79, u80, u81, u82, u83, u84, u85, u86, u87, u88, u89, u90, u91, u92, u93, u94, u95, u96, u97, u98, u99, u100, u101, u102, u103, u104, u105, u106, u107, u108, u109, u110, u111, u112, u113, u114, u115, u116, u117, u118, u119, u120, u121, u122, u123, u124, u125, u126, u127, u128, u129, u130, u131, u132, u133, u134, u135, u136, u137, u138, u139, u140, u141, u142, u143, u144, u145, u146, u147, u148, u149, u150, u151, u152, u153, u154, u155, u156, u157, u158, u159, u160, u161, u162, u163, u164, u165, u166, u167, u168, u169, u170, u171, u172, u173, u174, u175, u176, u177, u178, u179, u180, u181, u182, u183, u184, u185, u186, u187], []⟩ wc := by
  have HK : Hid _ := hK
  clear hK
  have ec := Option.some.inj hc
  clear hc
  subst ec
  refine but_begin (fun w' : World => w'.cell? ⟨lx, 0, none⟩ = some (.slice (some ⟨lk, 0, none⟩) n n) ∧ w'.cell? ⟨ix, 0, none⟩ = some (.slice (some ⟨ib, 0, none⟩) n n) ∧ w'.cell? ⟨lk, r, none⟩ = some (.int .i64 (lr : Int)) ∧ w'.cell? ⟨ib, d, none⟩ = some (.int .i64 (id : Int))) 12 (by kernel_rfl) ⟨cl, ci, el, ei⟩ (fun hSd => ?_)
  refine but_take' (i := 0) (v := ?v0) (by rfl) (by kernel_rfl) (by kernel_rfl) (by kernel_rfl) (by kernel_rfl) (by exact fun c a w h => hQ c a _ _ w h) (by rfl) ?hy0 hSd ?_
  case hy0 => intro w hSw; (try dsimp only at hSw); go_simp; (try with_reducible rfl)
  try simp only [Act.put, List.setIfInBounds_toArray, List.set_cons_zero, List.set_cons_succ]
  refine but_take' (i := 1) (v := ?v1) (by rfl) (by kernel_rfl) (by kernel_rfl) (by kernel_rfl) (by kernel_rfl) (by exact fun c a w h => hQ c a _ _ w h) (by rfl) ?hy1 hSd ?_
  case hy1 => intro w hSw; (try dsimp only at hSw); go_simp; (try with_reducible rfl)
  try simp only [Act.put, List.setIfInBounds_toArray, List.set_cons_zero, List.set_cons_succ]
  refine but_take' (i := 2) (v := ?v2) (by rfl) (by kernel_rfl) (by kernel_rfl) (by kernel_rfl) (by kernel_rfl) (by exact fun c a w h => hQ c a _ _ w h) (by rfl) ?hy2 hSd ?_
  case hy2 => intro w hSw; (try dsimp only at hSw); go_simp; (try with_reducible rfl)
  try simp only [Act.put, List.setIfInBounds_toArray, List.set_cons_zero, List.set_cons_succ]
  refine but_take' (i := 3) (v := ?v3) (by rfl) (by kernel_rfl) (by kernel_rfl) (by kernel_rfl) (by kernel_rfl) (by exact fun c a w h => hQ c a _ _ w h) (by rfl) ?hy3 hSd ?_
  case hy3 => intro w hSw; (try dsimp only at hSw); go_simp; (try with_reducible rfl)
  try simp only [Act.put, List.setIfInBounds_toArray, List.set_cons_zero, List.set_cons_succ]
  refine but_take' (i := 4) (v := ?v4) (by rfl) (by kernel_rfl) (by kernel_rfl) (by kernel_rfl) (by kernel_rfl) (by exact fun c a w h => hQ c a _ _ w h) (by rfl) ?hy4 hSd ?_
  case hy4 => intro w hSw; (try dsimp only at hSw); go_simp; (try with_reducible rfl)
  try simp only [Act.put, List.setIfInBounds_toArray, List.set_cons_zero, List.set_cons_succ]
  refine but_take' (i := 5) (v := ?v5) (by rfl) (by kernel_rfl) (by kernel_rfl) (by kernel_rfl) (by kernel_rfl) (by exact fun c a w h => hQ c a _ _ w h) (by rfl) ?hy5 hSd ?_
  case hy5 => intro w hSw; (try dsimp only at hSw); go_simp; (try with_reducible rfl)
  try simp only [Act.put, List.setIfInBounds_toArray, List.set_cons_zero, List.set_cons_succ]
  refine but_take' (i := 6) (v := ?v6) (by rfl) (by kernel_rfl) (by kernel_rfl) (by kernel_rfl) (by kernel_rfl) (by exact fun c a w h => hQ c a _ _ w h) (by rfl) ?hy6 hSd ?_
  case hy6 => intro w hSw; (try dsimp only at hSw); go_simp; (try with_reducible rfl)
  try simp only [Act.put, List.setIfInBounds_toArray, List.set_cons_zero, List.set_cons_succ]
  refine but_take' (i := 7) (v := ?v7) (by rfl) (by kernel_rfl) (by kernel_rfl) (by kernel_rfl) (by kernel_rfl) (by exact fun c a w h => hQ c a _ _ w h) (by rfl) ?hy7 hSd ?_
  case hy7 => intro w hSw; (try dsimp only at hSw); go_simp; (try with_reducible rfl)
  try simp only [Act.put, List.setIfInBounds_toArray, List.set_cons_zero, List.set_cons_succ]
  refine but_take' (i := 8) (v := ?v8) (by rfl) (by kernel_rfl) (by kernel_rfl) (by kernel_rfl) (by kernel_rfl) (by exact fun c a w h => hQ c a _ _ w h) (by rfl) ?hy8 hSd ?_
  case hy8 => intro w hSw; (try dsimp only at hSw); go_simp; (try with_reducible rfl)
  try simp only [Act.put, List.setIfInBounds_toArray, List.set_cons_zero, List.set_cons_succ]
  refine but_take' (i := 9) (v := ?v9) (by rfl) (by kernel_rfl) (by kernel_rfl) (by kernel_rfl) (by kernel_rfl) (by exact fun c a w h => hQ c a _ _ w h) (by rfl) ?hy9 hSd ?_
  case hy9 => intro w hSw; (try dsimp only at hSw); go_simp; (try with_reducible rfl)
  try simp only [Act.put, List.setIfInBounds_toArray, List.set_cons_zero, List.set_cons_succ]
  refine but_one' (i := 10) (by kernel_rfl) (by rfl) (fun K hK => ?_)
  go_simp
  refine hK.out _ _ (.inr hSd) ?_
  clear hK
  try simp only [Act.put, List.setIfInBounds_toArray, List.set_cons_zero, List.set_cons_succ]
  refine but_one' (i := 11) (by kernel_rfl) (by rfl) (fun K hK => ?_)
  go_simp
  refine hK.out _ _ (.inr hSd) ?_
  clear hK
  try simp only [Act.put, List.setIfInBounds_toArray, List.set_cons_zero, List.set_cons_succ]
  refine but_one' (i := 12) (by kernel_rfl) (by rfl) (fun K hK => ?_)
  go_simp
  refine hK.out _ _ (.inl rfl) ?_
  clear hK
  try simp only [Act.put, List.setIfInBounds_toArray, List.set_cons_zero, List.set_cons_succ]
  refine but_done (by kernel_rfl) ?_ _
  have emin : (if id < lr then (id : Int) else (lr : Int)) = ((min lr id : Nat) : Int) := by split <;> omega
  rw [emin]
  exact HK.out _ _ _ _ _ _ _ _ _ _ _ _

set_option maxRecDepth 100000 in
set_option maxHeartbeats 2000000 in
theorem reg29 (c : Code) (hc : Try.f34.body.bind (findReg 29) = some c) (u0 u1 u2 u3 u4 u5 u6 u8 u9 u10 u11 u12 u13 u14 u16 u17 u19 u20 u21 u22 u23 u24 u25 u26 u27 u28 u29 u30 u31 u32 u33 u34 u35 u36 u37 u38 u39 u40 u41 u42 u43 u44 u45 u46 u47 u48 u49 u50 u51 u52 u53 u54 u55 u56 u57 u58 u59 u60 u61 u62 u63 u64 u65 u66 u67 u68 u69 u70 u71 u72 u73 u74 u75 u76 u77 u78 u79 u80 u81 u82 u83 u84 u85 u86 u87 u88 u89 u90 u91 u92 u93 u94 u95 u96 u97 u98 u99 u100 u101 u102 u103 u104 u105 u106 u107 u108 u109 u110 u111 u112 u113 u114 u115 u116 u117 u118 u119 u120 u121 u122 u123 u124 u125 u126 u127 u128 u129 u130 u131 u132 u133 u134 u135 u136 u137 u138 u139 u140 u141 u142 u143 u144 u145 u146 u147 u148 u149 u150 u151 u152 u153 u154 u155 u156 u157 u158 u159 u160 u161 u162 u163 u164 u165 u166 u167 u168 u169 u170 u171 u172 u173 u174 u175 u176 u177 u178 u179 u180 u181 u182 u183 u184 u185 u186 u187 : Value) (lk lx n r d lr id : Nat) (wc : World) (Q : Exit → Act → World → Prop)
    (hQ : ∀ c a d v w, Q (.panic c) (a.put d v) w → Q (.panic c) a w)
    (cl : wc.cell? ⟨lx, 0, none⟩ = some (.slice (some ⟨lk, 0, none⟩) n n)) (el : wc.cell? ⟨lk, d, none⟩ = some (.int .i64 (lr : Int))) (fl : wc.frozen? ⟨lk, d, none⟩ = false) (ei : wc.cell? ⟨lk, r, none⟩ = some (.int .i64 (id : Int)))
    (hr0 : (0 : Int) ≤ (r : Int)) (hrn : (r : Int) < (n : Int)) (hd0 : (0 : Int) ≤ (d : Int)) (hdn : (d : Int) < (n : Int))
    (hK : ∀ (v126 v127 v128 v129 v130 v131 v132 v133 v134 v135 v136 v137 : Value), Q .normal ⟨#[u0, u1, u2, u3, u4, u5, u6, .pointer (some ⟨lx, 0, none⟩), u8, u9, u10, u11, u12, u13, u14, .int .i64 r, u16, u17, .int .i64 d, u19, u20, u21, u22, u23, u24, u25, u26, u27, u28, u29, u30, u31, u32, u33, u34, u35, u36, u37, u38, u39, u40, u41, u42, u43, u44, u45, u46, u47, u48, u49, u50, u51, u52, u53, u54, u55, u56, u57, u58, u59, u60, u61, u62, u63, u64, u65, u66, u67, u68, u69, u70, u71, u72, u73, u74, u75, u76, u77, u78, u79, u80, u81, u82, u83, u84, u85, u86, u87, u88, u89, u90, u91, u92, u93, u94, u95, u96, u97, u98, u99, u100, u101, u102, u103, u104, u105, u106, u107, u108, u109, u110, u111, u112, u113, u114, u115, u116, u117, u118, u119, u120, u121, u122, u123, u124, u125, v126, v127, v128, v129, v130, v131, v132, v133, v134, v135, v136, v137, u138, u139, u140, u141, u142, u143, u144, u145, u146, u147, u148, u149, u150, u151, u152, u153, u154, u155, u156, u157, u158, u159, u160, u161, u162, u163, u164, u165, u166, u167, u168, u169, u170, u171, u172, u173, u174, u175, u176, u177, u178, u179, u180, u181, u182, u183, u184, u185, u186, u187], []⟩ (wc.setCell ⟨lk, d, none⟩ (.int .i64 ((min lr id : Nat) : Int))).drew) :
    Code.wp Try.prog c Q ⟨#[u0, u1, u2, u3, u4, u5, u6, .pointer (some ⟨lx, 0, none⟩), u8, u9, u10, u11, u12, u13, u14, .int .i64 r, u16, u17, .int .i64 d, u19, u20, u21, u22, u23, u24, u25, u26, u27, u28, u29, u30, u31, u32, u33, u34, u35, u36, u37, u38, u39, u40, u41, u42, u43, u44, u45, u46, u47, u48, u49, u50, u51, u52, u53, u54, u55, u56, u57, u58, u59, u60, u61, u62, u63, u64, u65, u66, u67, u68, u69, u70, u71, u72, u73, u74, u75, u76, u77, u78, u79, u80, u81, u82, u83, u84, u85, u86, u87, u88, u89, u90, u91, u92, u93, u94, u95, u96, u97, u98, u99, u100, u101, u102, u103, u104, u105, u106, u107, u108, u109, u110, u111, u112, u113, u114, u115, u116, u117, u118, u119, u120, u121, u122, u123, u124, u125, u126, u127, u128, u129, u130, u131, u132, u133, u134, u135, u136, u137, u138, u139, u140, u141, u142, u143, u144, u145, u146, u147, u148, u149, u150, u151, u152, u153, u154, u155, u156, u157, u158, u159, u160, u161, u162, u163, u164, u165, u166, u167, u168, u169, u170, u171, u172, u173, u174, u175, u176, u177, u178, u179, u180, u181, u182, u183, u184, u185, u186, u187], []⟩ wc := by
  have HK : Hid _ := hK
  clear hK
  have ec := Option.some.inj hc
  clear hc
  subst ec
  refine but_begin (fun w' : World => w'.cell? ⟨lx, 0, none⟩ = some (.slice (some ⟨lk, 0, none⟩) n n) ∧ w'.cell? ⟨lk, d, none⟩ = some (.int .i64 (lr : Int)) ∧ w'.cell? ⟨lk, r, none⟩ = some (.int .i64 (id : Int))) 12 (by kernel_rfl) ⟨cl, el, ei⟩ (fun hSd => ?_)
  refine but_take' (i := 0) (v := ?v0) (by rfl) (by kernel_rfl) (by kernel_rfl) (by kernel_rfl) (by kernel_rfl) (by exact fun c a w h => hQ c a _ _ w h) (by rfl) ?hy0 hSd ?_
  case hy0 => intro w hSw; (try dsimp only at hSw); go_simp; (try with_reducible rfl)
  try simp only [Act.put, List.setIfInBounds_toArray, List.set_cons_zero, List.set_cons_succ]
  refine but_take' (i := 1) (v := ?v1) (by rfl) (by kernel_rfl) (by kernel_rfl) (by kernel_rfl) (by kernel_rfl) (by exact fun c a w h => hQ c a _ _ w h) (by rfl) ?hy1 hSd ?_
  case hy1 => intro w hSw; (try dsimp only at hSw); go_simp; (try with_reducible rfl)
  try simp only [Act.put, List.setIfInBounds_toArray, List.set_cons_zero, List.set_cons_succ]
  refine but_take' (i := 2) (v := ?v2) (by rfl) (by kernel_rfl) (by kernel_rfl) (by kernel_rfl) (by kernel_rfl) (by exact fun c a w h => hQ c a _ _ w h) (by rfl) ?hy2 hSd ?_
  case hy2 => intro w hSw; (try dsimp only at hSw); go_simp; (try with_reducible rfl)
  try simp only [Act.put, List.setIfInBounds_toArray, List.set_cons_zero, List.set_cons_succ]
  refine but_take' (i := 3) (v := ?v3) (by rfl) (by kernel_rfl) (by kernel_rfl) (by kernel_rfl) (by kernel_rfl) (by exact fun c a w h => hQ c a _ _ w h) (by rfl) ?hy3 hSd ?_
  case hy3 => intro w hSw; (try dsimp only at hSw); go_simp; (try with_reducible rfl)
  try simp only [Act.put, List.setIfInBounds_toArray, List.set_cons_zero, List.set_cons_succ]
  refine but_take' (i := 4) (v := ?v4) (by rfl) (by kernel_rfl) (by kernel_rfl) (by kernel_rfl) (by kernel_rfl) (by exact fun c a w h => hQ c a _ _ w h) (by rfl) ?hy4 hSd ?_
  case hy4 => intro w hSw; (try dsimp only at hSw); go_simp; (try with_reducible rfl)
  try simp only [Act.put, List.setIfInBounds_toArray, List.set_cons_zero, List.set_cons_succ]
  refine but_take' (i := 5) (v := ?v5) (by rfl) (by kernel_rfl) (by kernel_rfl) (by kernel_rfl) (by kernel_rfl) (by exact fun c a w h => hQ c a _ _ w h) (by rfl) ?hy5 hSd ?_
  case hy5 => intro w hSw; (try dsimp only at hSw); go_simp; (try with_reducible rfl)
  try simp only [Act.put, List.setIfInBounds_toArray, List.set_cons_zero, List.set_cons_succ]
  refine but_take' (i := 6) (v := ?v6) (by rfl) (by kernel_rfl) (by kernel_rfl) (by kernel_rfl) (by kernel_rfl) (by exact fun c a w h => hQ c a _ _ w h) (by rfl) ?hy6 hSd ?_
  case hy6 => intro w hSw; (try dsimp only at hSw); go_simp; (try with_reducible rfl)
  try simp only [Act.put, List.setIfInBounds_toArray, List.set_cons_zero, List.set_cons_succ]
  refine but_take' (i := 7) (v := ?v7) (by rfl) (by kernel_rfl) (by kernel_rfl) (by kernel_rfl) (by kernel_rfl) (by exact fun c a w h => hQ c a _ _ w h) (by rfl) ?hy7 hSd ?_
  case hy7 => intro w hSw; (try dsimp only at hSw); go_simp; (try with_reducible rfl)
  try simp only [Act.put, List.setIfInBounds_toArray, List.set_cons_zero, List.set_cons_succ]
  refine but_take' (i := 8) (v := ?v8) (by rfl) (by kernel_rfl) (by kernel_rfl) (by kernel_rfl) (by kernel_rfl) (by exact fun c a w h => hQ c a _ _ w h) (by rfl) ?hy8 hSd ?_
  case hy8 => intro w hSw; (try dsimp only at hSw); go_simp; (try with_reducible rfl)
  try simp only [Act.put, List.setIfInBounds_toArray, List.set_cons_zero, List.set_cons_succ]
  refine but_take' (i := 9) (v := ?v9) (by rfl) (by kernel_rfl) (by kernel_rfl) (by kernel_rfl) (by kernel_rfl) (by exact fun c a w h => hQ c a _ _ w h) (by rfl) ?hy9 hSd ?_
  case hy9 => intro w hSw; (try dsimp only at hSw); go_simp; (try with_reducible rfl)
  try simp only [Act.put, List.setIfInBounds_toArray, List.set_cons_zero, List.set_cons_succ]
  refine but_one' (i := 10) (by kernel_rfl) (by rfl) (fun K hK => ?_)
  go_simp
  refine hK.out _ _ (.inr hSd) ?_
  clear hK
  try simp only [Act.put, List.setIfInBounds_toArray, List.set_cons_zero, List.set_cons_succ]
  refine but_one' (i := 11) (by kernel_rfl) (by rfl) (fun K hK => ?_)
  go_simp
  refine hK.out _ _ (.inr hSd) ?_
  clear hK
  try simp only [Act.put, List.setIfInBounds_toArray, List.set_cons_zero, List.set_cons_succ]
  refine but_one' (i := 12) (by kernel_rfl) (by rfl) (fun K hK => ?_)
  go_simp
  refine hK.out _ _ (.inl rfl) ?_
  clear hK
  try simp only [Act.put, List.setIfInBounds_toArray, List.set_cons_zero, List.set_cons_succ]
  refine but_done (by kernel_rfl) ?_ _
  have emin : (if id < lr then (id : Int) else (lr : Int)) = ((min lr id : Nat) : Int) := by split <;> omega
  rw [emin]
  exact HK.out _ _ _ _ _ _ _ _ _ _ _ _

end Go.Proofs.Qxb6601698a
