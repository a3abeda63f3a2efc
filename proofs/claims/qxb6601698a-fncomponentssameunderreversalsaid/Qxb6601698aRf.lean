/-
  One region of '(Links).components' (34): 'index, low := make([]int, n), make([]int, n)' (4). Written by program.
-/
import Derived.Test.Qxb6601698aTb
import Derived.Test.Qxb6601698aKf
import Derived.Deep.RegionHeld3
namespace Go.Proofs.Qxb6601698a
open Go.RowKit

/-- What the region leaves. -/
structure Made4 (wc w' : World) (n ib lk ix lx : Nat) : Prop where
  b1 : wc.heap.size ≤ ib ∧ ib ≤ wc.heap.size + 3
  b2 : wc.heap.size ≤ lk ∧ lk ≤ wc.heap.size + 3
  b3 : wc.heap.size ≤ ix ∧ ix ≤ wc.heap.size + 3
  b4 : wc.heap.size ≤ lx ∧ lx ≤ wc.heap.size + 3
  d1 : ib ≠ lk ∧ ib ≠ ix ∧ ib ≠ lx ∧ lk ≠ ix ∧ lk ≠ lx ∧ ix ≠ lx
  size : w'.heap.size = wc.heap.size + 4
  grow : Grow wc w'
  hi : w'.heap[ib]? = some (.cells (madeCells #[.int .i64 0] n) 3)
  hl : w'.heap[lk]? = some (.cells (madeCells #[.int .i64 0] n) 3)
  hx : w'.heap[ix]? = some (.cells #[.slice (some ⟨ib, 0, none⟩) n n] 25)
  hy : w'.heap[lx]? = some (.cells #[.slice (some ⟨lk, 0, none⟩) n n] 25)

theorem four_allocs (wc : World) (A B C D : Obj) : ((((wc.alloc A).alloc B).alloc C).alloc D).drew.heap[wc.heap.size]? = some A ∧ ((((wc.alloc A).alloc B).alloc C).alloc D).drew.heap[wc.heap.size + 1]? = some B ∧
    ((((wc.alloc A).alloc B).alloc C).alloc D).drew.heap[wc.heap.size + 1 + 1]? = some C ∧ ((((wc.alloc A).alloc B).alloc C).alloc D).drew.heap[wc.heap.size + 1 + 1 + 1]? = some D ∧ ((((wc.alloc A).alloc B).alloc C).alloc D).drew.heap.size = wc.heap.size + 4 := by
  have e : ((((wc.alloc A).alloc B).alloc C).alloc D).drew.heap = (((wc.heap.push A).push B).push C).push D := rfl
  rw [e]
  refine ⟨?_, ?_, ?_, ?_, ?_⟩
  · rw [Array.getElem?_push, if_neg (by simp only [Array.size_push]; omega), Array.getElem?_push, if_neg (by simp only [Array.size_push]; omega), Array.getElem?_push, if_neg (by simp only [Array.size_push]; omega), Array.getElem?_push, if_pos rfl]
  · rw [Array.getElem?_push, if_neg (by simp only [Array.size_push]; omega), Array.getElem?_push, if_neg (by simp only [Array.size_push]; omega), Array.getElem?_push, if_pos (by simp only [Array.size_push])]
  · rw [Array.getElem?_push, if_neg (by simp only [Array.size_push]; omega), Array.getElem?_push, if_pos (by simp only [Array.size_push])]
  · rw [Array.getElem?_push, if_pos (by simp only [Array.size_push])]
  · simp

set_option maxRecDepth 100000 in
set_option maxHeartbeats 8000000 in
theorem reg4 (c : Code) (hc : Try.f34.body.bind (findReg 4) = some c) (u0 u1 u2 u3 u5 u6 u7 u8 u9 u10 u11 u12 u13 u14 u15 u16 u17 u18 u19 u20 u21 u22 u23 u24 u25 u26 u27 u28 u29 u30 u31 u32 u33 u34 u35 u36 u37 u38 u39 u40 u41 u42 u43 u44 u45 u46 u47 u48 u49 u50 u51 u52 u53 u54 u55 u56 u57 u58 u59 u60 u61 u62 u63 u64 u65 u66 u67 u68 u69 u70 u71 u72 u73 u74 u75 u76 u77 u78 u79 u80 u81 u82 u83 u84 u85 u86 u87 u88 u89 u90 u91 u92 u93 u94 u95 u96 u97 u98 u99 u100 u101 u102 u103 u104 u105 u106 u107 u108 u109 u110 u111 u112 u113 u114 u115 u116 u117 u118 u119 u120 u121 u122 u123 u124 u125 u126 u127 u128 u129 u130 u131 u132 u133 u134 u135 u136 u137 u138 u139 u140 u141 u142 u143 u144 u145 u146 u147 u148 u149 u150 u151 u152 u153 u154 u155 u156 u157 u158 u159 u160 u161 u162 u163 u164 u165 u166 u167 u168 u169 u170 u171 u172 u173 u174 u175 u176 u177 u178 u179 u180 u181 u182 u183 u184 u185 u186 u187 : Value) (n : Nat) (hn : n ≤ 1048576) (wc : World) (Q : Exit → Act → World → Prop)
    (hK : ∀ (v28 v30 : Value) (ib lk ix lx : Nat) (w' : World), Made4 wc w' n ib lk ix lx → Q .normal ⟨#[u0, u1, u2, u3, .int .i64 n, u5, .pointer (some ⟨ix, 0, none⟩), .pointer (some ⟨lx, 0, none⟩), u8, u9, u10, u11, u12, u13, u14, u15, u16, u17, u18, u19, u20, u21, u22, u23, u24, u25, u26, u27, v28, .slice (some ⟨ib, 0, none⟩) n n, v30, .slice (some ⟨lk, 0, none⟩) n n, u32, u33, u34, u35, u36, u37, u38, u39, u40, u41, u42, u43, u44, u45, u46, u47, u48, u49, u50, u51, u52, u53, u54, u55, u56, u57, u58, u59, u60, u61, u62, u63, u64, u65, u66, u67, u68, u69, u70, u71, u72, u73, u74, u75, u76, u77, u78, u79, u80, u81, u82, u83, u84, u85, u86, u87, u88, u89, u90, u91, u92, u93, u94, u95, u96, u97, u98, u99, u100, u101, u102, u103, u104, u105, u106, u107, u108, u109, u110, u111, u112, u113, u114, u115, u116, u117, u118, u119, u120, u121, u122, u123, u124, u125, u126, u127, u128, u129, u130, u131, u132, u133, u134, u135, u136, u137, u138, u139, u140, u141, u142, u143, u144, u145, u146, u147, u148, u149, u150, u151, u152, u153, u154, u155, u156, u157, u158, u159, u160, u161, u162, u163, u164, u165, u166, u167, u168, u169, u170, u171, u172, u173, u174, u175, u176, u177, u178, u179, u180, u181, u182, u183, u184, u185, u186, u187], []⟩ w') :
    Code.wp Try.prog c (NoPanic Q) ⟨#[u0, u1, u2, u3, .int .i64 n, u5, u6, u7, u8, u9, u10, u11, u12, u13, u14, u15, u16, u17, u18, u19, u20, u21, u22, u23, u24, u25, u26, u27, u28, u29, u30, u31, u32, u33, u34, u35, u36, u37, u38, u39, u40, u41, u42, u43, u44, u45, u46, u47, u48, u49, u50, u51, u52, u53, u54, u55, u56, u57, u58, u59, u60, u61, u62, u63, u64, u65, u66, u67, u68, u69, u70, u71, u72, u73, u74, u75, u76, u77, u78, u79, u80, u81, u82, u83, u84, u85, u86, u87, u88, u89, u90, u91, u92, u93, u94, u95, u96, u97, u98, u99, u100, u101, u102, u103, u104, u105, u106, u107, u108, u109, u110, u111, u112, u113, u114, u115, u116, u117, u118, u119, u120, u121, u122, u123, u124, u125, u126, u127, u128, u129, u130, u131, u132, u133, u134, u135, u136, u137, u138, u139, u140, u141, u142, u143, u144, u145, u146, u147, u148, u149, u150, u151, u152, u153, u154, u155, u156, u157, u158, u159, u160, u161, u162, u163, u164, u165, u166, u167, u168, u169, u170, u171, u172, u173, u174, u175, u176, u177, u178, u179, u180, u181, u182, u183, u184, u185, u186, u187], []⟩ wc := by
  have HK : Hid _ := hK
  clear hK
  have hmk := make3 n hn
  have ec := Option.some.inj hc
  clear hc
  subst ec
  go_region
  all_goals
      (refine NoPanic.normal ?_
       refine HK.out _ _ _ _ _ _ _ ?_
       exact ⟨⟨by omega, by omega⟩, ⟨by omega, by omega⟩, ⟨by omega, by omega⟩, ⟨by omega, by omega⟩, ⟨by omega, by omega, by omega, by omega, by omega, by omega⟩, (four_allocs wc _ _ _ _).2.2.2.2, ((((Grow.refl _).alloc _).alloc _).alloc _).alloc _ |>.drew, by first | exact (four_allocs wc _ _ _ _).1 | exact (four_allocs wc _ _ _ _).2.1 | exact (four_allocs wc _ _ _ _).2.2.1 | exact (four_allocs wc _ _ _ _).2.2.2.1, by first | exact (four_allocs wc _ _ _ _).1 | exact (four_allocs wc _ _ _ _).2.1 | exact (four_allocs wc _ _ _ _).2.2.1 | exact (four_allocs wc _ _ _ _).2.2.2.1, by first | exact (four_allocs wc _ _ _ _).1 | exact (four_allocs wc _ _ _ _).2.1 | exact (four_allocs wc _ _ _ _).2.2.1 | exact (four_allocs wc _ _ _ _).2.2.2.1, by first | exact (four_allocs wc _ _ _ _).1 | exact (four_allocs wc _ _ _ _).2.1 | exact (four_allocs wc _ _ _ _).2.2.1 | exact (four_allocs wc _ _ _ _).2.2.2.1⟩)

end Go.Proofs.Qxb6601698a
