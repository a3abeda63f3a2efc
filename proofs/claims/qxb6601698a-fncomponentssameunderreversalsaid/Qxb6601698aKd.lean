/-
  The walk of zzB1Explore (26).
-/
import Derived.Test.Qxb6601698aKc
namespace Go.Proofs.Qxb6601698a
open Go.RowKit

/-- What zzB1Explore hands back. -/
def RetExpl (w w' : World) (roots : List ByteArray) (deps : ByteArray → List ByteArray) (e : Ending) : Prop :=
  (e = .returned (.tuple #[.slice none 0 0, .map none, .bool false]) ∧ Grow w w') ∨
  ∃ nv N, e = .returned (.tuple #[nv, .map (some w.heap.size), .bool true]) ∧ Seen w w' nv N ∧ Expl roots deps N N.length

/-- What the first loop holds. -/
structure Took (roots N : List ByteArray) (k : Nat) : Prop where
  nodup : N.Nodup
  mem : ∀ i, i < k → roots.getD i noS ∈ N
  org : ∀ s ∈ N, ∃ i, i < roots.length ∧ roots.getD i noS = s
  len : N.length ≤ k
theorem Took.start (roots : List ByteArray) : Took roots [] 0 := ⟨List.nodup_nil, fun i hi => by omega, (fun s hs => by cases hs), Nat.le_refl _⟩
theorem Took.add {roots N : List ByteArray} {k : Nat} (h : Took roots N k) (hk : k < roots.length) (hx : roots.getD k noS ∉ N) : Took roots (N ++ [roots.getD k noS]) (k + 1) := by
  obtain ⟨h1, h2, h3, h4⟩ := h
  refine ⟨nodup_snoc h1 hx, fun i hi => ?_, fun s hs => ?_, by simp; omega⟩
  · by_cases e : i = k
    · subst e; simp
    · exact List.mem_append_left _ (h2 i (by omega))
  · rcases List.mem_append.1 hs with h | h
    · exact h3 s h
    · simp only [List.mem_cons, List.not_mem_nil, or_false] at h
      exact ⟨k, hk, h.symm⟩
theorem Took.has {roots N : List ByteArray} {k : Nat} (h : Took roots N k) (hx : roots.getD k noS ∈ N) : Took roots N (k + 1) := by
  obtain ⟨h1, h2, h3, h4⟩ := h
  refine ⟨h1, fun i hi => ?_, h3, by omega⟩
  by_cases e : i = k
  · subst e; exact hx
  · exact h2 i (by omega)
theorem Took.expl {roots N : List ByteArray} {k : Nat} {deps : ByteArray → List ByteArray} (h : Took roots N k) (hk : roots.length ≤ k) (hl : k ≤ 131072) (hs : ∀ i, i < roots.length → (roots.getD i noS).size ≤ 1048576) : Expl roots deps N 0 := by
  obtain ⟨h1, h2, h3, h4⟩ := h
  have getm : ∀ {l : List ByteArray} {i : Nat}, i < l.length → l.getD i noS ∈ l := fun {l i} h => by simp [List.getD, h]
  refine ⟨h1, fun r hr => ?_, fun j hj => by omega, fun j hj => .inl ?_, fun s hs' => ?_, fun j hj => by omega, by omega, Nat.zero_le _⟩
  · obtain ⟨i, hi, rfl⟩ := List.getElem_of_mem hr
    have := h2 i (by omega)
    simpa [List.getD, hi] using this
  · obtain ⟨i, hi, e⟩ := h3 _ (getm hj)
    rw [← e]
    exact getm hi
  · obtain ⟨i, hi, rfl⟩ := h3 s hs'
    exact hs i hi

theorem oneS (x : ByteArray) : ∀ u ∈ [Value.string x], u.oneCell' = true := fun u hu => by simp at hu; subst hu; rfl
theorem some_idF {N : List ByteArray} {s : ByteArray} (h : s ∈ N) : ∃ i : Nat, idF N s = some (.int .i64 i) := by
  obtain ⟨i, hi⟩ := idOf_mem h
  exact ⟨i, by simp [idF, hi]⟩
theorem none_idF {N : List ByteArray} {s : ByteArray} (h : s ∉ N) : idF N s = none := by simp [idF, idOf_none.2 h]

set_option maxRecDepth 100000 in
set_option maxHeartbeats 4000000 in
theorem explore_any (mv : Value) (a : Option Addr) (roots : List ByteArray) (d : Nat) (dep : ByteArray → Option (List ByteArray)) (w : World) (hR : Res w mv dep) (hr : Strs w a roots) (hmv : ∃ m, mv = .map m) :
    Calls Try.prog 26 #[mv, .slice a roots.length d] w fun e w' => RetExpl w w' roots (depsOf dep) e := by
  obtain ⟨mo, rfl⟩ := hmv
  obtain ⟨i0, hi, hz0, hz1, hz2⟩ := info_parts info9
  have hmm := @run_makeMap Try.prog
  go_enter Try.func26, Try.ntmps26
  go_wp2_with fail
  refine (strBytes_any _ _ _ _ hr).mono ?_
  rintro e w' ⟨⟨z, rfl, hz0', hz1', hz⟩, rfl⟩
  by_cases hbig : z ≤ 1048576
  case neg =>
    clear hz
    go_wp2
    exact bodyPost_ret (v := .tuple #[.slice none 0 0, .map none, .bool false]) (by simp [results, Try.results26, go_sem]) rfl (.inl ⟨rfl, Grow.refl _⟩)
  obtain ⟨hlen, hsm⟩ := hz hbig
  have HSM : Hid _ := hsm
  clear hz hsm
  go_wp2
  clear hmm
  go_loopw [9, 10, 11, 12] (fun nv iv _ _ wr => ∃ (k : Nat) (N : List ByteArray), k ≤ roots.length ∧ iv = .int .i64 k ∧ Seen w' wr nv N ∧ Took roots N k) (fun _ iv _ _ _ => roots.length - (intOf iv).toNat)
  case atStart => exact ⟨0, [], Nat.zero_le _, rfl, Seen.start w', Took.start roots⟩
  case round =>
    obtain ⟨k, N, hk, rfl, hS, hT⟩ := hrel
    obtain ⟨na, nc, rfl, hns⟩ := strs_own (by simpa using hS.own)
    have hNl := hT.len
    by_cases hlt : k < roots.length
    · obtain ⟨b, o, rfl, c0⟩ := (hr.grow hS.grow).at hlt
      obtain ⟨b', o', hb', c0'⟩ := hr.at hlt
      cases hb'
      have hbl : b < w'.heap.size := World.block_lt_of_cell? _ _ c0'
      have hsk := HSM.out k hlt
      have hadd := hT.add hlt
      have hhas := hT.has (k := k)
      generalize roots.getD k noS = x at *
      have hxm : x.size ≤ maxLen := by unfold maxLen; omega
      have hlk := hS.ids.look_ok Try.underlying22 (zero3 _) hxm
      have HS : Hid (Seen w' wr (.slice na N.length nc) N) := hS
      have HAdd : Hid _ := hadd
      have HHas : Hid _ := hhas
      have HR : Hid _ := hR
      have HRr : Hid _ := hr
      by_cases hx : x ∈ N
      · obtain ⟨ix, hix⟩ := some_idF hx
        rw [hix] at hlk
        simp only [Option.getD_some, Option.isSome_some] at hlk
        clear hS hT hns hadd hhas hR hr c0' hix
        go_wp2
        go_roundw
        case rel => exact ⟨k + 1, N, by omega, by go_num, HS.out, HHas.out hx⟩
        case measure => simp [intOf]; omega
      · rw [none_idF hx] at hlk
        simp only [Option.getD_none, Option.isSome_none] at hlk
        obtain ⟨w1, hr1, hm1, hg1⟩ := hS.ids.put Try.underlying22 (by unfold maxLen; omega) hxm (.int .i64 N.length)
        have c1 : w1.cell? ⟨b, o + k, none⟩ = some (.string x) := by
          rw [← c0]
          exact World.cell?_of_block (hg1.block b (World.block_lt_of_cell? _ _ c0) (by simp; omega))
        have own1 := hS.own.kept hg1 (.inr (fun e => by have := (hS.own.lt _ e).1; omega))
        have hsz1 : w'.heap.size + 1 ≤ w1.heap.size := by have := hg1.size; have := hS.ids.lt; omega
        have HM1 : Hid (Mp w1 w'.heap.size (N.length + 1) (upd (idF N) x (.int .i64 N.length))) := hm1
        have HG1 : Hid _ := hg1
        clear hS hT hns hadd hhas hR hr c0' hm1 hg1
        go_wp2_with (at_builtin; refine wpList_append_own _ rfl _ _ 23 rfl (w'.heap.size + 1) 9 i0 (.string ByteArray.empty) 1 16 Try.underlying23 hi hz0 hz1 hz2 rfl (by decide) _ _ _ rfl (own1.alloc _) ⟨w1.heap.size, 0, none⟩ 1 1 [.string x] rfl rfl (cell_one_new _ _ _) (oneS x) (by unfold maxLen; omega) (by omega) (by simp; omega) ?_; intro v' w3 hown3 hgrow3 _)
        go_roundw
        case rel => exact ⟨k + 1, N ++ [x], by omega, by go_num, HS.out.add hx HM1.out HG1.out (by assumption) (by assumption), HAdd.out hx⟩
        case measure => simp [intOf]; omega
    · obtain rfl : k = roots.length := by omega
      have hE := hT.expl (deps := depsOf dep) (Nat.le_refl _) (by omega) HSM.out
      have HE : Hid (Expl roots (depsOf dep) N 0) := hE
      have HS : Hid (Seen w' wr (.slice na N.length nc) N) := hS
      clear hS hT hns hE
      go_wp2
      clear hk hlt
      go_loopw [7, 9, 13, 14, 15, 16, 17, 18] (fun bud nv qv _ _ _ _ _ wr => ∃ (q : Nat) (N : List ByteArray) (z : Int), qv = .int .i64 q ∧ bud = .int .i64 z ∧ Seen w' wr nv N ∧ Expl roots (depsOf dep) N q ∧ 8 * (N.length : Int) ≤ z ∧ z ≤ 1048576) (fun _ _ qv _ _ _ _ _ _ => 131073 - (intOf qv).toNat)
      case atStart => exact ⟨0, N, z, rfl, rfl, HS.out, HE.out, by omega, hbig⟩
      case round =>
        clear HS HE hNl hlen hbig
        obtain ⟨q, N, z, rfl, rfl, hS, hE, hz8, hzb⟩ := hrel
        obtain ⟨na, nc, rfl, hns⟩ := strs_own (by simpa using hS.own)
        have hqN := hE.le
        have hNl := hE.len
        by_cases hlt : q < N.length
        · obtain ⟨b, o, rfl, c0⟩ := hns.at hlt
          have hmem : N.getD q noS ∈ N := by simp [List.getD, hlt]
          have hsm := hE.small _ hmem
          have hnext := hE.next hlt
          generalize hxq : N.getD q noS = x at *
          have hxm : x.size ≤ maxLen := by unfold maxLen; omega
          obtain ⟨la, lc, hl1, _, hls⟩ := hR.look hS.grow hxm
          have hxN : ∃ i, i < N.length ∧ x = N.getD i noS := ⟨q, hlt, hxq.symm⟩
          have HXN : Hid _ := hxN
          have HXq : Hid (N.getD q noS = x) := hxq
          have HSn : Hid (Seen w' wr (.slice (some ⟨b, o, none⟩) N.length nc) N) := hS
          have HEn : Hid (Expl roots (depsOf dep) N q) := hE
          have HR : Hid _ := hR
          have HLs : Hid (Strs w' la (depsOf dep x)) := hls
          have hGr := hS.grow
          have HG : Hid (Grow w' wr) := hGr
          generalize hld : depsOf dep x = l at *
          have HLD : Hid (depsOf dep x = l) := hld
          clear hS hE hns hmem hxq hR hls hGr hxN hld hnext
          by_cases h20 : l.length ≤ 1048576
          case neg =>
            go_wp2
            exact bodyPost_ret (v := .tuple #[.slice none 0 0, .map none, .bool false]) (by simp [results, Try.results26, go_sem]) rfl (.inl ⟨rfl, HG.out⟩)
          by_cases h8 : z + 8 * (l.length : Int) ≤ 1048576
          case neg =>
            go_wp2
            exact bodyPost_ret (v := .tuple #[.slice none 0 0, .map none, .bool false]) (by simp [results, Try.results26, go_sem]) rfl (.inl ⟨rfl, HG.out⟩)
          have hl131 : l.length ≤ 131072 := by omega
          go_wp2
          go_loopw [7, 9, 15, 16, 17, 18] (fun bud nv jv _ _ _ wr2 => ∃ (j : Nat) (M : List ByteArray) (y : Int), j ≤ l.length ∧ jv = .int .i64 j ∧ bud = .int .i64 y ∧ Seen w' wr2 nv M ∧ Expl roots (depsOf dep) M q ∧ (q < M.length ∧ M.getD q noS = x) ∧ (∀ i, i < j → l.getD i noS ∈ M) ∧ 8 * ((M.length : Int) + l.length - j) ≤ y ∧ y ≤ 1048576) (fun _ _ jv _ _ _ _ => l.length - (intOf jv).toNat)
          case atStart => exact ⟨0, N, _, Nat.zero_le _, rfl, rfl, HSn.out, HEn.out, ⟨hlt, HXq.out⟩, fun i hi => by omega, by omega, h8⟩
          case round =>
            clear HSn HEn HXq HXN hl1 c0 hz8 hzb hNl hqN hlt hsm HG
            obtain ⟨j, M, y, hj, rfl, rfl, hS, hE, ⟨hqM, hMx⟩, hall, hy8, hyb⟩ := hrel
            obtain ⟨na, nc, rfl, hns⟩ := strs_own (by simpa using hS.own)
            have hMl := hE.len
            have HG : Hid (Grow w' wr) := hS.grow
            by_cases hlt : j < l.length
            · obtain ⟨b, o, rfl, c0⟩ := (HLs.out.grow hS.grow).at hlt
              obtain ⟨b', o', hb', c0'⟩ := HLs.out.at hlt
              cases hb'
              have hbl : b < w'.heap.size := World.block_lt_of_cell? _ _ c0'
              have hin : l.getD j noS ∈ depsOf dep x := by rw [HLD.out]; simp [List.getD, hlt]
              generalize hdd : l.getD j noS = dn at *
              have HDD : Hid (l.getD j noS = dn) := hdd
              have HSn : Hid (Seen w' wr (.slice na M.length nc) M) := hS
              have HEn : Hid (Expl roots (depsOf dep) M q) := hE
              have HMx : Hid (q < M.length ∧ M.getD q noS = x) := ⟨hqM, hMx⟩
              have HIn : Hid _ := hin
              have HAll : Hid (∀ i, i < j → l.getD i noS ∈ M) := hall
              clear hE hns hMx hall hin hdd c0'
              by_cases hd20 : dn.size ≤ 1048576
              case neg =>
                clear hS
                go_wp2
                exact bodyPost_ret (v := .tuple #[.slice none 0 0, .map none, .bool false]) (by simp [results, Try.results26, go_sem]) rfl (.inl ⟨rfl, HG.out⟩)
              by_cases hy3 : y + (dn.size : Int) ≤ 1048576
              case neg =>
                clear hS
                go_wp2
                exact bodyPost_ret (v := .tuple #[.slice none 0 0, .map none, .bool false]) (by simp [results, Try.results26, go_sem]) rfl (.inl ⟨rfl, HG.out⟩)
              have hxm : dn.size ≤ maxLen := by unfold maxLen; omega
              have hlk := hS.ids.look_ok Try.underlying22 (zero3 _) hxm
              by_cases hx : dn ∈ M
              · obtain ⟨ix, hix⟩ := some_idF hx
                rw [hix] at hlk
                simp only [Option.getD_some, Option.isSome_some] at hlk
                clear hS hix
                go_wp2
                go_roundw
                case rel => exact ⟨j + 1, M, _, by omega, by go_num, rfl, HSn.out, HEn.out, HMx.out, fun i hi => by
                  by_cases e : i = j
                  · subst e; rw [HDD.out]; exact hx
                  · exact HAll.out i (by omega), by omega, hy3⟩
                case measure => simp [intOf]; omega
              · rw [none_idF hx] at hlk
                simp only [Option.getD_none, Option.isSome_none] at hlk
                obtain ⟨w1, hr1, hm1, hg1⟩ := hS.ids.put Try.underlying22 (by unfold maxLen; omega) hxm (.int .i64 M.length)
                have own1 := hS.own.kept hg1 (.inr (fun e => by have := (hS.own.lt _ e).1; omega))
                have hsz1 : w'.heap.size + 1 ≤ w1.heap.size := by have := hg1.size; have := hS.ids.lt; omega
                have HM1 : Hid (Mp w1 w'.heap.size (M.length + 1) (upd (idF M) dn (.int .i64 M.length))) := hm1
                have HG1 : Hid _ := hg1
                clear hS hm1 hg1
                go_wp2_with (at_builtin; refine wpList_append_own _ rfl _ _ 23 rfl (w'.heap.size + 1) 9 i0 (.string ByteArray.empty) 1 16 Try.underlying23 hi hz0 hz1 hz2 rfl (by decide) _ _ _ rfl (own1.alloc _) ⟨w1.heap.size, 0, none⟩ 1 1 [.string dn] rfl rfl (cell_one_new _ _ _) (oneS dn) (by unfold maxLen; omega) (by omega) (by simp; omega) ?_; intro v' w3 hown3 hgrow3 _)
                go_roundw
                case rel => exact ⟨j + 1, M ++ [dn], _, by omega, by go_num, rfl, HSn.out.add hx HM1.out HG1.out (by assumption) (by assumption), HEn.out.add hx hd20 (by omega) ⟨q, HMx.out.1, by rw [HMx.out.2]; exact HIn.out⟩, ⟨by have := HMx.out.1; simp; omega, by rw [getD_app HMx.out.1]; exact HMx.out.2⟩, fun i hi => by
                  by_cases e : i = j
                  · subst e; rw [HDD.out]; simp
                  · exact List.mem_append_left _ (HAll.out i (by omega)), by simp; omega, hy3⟩
                case measure => simp [intOf]; omega
            · obtain rfl : j = l.length := by omega
              have hq131 : q < 131072 := by omega
              have hE2 := hE.next hqM (by
                rw [hMx, HLD.out]
                intro d hd
                obtain ⟨i, hi, rfl⟩ := List.getElem_of_mem hd
                have := hall i hi
                simpa [List.getD, hi] using this) (by rw [hMx, HLD.out]; omega)
              have HE2 : Hid (Expl roots (depsOf dep) M (q + 1)) := hE2
              have HSn : Hid (Seen w' wr (.slice na M.length nc) M) := hS
              clear hS hE hE2 hns hall hMx
              go_wp2
              go_roundw
              case rel => exact ⟨q + 1, M, y, by go_num, rfl, HSn.out, HE2.out, by omega, hyb⟩
              case measure => simp [intOf]; omega
        · obtain rfl : q = N.length := by omega
          have HS : Hid (Seen w' wr (.slice na N.length nc) N) := hS
          have HE : Hid (Expl roots (depsOf dep) N N.length) := hE
          clear hS hE hns hR hr
          go_wp2
          exact bodyPost_ret (v := .tuple #[.slice na N.length nc, .map (some w'.heap.size), .bool true]) (by simp [results, Try.results26, go_sem]) rfl (.inr ⟨_, N, rfl, HS.out, HE.out⟩)

end Go.Proofs.Qxb6601698a
