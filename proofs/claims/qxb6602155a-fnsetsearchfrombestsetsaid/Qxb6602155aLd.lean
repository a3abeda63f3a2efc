/-
  The law (3): statements 11 to 17.
-/
import Derived.Test.Qxb6602155aLa
import Derived.Test.Qxb6602155aHe
import Derived.Lib.LazyBuf
namespace Go.Proofs.Qxb6602155a
open Go.RowKit

/-- The memory behind the two clones (wc), and what has grown since. -/
structure Cl (w0 wc : World) (xs ss : List It) (c1 c2 : Option Addr) : Prop where
  grow : Grow w0 wc
  ix : Its wc c1 xs
  is : Its wc c2 ss

set_option maxRecDepth 100000 in
set_option maxHeartbeats 8000000 in
theorem secB11 (R c : Code) (hc : segOf 11 3 R Try.f3.body = some c) (w0 w : World) (a1 a2 : Option Addr) (d1 d2 : Nat) (xs ss : List It) (lo hi i sum : Int) (least : Bool) (t : Array Value)
    (hw : w = w0) (hF : Fr (.slice a1 xs.length d1) (.slice a2 ss.length d2) lo hi least i sum t) (hx : Its w0 a1 xs) (hs : Its w0 a2 ss) (nx : xs.length ≤ 4096) (ns : ss.length ≤ 4096)
    (hn : ∀ t' w' c1 c2, Fr (.slice c1 xs.length xs.length) (.slice c2 ss.length ss.length) lo hi least i sum t' → slotAt t' 19 = .int .i64 xs.length → Cl w0 w' xs ss c1 c2 → Code.wp Try.prog R (bodyPost Try.prog Try.f3 (LawEnd w0)) ⟨t', []⟩ w') :
    Code.wp Try.prog c (bodyPost Try.prog Try.f3 (LawEnd w0)) ⟨t, []⟩ w := by
  have ec := Option.some.inj hc
  clear hc
  subst ec
  simp only [dropC, segC]
  have HN : Hid _ := hn
  clear hn
  subst hw
  rw [arr_open t hF.size, hF.s0, hF.s1, hF.s2, hF.s3, hF.s4, hF.s5, hF.s6]
  clear hF
  go_wp2_with fail
  refine (cloneIn_any _ _ _ _ nx hx).mono ?_
  rintro e w1 ⟨c1, rfl, h1, g1⟩
  go_wp2_with fail
  refine (cloneIn_any _ _ _ _ ns (hs.grow g1)).mono ?_
  rintro e w2 ⟨c2, rfl, h2, g2⟩
  go_wp2
  exact HN.out _ _ c1 c2 ⟨rfl, rfl, rfl, rfl, rfl, rfl, rfl, rfl⟩ rfl ⟨g1.trans g2, h1.grow g2, h2⟩

set_option maxRecDepth 100000 in
set_option maxHeartbeats 8000000 in
theorem secB14 (R c : Code) (hc : segOf 14 2 R Try.f3.body = some c) (w0 w : World) (c1 c2 : Option Addr) (xs ss : List It) (lo hi i sum : Int) (least : Bool) (t : Array Value)
    (hF : Fr (.slice c1 xs.length xs.length) (.slice c2 ss.length ss.length) lo hi least i sum t) (s19 : slotAt t 19 = .int .i64 xs.length) (hx : Its w c1 xs) (nx : xs.length ≤ 4096)
    (hn : ∀ t' w', Fr (.slice c1 xs.length xs.length) (.slice c2 ss.length ss.length) lo hi least i sum t' → slotAt t' 19 = .int .i64 xs.length → slotAt t' 20 = ivOf w.heap.size xs.length → Grow w w' → w'.rowIs w.heap.size 32 (xs.length * 5) (itF xs) → Code.wp Try.prog R (bodyPost Try.prog Try.f3 (LawEnd w0)) ⟨t', []⟩ w') :
    Code.wp Try.prog c (bodyPost Try.prog Try.f3 (LawEnd w0)) ⟨t, []⟩ w := by
  have ec := Option.some.inj hc
  clear hc
  subst ec
  simp only [dropC, segC]
  have HN : Hid _ := hn
  clear hn
  rw [arr_open t hF.size, hF.s0, hF.s1, hF.s2, hF.s3, hF.s4, hF.s5, hF.s6, s19]
  clear hF s19
  have hmk := make32 xs.length (by omega)
  go_wp2
  clear hmk
  go_loopw [21] (fun i wr => ∃ k : Nat, k ≤ xs.length ∧ i = .int .i64 k ∧ Fill w wr w.heap.size 32 k xs) (fun i _ => xs.length - (intOf i).toNat)
  case atStart => exact ⟨0, Nat.zero_le _, rfl, Fill.start (Grow.refl w) 32 xs⟩
  case round =>
    obtain ⟨k, hk, rfl, hO⟩ := hrel
    by_cases hlt : k < xs.length
    · obtain ⟨b, o, rfl, hA⟩ := (hx.grow hO.grow).at hlt
      obtain ⟨q0, q1, q2, q3, q4⟩ := hA
      have HX : Hid _ := hx
      generalize hxx : xs.getD k noIt = x at *
      have HXX : Hid _ := hxx
      have hO' : Hid _ := hO
      clear hO hx hxx
      go_wp2_with fail
      refine (toOffered_any x _).mono ?_
      rintro e w1 ⟨rfl, hg⟩
      clear q0 q1 q2 q3 q4
      have hO := hO'.out.more hg
      obtain ⟨v0, e0, f0⟩ := hO.at (j := k * 5) (by omega)
      obtain ⟨v1, e1, f1⟩ := hO.at (j := k * 5 + 1) (by omega)
      obtain ⟨v2, e2, f2⟩ := hO.at (j := k * 5 + 2) (by omega)
      obtain ⟨v3, e3, f3⟩ := hO.at (j := k * 5 + 3) (by omega)
      obtain ⟨v4, e4, f4⟩ := hO.at (j := k * 5 + 4) (by omega)
      have hO2 : Hid _ := hO
      clear hO hO'
      unfold It.agg
      go_wp2
      go_roundw
      case rel => exact ⟨k + 1, by omega, by go_num, hO2.out.step HXX.out⟩
      case measure => simp [intOf]; omega
    · obtain rfl : k = xs.length := by omega
      go_wp2
      exact HN.out _ _ ⟨rfl, rfl, rfl, rfl, rfl, rfl, rfl, rfl⟩ rfl rfl hO.grow hO.done

set_option maxRecDepth 100000 in
set_option maxHeartbeats 8000000 in
theorem secB16 (R c : Code) (hc : segOf 16 2 R Try.f3.body = some c) (w0 w : World) (c1 c2 : Option Addr) (xs ss : List It) (lo hi i sum : Int) (least : Bool) (iv : Value) (t : Array Value)
    (hF : Fr (.slice c1 xs.length xs.length) (.slice c2 ss.length ss.length) lo hi least i sum t) (s19 : slotAt t 19 = .int .i64 xs.length) (s20 : slotAt t 20 = iv) (hs : Its w c2 ss) (ns : ss.length ≤ 4096)
    (hn : ∀ t' w' sv, Fr (.slice c1 xs.length xs.length) (.slice c2 ss.length ss.length) lo hi least i sum t' → slotAt t' 19 = .int .i64 xs.length → slotAt t' 20 = iv → slotAt t' 22 = sv → Grow w w' → w'.ownsRow 0 32 5 sv ss.length (valsOf ss) → (∀ g, sv.ownBlock = some g → w.heap.size ≤ g) → Code.wp Try.prog R (bodyPost Try.prog Try.f3 (LawEnd w0)) ⟨t', []⟩ w') :
    Code.wp Try.prog c (bodyPost Try.prog Try.f3 (LawEnd w0)) ⟨t, []⟩ w := by
  have ec := Option.some.inj hc
  clear hc
  subst ec
  simp only [dropC, segC]
  have HN : Hid _ := hn
  clear hn
  rw [arr_open t hF.size, hF.s0, hF.s1, hF.s2, hF.s3, hF.s4, hF.s5, hF.s6, s19, s20]
  clear hF s19 s20
  have hnil := fun (w : World) (a : Option Addr) (n c : Nat) => run_neq_slice_nil (P := Try.prog) w 22 26 a n c Try.underlying22
  cases c2 with
  | none =>
    obtain rfl := hs.1 rfl
    go_wp2
    exact HN.out _ _ (.slice none 0 0) ⟨rfl, rfl, rfl, rfl, rfl, rfl, rfl, rfl⟩ rfl rfl rfl (Grow.refl _) ⟨rfl, .inl ⟨rfl, rfl⟩⟩ (fun g hg => by cases hg)
  | some p =>
    have hmk := make32 ss.length (by omega)
    go_wp2
    clear hmk hnil
    go_loopw [23] (fun i wr => ∃ k : Nat, k ≤ ss.length ∧ i = .int .i64 k ∧ Fill w wr w.heap.size 32 k ss) (fun i _ => ss.length - (intOf i).toNat)
    case atStart => exact ⟨0, Nat.zero_le _, rfl, Fill.start (Grow.refl w) 32 ss⟩
    case round =>
      obtain ⟨k, hk, rfl, hO⟩ := hrel
      by_cases hlt : k < ss.length
      · obtain ⟨b, o, hp, hA⟩ := (hs.grow hO.grow).at hlt
        obtain rfl : p = ⟨b, o, none⟩ := by simpa using hp
        obtain ⟨q0, q1, q2, q3, q4⟩ := hA
        have HX : Hid _ := hs
        generalize hxx : ss.getD k noIt = x at *
        have HXX : Hid _ := hxx
        have hO' : Hid _ := hO
        clear hO hs hxx hp
        go_wp2_with fail
        refine (toOffered_any x _).mono ?_
        rintro e w1 ⟨rfl, hg⟩
        clear q0 q1 q2 q3 q4
        have hO := hO'.out.more hg
        obtain ⟨v0, e0, f0⟩ := hO.at (j := k * 5) (by omega)
        obtain ⟨v1, e1, f1⟩ := hO.at (j := k * 5 + 1) (by omega)
        obtain ⟨v2, e2, f2⟩ := hO.at (j := k * 5 + 2) (by omega)
        obtain ⟨v3, e3, f3⟩ := hO.at (j := k * 5 + 3) (by omega)
        obtain ⟨v4, e4, f4⟩ := hO.at (j := k * 5 + 4) (by omega)
        have hO2 : Hid _ := hO
        clear hO hO'
        unfold It.agg
        go_wp2
        go_roundw
        case rel => exact ⟨k + 1, by omega, by go_num, hO2.out.step HXX.out⟩
        case measure => simp [intOf]; omega
      · obtain rfl : k = ss.length := by omega
        go_wp2
        exact HN.out _ _ (.slice (some ⟨w.heap.size, 0, none⟩) ss.length ss.length) ⟨rfl, rfl, rfl, rfl, rfl, rfl, rfl, rfl⟩ rfl rfl rfl hO.grow (own_row hO.done ns) (fun g hg => by cases hg; exact Nat.le_refl _)

end Go.Proofs.Qxb6602155a
