/-
  The law (3): statements 18 to 21.
-/
import Derived.Test.Qxb6602155aLd
import Derived.Test.Qxb6602155aHe
import Derived.Lib.LazyBuf
namespace Go.Proofs.Qxb6602155a
open Go.RowKit

/-- What the law holds behind the search. -/
structure Sl (n : Nat) (ib rb : Nat) (ba na : Option Addr) (bc nc : Nat) (s : St) (m : Nat) (t : Array Value) : Prop where
  s19 : slotAt t 19 = .int .i64 n
  s20 : slotAt t 20 = .slice (some ⟨ib, 0, none⟩) n n
  s24 : slotAt t 24 = .slice (some ⟨rb, 0, none⟩) (n + 1) (n + 1)
  s26 : slotAt t 26 = .slice ba s.best.length bc
  s27 : slotAt t 27 = .int .i64 s.sum
  s28 : slotAt t 28 = .bool s.found
  s29 : slotAt t 29 = .int .i64 s.steps
  s30 : slotAt t 30 = .slice na m nc

def st0 (ss : List It) : St := ⟨0, ss, [], 0, false⟩
def stE (lo hi : Int) (least : Bool) (xs ss : List It) (i : Nat) (sum : Int) : St := search lo hi least (xs.drop i) sum (st0 ss)

theorem sIn_new {w1 : World} {iv rv sv : Value} {lo hi : Int} {least : Bool} {ss : List It} (own : w1.ownsRow 0 32 5 sv ss.length (valsOf ss)) :
    SIn (w1.alloc (.cells #[iv, rv, .int .i64 lo, .int .i64 hi, .bool least, .int .i64 0, sv, .slice none 0 0, .int .i64 0, .bool false] 44)) w1.heap.size iv rv lo hi least sv (.slice none 0 0) (st0 ss) := by
  refine ⟨?_, ?_, ⟨rfl, .inl ⟨rfl, rfl⟩⟩, ?_, by simp [Value.ownBlock], fun g _ => by simp [Value.ownBlock]⟩
  · refine World.rowIs_alloc w1 _ 44 _ (fun i hi => ?_)
    have hi' : i < 10 := hi
    match i, hi' with
    | 0, _ | 1, _ | 2, _ | 3, _ | 4, _ | 5, _ | 6, _ | 7, _ | 8, _ | 9, _ => rfl
  · exact own.kept (World.grownBy_alloc w1 _ none) (by cases hq : sv.ownBlock <;> simp)
  · intro e
    have := (own.lt _ e).2
    omega

theorem own_grow {w w' : World} {sv : Value} {ss : List It} (own : w.ownsRow 0 32 5 sv ss.length (valsOf ss)) (g : Grow w w') : w'.ownsRow 0 32 5 sv ss.length (valsOf ss) := by
  refine own.kept (row := none) ⟨g.os, g.tape, g.output, g.size, fun k hk _ => g.block k hk (fun t => t)⟩ ?_
  cases hq : sv.ownBlock <;> simp

/-- Behind the search: the memory. -/
theorem mem_after {w0 wc w2 w3 : World} {xs ss : List It} {c1 c2 : Option Addr} {ib rb sb : Nat} {sv : Value} {lo hi : Int} {least : Bool} {s : St} (hC : Cl w0 wc xs ss c1 c2) (g2 : Grow wc w2) (hsb : wc.heap.size ≤ sb) (hsv : ∀ g, sv.ownBlock = some g → wc.heap.size ≤ g)
    (hG : Given w2 sb ib rb xs sv) (hset : s.set = ss) (hA : After w2 w3 sb (ivOf ib xs.length) (rvOf rb xs.length) lo hi least sv s) :
    ∃ sv' bv' ba na bc nc, SIn w3 sb (ivOf ib xs.length) (rvOf rb xs.length) lo hi least sv' bv' s ∧ bv' = .slice ba s.best.length bc ∧ sv' = .slice na ss.length nc ∧ Mem w0 w3 xs ss c1 c2 ib rb ba na s := by
  obtain ⟨sv', bv', hS, hK, hM⟩ := hA
  have hG3 := given_moved hG hK hM
  have g3 : Grow wc w3 := Kept.trans g2 hK (fun x hx t => by
    rcases t with t | t
    · omega
    · have := hsv x t; omega)
  obtain ⟨ba, bc, hb, hbI⟩ := its_own hS.best
  obtain ⟨na, nc, hn, hnI⟩ := its_own hS.set
  rw [hset] at hn hnI
  exact ⟨sv', bv', ba, na, bc, nc, hS, hb, hn, hC.grow.trans g3, hC.ix.grow g3, hC.is.grow g3, its_row hG3.irow, hG3.rrow, hbI, hnI⟩

set_option maxRecDepth 100000 in
set_option maxHeartbeats 8000000 in
theorem secB18 (R c : Code) (hc : segOf 18 4 R Try.f3.body = some c) (w0 w : World) (wc : World) (c1 c2 : Option Addr) (xs ss : List It) (lo hi sum : Int) (i : Nat) (least : Bool) (ib : Nat) (sv : Value) (t : Array Value)
    (hF : Fr (.slice c1 xs.length xs.length) (.slice c2 ss.length ss.length) lo hi least i sum t) (s19 : slotAt t 19 = .int .i64 xs.length) (s20 : slotAt t 20 = ivOf ib xs.length) (s22 : slotAt t 22 = sv)
    (hC : Cl w0 wc xs ss c1 c2) (g1 : Grow wc w) (hr : w.rowIs ib 32 (xs.length * 5) (itF xs)) (own : w.ownsRow 0 32 5 sv ss.length (valsOf ss)) (hsv : ∀ g, sv.ownBlock = some g → wc.heap.size ≤ g) (hne : sv.ownBlock ≠ some ib)
    (nx : xs.length ≤ 4096) (ns : ss.length ≤ 4096) (hi' : i ≤ xs.length) (hsz : ∀ x ∈ xs, InR x.size) (hfit : Fits lo hi sum)
    (hn : ∀ t' w' rb ba na bc nc, Fr (.slice c1 xs.length xs.length) (.slice c2 ss.length ss.length) lo hi least i sum t' → Sl xs.length ib rb ba na bc nc (stE lo hi least xs ss i sum) ss.length t' → Mem w0 w' xs ss c1 c2 ib rb ba na (stE lo hi least xs ss i sum) → Code.wp Try.prog R (bodyPost Try.prog Try.f3 (LawEnd w0)) ⟨t', []⟩ w') :
    Code.wp Try.prog c (bodyPost Try.prog Try.f3 (LawEnd w0)) ⟨t, []⟩ w := by
  have ec := Option.some.inj hc
  clear hc
  subst ec
  simp only [dropC, segC]
  have HN : Hid _ := hn
  clear hn
  obtain ⟨sa, sn, sd, rfl⟩ := owns_shape own
  unfold ivOf at s20
  rw [arr_open t hF.size, hF.s0, hF.s1, hF.s2, hF.s3, hF.s4, hF.s5, hF.s6, s19, s20, s22]
  clear hF s19 s20 s22
  have hIx := hC.ix.grow g1
  have HO : Hid (w.ownsRow 0 32 5 (.slice sa sn sd) ss.length (valsOf ss)) := own
  have HFit : Hid _ := hfit
  have HC : Hid _ := hC
  have HSV : Hid _ := hsv
  have HR : Hid (w.rowIs ib 32 (xs.length * 5) (itF xs)) := hr
  have HNE : Hid _ := hne
  have HSZ : Hid _ := hsz
  clear own hfit hC hsv hr hne
  go_wp2_with fail
  refine (rest_any _ _ _ _ nx hsz hIx).mono ?_
  rintro e w1 ⟨rb, rfl, hrr, g2, hrb⟩
  clear hIx hsz
  have own1 := own_grow HO.out g2
  have hr1 := g2.row HR.out
  have HRR : Hid (w1.rowIs rb 2 (xs.length + 1) (fun j => .int .i64 (restOf (xs.drop j)))) := hrr
  clear hrr
  unfold rvOf
  go_wp2_with fail
  refine (newSearch_any _ _ _ _ _ _ _ ⟨_, _, _, rfl⟩ ⟨_, _, _, rfl⟩ ⟨_, _, _, rfl⟩).mono ?_
  rintro e w2 ⟨rfl, hw2⟩
  have hS := sIn_new (w1 := w1) (iv := ivOf ib xs.length) (rv := rvOf rb xs.length) (lo := lo) (hi := hi) (least := least) own1
  have g3 : Grow w1 w2 := by rw [hw2]; exact (Grow.refl w1).alloc _
  have hS2 : SIn w2 w1.heap.size (ivOf ib xs.length) (rvOf rb xs.length) lo hi least (.slice sa sn sd) (.slice none 0 0) (st0 ss) := by rw [hw2]; exact hS
  have hibl := HR.out.lt
  have hrbl := HRR.out.lt
  have hsz1 := g2.size
  have hG : Given w2 w1.heap.size ib rb xs (.slice sa sn sd) := ⟨g3.row hr1, g3.row HRR.out, by omega, by omega, HNE.out, fun e => by have := (HO.out.lt _ e).2; omega⟩
  have HSS : Hid _ := hS2
  have HG : Hid _ := hG
  clear hS hS2 hG hr1 own1 hw2
  go_wp2_with fail
  refine (from9 xs lo hi least w1.heap.size ib rb i sum (st0 ss) w2 _ _ hi' nx HSZ.out HFit.out (by simp [st0]) ⟨by simp [st0], by simp [st0, maxI]⟩ (by simp [st0]; omega) HSS.out HG.out).mono ?_
  rintro e w3 ⟨rfl, hA⟩
  have hM := mem_after (s := stE lo hi least xs ss i sum) HC.out (g1.trans (g2.trans g3)) (by have := g1.size; omega) HSV.out HG.out (by unfold stE; rw [search_set]; rfl) hA
  obtain ⟨sv', bv', ba, na, bc, nc, hS3, hbv, hsv', hMem⟩ := hM
  clear hA HSS HG
  have HM : Hid _ := hMem
  clear hMem
  subst hbv hsv'
  go_wp2_with fail
  refine (state_any _ _ _ _ _ _ _ _ _ _ hS3).mono ?_
  rintro e w4 ⟨rfl, n4, rfl⟩
  clear hS3
  go_wp2
  exact HN.out _ _ rb ba na bc nc ⟨rfl, rfl, rfl, rfl, rfl, rfl, rfl, rfl⟩ ⟨rfl, rfl, rfl, rfl, rfl, rfl, rfl, rfl⟩ (HM.out.more ((Grow.refl _).drewN _))

end Go.Proofs.Qxb6602155a
