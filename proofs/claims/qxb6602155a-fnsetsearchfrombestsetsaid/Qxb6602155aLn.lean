/-
  The law (3), its statements joined.
-/
import Derived.Test.Qxb6602155aLb
import Derived.Test.Qxb6602155aLc
import Derived.Test.Qxb6602155aLf
import Derived.Test.Qxb6602155aLg
import Derived.Test.Qxb6602155aLh
import Derived.Test.Qxb6602155aLi
import Derived.Test.Qxb6602155aLm
import Derived.Test.Qxb6602155aPj
namespace Go.Proofs.Qxb6602155a
open Go.RowKit

def rest (b : Option Code) (k : Nat) : Code := dropC k (b.getD .skip)
theorem cut4 : segOf 4 1 (rest Try.f3.body 5) Try.f3.body = some (rest Try.f3.body 4) := by kernel_rfl
theorem cut5 : segOf 5 1 (rest Try.f3.body 6) Try.f3.body = some (rest Try.f3.body 5) := by kernel_rfl
theorem cut6 : segOf 6 1 (rest Try.f3.body 7) Try.f3.body = some (rest Try.f3.body 6) := by kernel_rfl
theorem cut7 : segOf 7 1 (rest Try.f3.body 8) Try.f3.body = some (rest Try.f3.body 7) := by kernel_rfl
theorem cut8 : segOf 8 3 (rest Try.f3.body 11) Try.f3.body = some (rest Try.f3.body 8) := by kernel_rfl
theorem cut11 : segOf 11 3 (rest Try.f3.body 14) Try.f3.body = some (rest Try.f3.body 11) := by kernel_rfl
theorem cut14 : segOf 14 2 (rest Try.f3.body 16) Try.f3.body = some (rest Try.f3.body 14) := by kernel_rfl
theorem cut16 : segOf 16 2 (rest Try.f3.body 18) Try.f3.body = some (rest Try.f3.body 16) := by kernel_rfl
theorem cut18 : segOf 18 4 (rest Try.f3.body 22) Try.f3.body = some (rest Try.f3.body 18) := by kernel_rfl
theorem cut22 : segOf 22 1 (rest Try.f3.body 23) Try.f3.body = some (rest Try.f3.body 22) := by kernel_rfl
theorem cut23 : segOf 23 2 (rest Try.f3.body 25) Try.f3.body = some (rest Try.f3.body 23) := by kernel_rfl
theorem cut25 : segOf 25 1 (rest Try.f3.body 26) Try.f3.body = some (rest Try.f3.body 25) := by kernel_rfl
theorem cut26 : segOf 26 1 (rest Try.f3.body 27) Try.f3.body = some (rest Try.f3.body 26) := by kernel_rfl
theorem cut27 : segOf 27 1 (rest Try.f3.body 28) Try.f3.body = some (rest Try.f3.body 27) := by kernel_rfl
theorem cut28 : segOf 28 1 (rest Try.f3.body 29) Try.f3.body = some (rest Try.f3.body 28) := by kernel_rfl
theorem cut29 : segOf 29 1 (rest Try.f3.body 30) Try.f3.body = some (rest Try.f3.body 29) := by kernel_rfl
theorem cut30 : segOf 30 5 (rest Try.f3.body 35) Try.f3.body = some (rest Try.f3.body 30) := by kernel_rfl
theorem cut35 : segOf 35 1 (rest Try.f3.body 36) Try.f3.body = some (rest Try.f3.body 35) := by kernel_rfl
theorem cut36 : segOf 36 4 (rest Try.f3.body 40) Try.f3.body = some (rest Try.f3.body 36) := by kernel_rfl
theorem cut40 : segOf 40 3 (rest Try.f3.body 43) Try.f3.body = some (rest Try.f3.body 40) := by kernel_rfl
theorem cut43 : segOf 43 2 (rest Try.f3.body 45) Try.f3.body = some (rest Try.f3.body 43) := by kernel_rfl
theorem cut45 : segOf 45 1 .ret Try.f3.body = some (rest Try.f3.body 45) := by kernel_rfl

/-- From the search's end on. -/
theorem law_tail (w0 w : World) (c1 c2 : Option Addr) (xs ss : List It) (lo hi sum : Int) (i : Nat) (least : Bool) (ib rb : Nat) (ba na : Option Addr) (bc nc : Nat) (t : Array Value)
    (hF : Fr (.slice c1 xs.length xs.length) (.slice c2 ss.length ss.length) lo hi least i sum t) (hL : Sl xs.length ib rb ba na bc nc (stE lo hi least xs ss i sum) ss.length t) (hM : Mem w0 w xs ss c1 c2 ib rb ba na (stE lo hi least xs ss i sum))
    (nx : xs.length ≤ 4096) (ns : ss.length ≤ 4096) (hsz : ∀ x ∈ xs, InR x.size) (hi' : i ≤ xs.length) (hs0 : 0 ≤ sum) (hlo : InI lo) (hhi : InI hi) (hsum : InI sum) :
    Code.wp Try.prog (rest Try.f3.body 22) (bodyPost Try.prog Try.f3 (LawEnd w0)) ⟨t, []⟩ w := by
  have hsnd := stE_snd lo hi least xs ss i sum
  have hst := stE_steps lo hi least xs ss i sum
  have honce := fun h1 h2 => stE_once (lo := lo) (hi := hi) (least := least) (xs := xs) (ss := ss) (i := i) (sum := sum) h1 h2
  have hagree := fun m h b tt him hm hO => stE_agree (lo := lo) (hi := hi) (least := least) (xs := xs) (ss := ss) (i := i) (m := m) (sum := sum) (h := h) (b := b) (tt := tt) hlo.b hhi.b hs0 hsz him hm hO
  have hsin : InR (stE lo hi least xs ss i sum).sum := search_sum lo hi least hhi.b (xs.drop i) sum (st0 ss) (fun x hx => (hsz x (List.mem_of_mem_drop hx)).1) ⟨hs0, hsum.b⟩ ⟨by simp [st0], by simp [st0, maxI]⟩
  generalize stE lo hi least xs ss i sum = s at *
  obtain ⟨m, him⟩ : ∃ m, i + m = xs.length := ⟨xs.length - i, by omega⟩
  have him2 : (xs.drop i).length = m := by rw [List.length_drop]; omega
  refine secC22 (rest Try.f3.body 23) _ cut22 w0 w c1 c2 xs ss lo hi sum i least ib rb ba na bc nc s t hF hL hM nx ns ?_
  intro t w hF hL hM
  refine secC23 (rest Try.f3.body 25) _ cut23 w0 w c1 c2 xs ss lo hi sum i least ib rb ba na bc nc s t hF hL hM nx ns hsz ?_
  intro t w hF hL hM
  refine secC25 (rest Try.f3.body 26) _ cut25 w0 w c1 c2 xs ss lo hi sum i least ib rb ba na bc nc s t hF hL hM nx ns ?_
  intro t w hF hL hM
  refine secC26 (rest Try.f3.body 27) _ cut26 w0 w c1 c2 xs ss lo hi sum i least ib rb ba na bc nc s t hF hL hM nx ns ?_
  intro t w hF hL hM
  refine secC27 (rest Try.f3.body 28) _ cut27 w0 w c1 c2 xs ss lo hi sum i least ib rb ba na bc nc s t hF hL hM nx ns hst.1 hst.2 ?_
  intro t w hF hL hM
  refine secD28 (rest Try.f3.body 29) _ cut28 w0 w c1 c2 xs ss lo hi sum i least ib rb ba na bc nc s t hF hL hM nx ns hsz hsnd hi' hs0 hsin ?_
  intro t w hF hL hM
  refine secE29 (rest Try.f3.body 30) _ cut29 w0 w c1 c2 xs ss lo hi sum i least ib rb ba na bc nc s t hF hL hM nx ns honce ?_
  intro t w hF hL hM
  refine secE30 (rest Try.f3.body 35) _ cut30 w0 w c1 c2 xs ss lo hi sum i least ib rb ba na bc nc s t hF hL hM nx ns m him ?_
  intro hm t w hF hL hB hM
  refine secE35 (rest Try.f3.body 36) _ cut35 w0 w c1 c2 xs ss lo hi sum i least ib rb ba na bc nc s t hF hL hM nx ns m hm him2 hi' hB hsz hs0 hhi ?_
  intro t w h b tt hF hL hB hO hM
  obtain ⟨hA, hs1⟩ := hagree m h b tt him2 hm hO
  refine secF36 (rest Try.f3.body 40) _ cut36 w0 w c1 c2 xs ss lo hi sum i least ib rb ba na bc nc s t hF hL hM nx ns m hm h b tt hB hA hs1 ?_
  intro t w c hF hL hB hc hbest hM
  refine secF40 (rest Try.f3.body 43) _ cut40 w0 w c1 c2 xs ss lo hi sum i least ib rb ba na bc nc s t hF hL hM nx ns m c hm him2 hB hc hbest ?_
  intro t w hF hL hB hM
  refine secF43 (rest Try.f3.body 45) _ cut43 w0 w c1 c2 xs ss lo hi sum i least ib rb ba na bc nc s t hF hL hM nx ns m c hm him2 hB hc hbest hi' ?_
  intro t w hF hM
  exact secF45 _ cut45 w0 w _ _ lo hi sum i least t hF hM.grow

/-- From the guards' end on. -/
theorem law_mid (w0 : World) (a1 a2 : Option Addr) (d1 d2 : Nat) (xs ss : List It) (lo hi sum : Int) (i : Nat) (least : Bool) (t : Array Value)
    (hF : Fr (.slice a1 xs.length d1) (.slice a2 ss.length d2) lo hi least i sum t) (hx : Its w0 a1 xs) (hs : Its w0 a2 ss) (hG : Guarded xs ss lo hi i sum) (hlo : InI lo) (hhi : InI hi) (hsum : InI sum) (hin : ∀ x ∈ xs, InI x.size) :
    Code.wp Try.prog (rest Try.f3.body 11) (bodyPost Try.prog Try.f3 (LawEnd w0)) ⟨t, []⟩ w0 := by
  have hsz : ∀ x ∈ xs, InR x.size := fun x hx => ⟨hG.sz x hx, (hin x hx).b⟩
  have hi' : i ≤ xs.length := by have := hG.i1; omega
  have hfit := guarded_fits hG hlo hhi hsum
  refine secB11 (rest Try.f3.body 14) _ cut11 w0 w0 a1 a2 d1 d2 xs ss lo hi i sum least t rfl hF hx hs hG.nx hG.ns ?_
  intro t wc c1 c2 hF h19 hC
  refine secB14 (rest Try.f3.body 16) _ cut14 w0 wc c1 c2 xs ss lo hi i sum least t hF h19 hC.ix hG.nx ?_
  intro t w1 hF h19 h20 g1 hrow
  refine secB16 (rest Try.f3.body 18) _ cut16 w0 w1 c1 c2 xs ss lo hi i sum least _ t hF h19 h20 (hC.is.grow g1) hG.ns ?_
  intro t w2 sv hF h19 h20 h22 g2 own hsv
  have hrl := hrow.lt
  refine secB18 (rest Try.f3.body 22) _ cut18 w0 w2 wc c1 c2 xs ss lo hi sum i least wc.heap.size sv t hF h19 h20 h22 hC (g1.trans g2) (g2.row hrow) own (fun g hg => Nat.le_trans g1.size (hsv g hg)) (fun e => by have := hsv _ e; omega) hG.nx hG.ns hi' hsz hfit ?_
  intro t w rb ba na bc nc hF hL hM
  exact law_tail w0 w c1 c2 xs ss lo hi sum i least _ rb ba na bc nc t hF hL hM hG.nx hG.ns hsz hi' hG.s0 hlo hhi hsum

set_option maxRecDepth 100000 in
set_option maxHeartbeats 4000000 in
theorem law_any (w0 : World) (a1 a2 : Option Addr) (d1 d2 : Nat) (xs ss : List It) (lo hi i sum : Int) (least : Bool) (hx : Its w0 a1 xs) (hs : Its w0 a2 ss) (hlo : InI lo) (hhi : InI hi) (hsum : InI sum) (hin : ∀ x ∈ xs, InI x.size) :
    Calls Try.prog 3 #[.slice a1 xs.length d1, .slice a2 ss.length d2, .int .i64 lo, .int .i64 hi, .bool least, .int .i64 i, .int .i64 sum] w0 (LawEnd w0) := by
  go_enter Try.func3, Try.ntmps3
  refine secA1 (rest Try.f3.body 4) _ (by kernel_rfl) w0 a1 a2 d1 d2 xs ss lo hi i sum least _ ⟨rfl, rfl, rfl, rfl, rfl, rfl, rfl, rfl⟩ hx hs ?_
  rintro t hF ⟨nx, ns, z, h15⟩
  refine secA4 (rest Try.f3.body 5) _ cut4 w0 a1 a2 d1 d2 xs ss lo hi i sum least t hF hx hs nx ns z h15 ?_
  rintro t hF ⟨z, h15⟩
  refine secA5 (rest Try.f3.body 6) _ cut5 w0 a1 a2 d1 d2 xs ss lo hi i sum least t hF hx hs nx ns z h15 ?_
  rintro t hF ⟨z, h15⟩
  refine secA6 (rest Try.f3.body 7) _ cut6 w0 a1 a2 d1 d2 xs ss lo hi i sum least t hF hx hs z h15 ?_
  intro t hF _
  refine secA7 (rest Try.f3.body 8) _ cut7 w0 a1 a2 d1 d2 xs ss lo hi i sum least t hF hx hs nx ?_
  intro t hF hz
  refine secA8 (rest Try.f3.body 11) _ cut8 w0 a1 a2 d1 d2 xs ss lo hi i sum least t hF hx hs hlo hhi hsum nx ns hz ?_
  intro t hF hG
  obtain ⟨i, rfl⟩ := Int.eq_ofNat_of_zero_le hG.i0
  exact law_mid w0 a1 a2 d1 d2 xs ss lo hi sum i least t hF hx hs hG hlo hhi hsum hin

end Go.Proofs.Qxb6602155a
