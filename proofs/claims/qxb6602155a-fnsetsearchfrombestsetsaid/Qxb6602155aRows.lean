/-
  No cell of these rows narrows 'for every input' (looked for: loops, veiled, ifaces, maps, wideKeys, modest, calm, conditions, laid).
  DERIVED. THE GIVEN ROWS OF THIS SEAT. 1 by the template 'for every input the law returns true; each argument reads behind the call as it read before'; 0 by the template 'total and deterministic' (their statements: Qxb6602155aTotals.lean).
  GIVEN WITH THE SEED: the statements are not yours to turn. If you find one false, say at which input.
  Laid BY PROGRAM, IN A SANDBOX (cutbox-rows.mjs): the forced cells as the released guide's own fill.sh prints them over the translation 2b2927263b3ce5af… (all of the seat's roots in one cut). By AI agents, Wed Nov 11 2026. No macro, syntax, notation, axiom, sorry.
-/
import Derived.Test.Qxb6602155aChecked
import GoSem.Claim
import GoSem.ClaimJoined
import GoSem.ClaimMapViews
import Derived.JoinedTies
import Derived.KernelRfl
namespace Go.Proofs.Qxb6602155a
/- THE CELL 'sum', in the pinned program and in every row, IS THE sha256 OF THE DUMP (.gsa) THAT Qxb6602155aProg.lean LOADS. Nothing in Lean hashes anything: it is a label: what it is worth is what the hold of that sum in a sandbox is worth. -/
noncomputable def Try.pinned : Pinned := { name := "qxb6602155a", sum := "2b2927263b3ce5af170a900f91ad7d302f88c0cbd3e2b52839debf60b70c7d59", checked := Try.checked }
namespace Rows
def none {H : Type} : Left H := { results := [], args := [] }

/-- 'zzlaws_internal_overlay_b1.FnSetSearchFromBestSet': WHATEVER THE INPUT: true; the input reads as it did. -/
def fnSetSearchFromBestSetSpec : ChangeSpec := { name := "fnSetSearchFromBestSet", fn := fun _ => fun
  | [d1, d2, d3, d4, d5, d6, d7] => { results := [.lit (.bool true)], args := [d1, d2, d3, d4, d5, d6, d7] }
  | _ => none }
def fnSetSearchFromBestSetRow : OpenClaim := { program := "qxb6602155a", sum := "2b2927263b3ce5af170a900f91ad7d302f88c0cbd3e2b52839debf60b70c7d59", func := "example.com/trimtab/trimtab/zzlaws_internal_overlay_b1.FnSetSearchFromBestSet", spec := "fnSetSearchFromBestSet", recurses := true, apart := false }
def FnSetSearchFromBestSetSaid : Prop := fnSetSearchFromBestSetRow.holds Try.pinned (OpenSpec.ofChange fnSetSearchFromBestSetSpec)

/-- ITS FALSE NEIGHBOUR: 'it returns false'. Refute it at one input. -/
def fnSetSearchFromBestSetWrong : ChangeSpec := { name := "fnSetSearchFromBestSet", fn := fun _ => fun
  | [d1, d2, d3, d4, d5, d6, d7] => { results := [.lit (.bool false)], args := [d1, d2, d3, d4, d5, d6, d7] }
  | _ => none }
def FnSetSearchFromBestSetWrongFalsely : Prop := fnSetSearchFromBestSetRow.holds Try.pinned (OpenSpec.ofChange fnSetSearchFromBestSetWrong)

end Rows
end Go.Proofs.Qxb6602155a
