/-
  No cell of these rows narrows 'for every input' (looked for: loops, veiled, ifaces, maps, wideKeys, modest, calm, conditions, laid).
  DERIVED. THE GIVEN ROWS OF THIS SEAT. 3 by the template 'for every input the law returns true; each argument reads behind the call as it read before'; 0 by the template 'total and deterministic' (their statements: Qxb6601545aTotals.lean).
  GIVEN WITH THE SEED: the statements are not yours to turn. If you find one false, say at which input.
  Laid BY PROGRAM, IN A SANDBOX (cutbox-rows.mjs): the forced cells as the released guide's own fill.sh prints them over the translation 5059988207f68653… (all of the seat's roots in one cut). By AI agents, Wed Nov 11 2026. No macro, syntax, notation, axiom, sorry.
-/
import Derived.Test.Qxb6601545aChecked
import GoSem.Claim
import GoSem.ClaimJoined
import GoSem.ClaimMapViews
import Derived.JoinedTies
import Derived.KernelRfl
namespace Go.Proofs.Qxb6601545a
/- THE CELL 'sum', in the pinned program and in every row, IS THE sha256 OF THE DUMP (.gsa) THAT Qxb6601545aProg.lean LOADS. Nothing in Lean hashes anything: it is a label: what it is worth is what the hold of that sum in a sandbox is worth. -/
noncomputable def Try.pinned : Pinned := { name := "qxb6601545a", sum := "5059988207f686535ce99a99caba12a381b0e4d854f1260f0f62ff80ed2708d0", checked := Try.checked }
namespace Rows
def none {H : Type} : Left H := { results := [], args := [] }

/-- 'zzlaws_book_b1.FnHolderEndMatchesBackwardScan': WHATEVER THE INPUT: true; the input reads as it did. -/
def fnHolderEndMatchesBackwardScanSpec : ChangeSpec := { name := "fnHolderEndMatchesBackwardScan", fn := fun _ => fun
  | [d1, d2, d3] => { results := [.lit (.bool true)], args := [d1, d2, d3] }
  | _ => none }
def fnHolderEndMatchesBackwardScanRow : OpenClaim := { program := "qxb6601545a", sum := "5059988207f686535ce99a99caba12a381b0e4d854f1260f0f62ff80ed2708d0", func := "example.com/jinkui/jinkui/zzlaws_book_b1.FnHolderEndMatchesBackwardScan", spec := "fnHolderEndMatchesBackwardScan", apart := false }
def FnHolderEndMatchesBackwardScanSaid : Prop := fnHolderEndMatchesBackwardScanRow.holds Try.pinned (OpenSpec.ofChange fnHolderEndMatchesBackwardScanSpec)

/-- ITS FALSE NEIGHBOUR: 'it returns false'. Refute it at one input. -/
def fnHolderEndMatchesBackwardScanWrong : ChangeSpec := { name := "fnHolderEndMatchesBackwardScan", fn := fun _ => fun
  | [d1, d2, d3] => { results := [.lit (.bool false)], args := [d1, d2, d3] }
  | _ => none }
def FnHolderEndMatchesBackwardScanWrongFalsely : Prop := fnHolderEndMatchesBackwardScanRow.holds Try.pinned (OpenSpec.ofChange fnHolderEndMatchesBackwardScanWrong)

/-- 'zzlaws_book_b1.FnHolderEndIsStable': WHATEVER THE INPUT: true; the input reads as it did. -/
def fnHolderEndIsStableSpec : ChangeSpec := { name := "fnHolderEndIsStable", fn := fun _ => fun
  | [d1, d2, d3] => { results := [.lit (.bool true)], args := [d1, d2, d3] }
  | _ => none }
def fnHolderEndIsStableRow : OpenClaim := { program := "qxb6601545a", sum := "5059988207f686535ce99a99caba12a381b0e4d854f1260f0f62ff80ed2708d0", func := "example.com/jinkui/jinkui/zzlaws_book_b1.FnHolderEndIsStable", spec := "fnHolderEndIsStable", apart := false }
def FnHolderEndIsStableSaid : Prop := fnHolderEndIsStableRow.holds Try.pinned (OpenSpec.ofChange fnHolderEndIsStableSpec)

/-- ITS FALSE NEIGHBOUR: 'it returns false'. Refute it at one input. -/
def fnHolderEndIsStableWrong : ChangeSpec := { name := "fnHolderEndIsStable", fn := fun _ => fun
  | [d1, d2, d3] => { results := [.lit (.bool false)], args := [d1, d2, d3] }
  | _ => none }
def FnHolderEndIsStableWrongFalsely : Prop := fnHolderEndIsStableRow.holds Try.pinned (OpenSpec.ofChange fnHolderEndIsStableWrong)

/-- 'zzlaws_book_b1.FnHolderEndUnderTruncation': WHATEVER THE INPUT: true; the input reads as it did. -/
def fnHolderEndUnderTruncationSpec : ChangeSpec := { name := "fnHolderEndUnderTruncation", fn := fun _ => fun
  | [d1, d2, d3, d4] => { results := [.lit (.bool true)], args := [d1, d2, d3, d4] }
  | _ => none }
def fnHolderEndUnderTruncationRow : OpenClaim := { program := "qxb6601545a", sum := "5059988207f686535ce99a99caba12a381b0e4d854f1260f0f62ff80ed2708d0", func := "example.com/jinkui/jinkui/zzlaws_book_b1.FnHolderEndUnderTruncation", spec := "fnHolderEndUnderTruncation", apart := false }
def FnHolderEndUnderTruncationSaid : Prop := fnHolderEndUnderTruncationRow.holds Try.pinned (OpenSpec.ofChange fnHolderEndUnderTruncationSpec)

/-- ITS FALSE NEIGHBOUR: 'it returns false'. Refute it at one input. -/
def fnHolderEndUnderTruncationWrong : ChangeSpec := { name := "fnHolderEndUnderTruncation", fn := fun _ => fun
  | [d1, d2, d3, d4] => { results := [.lit (.bool false)], args := [d1, d2, d3, d4] }
  | _ => none }
def FnHolderEndUnderTruncationWrongFalsely : Prop := fnHolderEndUnderTruncationRow.holds Try.pinned (OpenSpec.ofChange fnHolderEndUnderTruncationWrong)

end Rows
end Go.Proofs.Qxb6601545a
