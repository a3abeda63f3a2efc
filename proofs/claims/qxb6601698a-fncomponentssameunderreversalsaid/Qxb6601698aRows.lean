/-
  NARROWER THAN 'FOR EVERY INPUT', by the rows' own cells (each row's printed sentence says how): FnReachCountsMatchComponentModel: maps · FnReachSidesSwapUnderReversal: maps · FnCycleFoundExactlyWhenReachable: maps · FnCycleOfJoinedRootsIsFirstFound: maps.
  DERIVED. THE GIVEN ROWS OF THIS SEAT. 6 by the template 'for every input the law returns true; each argument reads behind the call as it read before'; 0 by the template 'total and deterministic' (their statements: Qxb6601698aTotals.lean).
  GIVEN WITH THE SEED: the statements are not yours to turn. If you find one false, say at which input.
  Laid BY PROGRAM, IN A SANDBOX (cutbox-rows.mjs): the forced cells as the released guide's own fill.sh prints them over the translation 26f2b0e2648a6f7d… (all of the seat's roots in one cut). By AI agents, Wed Nov 11 2026. No macro, syntax, notation, axiom, sorry.
-/
import Derived.Test.Qxb6601698aChecked
import GoSem.Claim
import GoSem.ClaimJoined
import GoSem.ClaimMapViews
import Derived.JoinedTies
import Derived.KernelRfl
namespace Go.Proofs.Qxb6601698a
/- THE CELL 'sum', in the pinned program and in every row, IS THE sha256 OF THE DUMP (.gsa) THAT Qxb6601698aProg.lean LOADS. Nothing in Lean hashes anything: it is a label: what it is worth is what the hold of that sum in a sandbox is worth. -/
noncomputable def Try.pinned : Pinned := { name := "qxb6601698a", sum := "26f2b0e2648a6f7d0cfafef242946b43b5094a9ecd23a49dd2ac3b4b8080ddce", checked := Try.checked }
namespace Rows
def none {H : Type} : Left H := { results := [], args := [] }

/-- 'zzlaws_api_b1.FnReachCountsMatchComponentModel': WHATEVER THE INPUT: true; the input reads as it did. -/
def fnReachCountsMatchComponentModelSpec : ChangeSpec := { name := "fnReachCountsMatchComponentModel", fn := fun _ => fun
  | [d1, d2, d3, d4, d5, d6, d7] => { results := [.lit (.bool true)], args := [d1, d2, d3, d4, d5, d6, d7] }
  | _ => none }
def fnReachCountsMatchComponentModelRow : OpenClaim := { program := "qxb6601698a", sum := "26f2b0e2648a6f7d0cfafef242946b43b5094a9ecd23a49dd2ac3b4b8080ddce", func := "example.com/handfast/handfast/zzlaws_api_b1.FnReachCountsMatchComponentModel", spec := "fnReachCountsMatchComponentModel", maps := true, apart := false }
def FnReachCountsMatchComponentModelSaid : Prop := fnReachCountsMatchComponentModelRow.holds Try.pinned (OpenSpec.ofChange fnReachCountsMatchComponentModelSpec)

/-- ITS FALSE NEIGHBOUR: 'it returns false'. Refute it at one input. -/
def fnReachCountsMatchComponentModelWrong : ChangeSpec := { name := "fnReachCountsMatchComponentModel", fn := fun _ => fun
  | [d1, d2, d3, d4, d5, d6, d7] => { results := [.lit (.bool false)], args := [d1, d2, d3, d4, d5, d6, d7] }
  | _ => none }
def FnReachCountsMatchComponentModelWrongFalsely : Prop := fnReachCountsMatchComponentModelRow.holds Try.pinned (OpenSpec.ofChange fnReachCountsMatchComponentModelWrong)

/-- 'zzlaws_api_b1.FnReachSidesSwapUnderReversal': WHATEVER THE INPUT: true; the input reads as it did. -/
def fnReachSidesSwapUnderReversalSpec : ChangeSpec := { name := "fnReachSidesSwapUnderReversal", fn := fun _ => fun
  | [d1, d2, d3, d4, d5, d6, d7] => { results := [.lit (.bool true)], args := [d1, d2, d3, d4, d5, d6, d7] }
  | _ => none }
def fnReachSidesSwapUnderReversalRow : OpenClaim := { program := "qxb6601698a", sum := "26f2b0e2648a6f7d0cfafef242946b43b5094a9ecd23a49dd2ac3b4b8080ddce", func := "example.com/handfast/handfast/zzlaws_api_b1.FnReachSidesSwapUnderReversal", spec := "fnReachSidesSwapUnderReversal", maps := true, apart := false }
def FnReachSidesSwapUnderReversalSaid : Prop := fnReachSidesSwapUnderReversalRow.holds Try.pinned (OpenSpec.ofChange fnReachSidesSwapUnderReversalSpec)

/-- ITS FALSE NEIGHBOUR: 'it returns false'. Refute it at one input. -/
def fnReachSidesSwapUnderReversalWrong : ChangeSpec := { name := "fnReachSidesSwapUnderReversal", fn := fun _ => fun
  | [d1, d2, d3, d4, d5, d6, d7] => { results := [.lit (.bool false)], args := [d1, d2, d3, d4, d5, d6, d7] }
  | _ => none }
def FnReachSidesSwapUnderReversalWrongFalsely : Prop := fnReachSidesSwapUnderReversalRow.holds Try.pinned (OpenSpec.ofChange fnReachSidesSwapUnderReversalWrong)

/-- 'zzlaws_api_b1.FnComponentsAreOrderedStrongComponents': WHATEVER THE INPUT: true; the input reads as it did. -/
def fnComponentsAreOrderedStrongComponentsSpec : ChangeSpec := { name := "fnComponentsAreOrderedStrongComponents", fn := fun _ => fun
  | [d1, d2] => { results := [.lit (.bool true)], args := [d1, d2] }
  | _ => none }
def fnComponentsAreOrderedStrongComponentsRow : OpenClaim := { program := "qxb6601698a", sum := "26f2b0e2648a6f7d0cfafef242946b43b5094a9ecd23a49dd2ac3b4b8080ddce", func := "example.com/handfast/handfast/zzlaws_api_b1.FnComponentsAreOrderedStrongComponents", spec := "fnComponentsAreOrderedStrongComponents", unfollowed := true, recurses := true, apart := false }
def FnComponentsAreOrderedStrongComponentsSaid : Prop := fnComponentsAreOrderedStrongComponentsRow.holds Try.pinned (OpenSpec.ofChange fnComponentsAreOrderedStrongComponentsSpec)

/-- ITS FALSE NEIGHBOUR: 'it returns false'. Refute it at one input. -/
def fnComponentsAreOrderedStrongComponentsWrong : ChangeSpec := { name := "fnComponentsAreOrderedStrongComponents", fn := fun _ => fun
  | [d1, d2] => { results := [.lit (.bool false)], args := [d1, d2] }
  | _ => none }
def FnComponentsAreOrderedStrongComponentsWrongFalsely : Prop := fnComponentsAreOrderedStrongComponentsRow.holds Try.pinned (OpenSpec.ofChange fnComponentsAreOrderedStrongComponentsWrong)

/-- 'zzlaws_api_b1.FnComponentsSameUnderReversal': WHATEVER THE INPUT: true; the input reads as it did. -/
def fnComponentsSameUnderReversalSpec : ChangeSpec := { name := "fnComponentsSameUnderReversal", fn := fun _ => fun
  | [d1, d2] => { results := [.lit (.bool true)], args := [d1, d2] }
  | _ => none }
def fnComponentsSameUnderReversalRow : OpenClaim := { program := "qxb6601698a", sum := "26f2b0e2648a6f7d0cfafef242946b43b5094a9ecd23a49dd2ac3b4b8080ddce", func := "example.com/handfast/handfast/zzlaws_api_b1.FnComponentsSameUnderReversal", spec := "fnComponentsSameUnderReversal", unfollowed := true, recurses := true, apart := false }
def FnComponentsSameUnderReversalSaid : Prop := fnComponentsSameUnderReversalRow.holds Try.pinned (OpenSpec.ofChange fnComponentsSameUnderReversalSpec)

/-- ITS FALSE NEIGHBOUR: 'it returns false'. Refute it at one input. -/
def fnComponentsSameUnderReversalWrong : ChangeSpec := { name := "fnComponentsSameUnderReversal", fn := fun _ => fun
  | [d1, d2] => { results := [.lit (.bool false)], args := [d1, d2] }
  | _ => none }
def FnComponentsSameUnderReversalWrongFalsely : Prop := fnComponentsSameUnderReversalRow.holds Try.pinned (OpenSpec.ofChange fnComponentsSameUnderReversalWrong)

/-- 'zzlaws_api_b1.FnCycleFoundExactlyWhenReachable': WHATEVER THE INPUT: true; the input reads as it did. -/
def fnCycleFoundExactlyWhenReachableSpec : ChangeSpec := { name := "fnCycleFoundExactlyWhenReachable", fn := fun _ => fun
  | [d1, d2] => { results := [.lit (.bool true)], args := [d1, d2] }
  | _ => none }
def fnCycleFoundExactlyWhenReachableRow : OpenClaim := { program := "qxb6601698a", sum := "26f2b0e2648a6f7d0cfafef242946b43b5094a9ecd23a49dd2ac3b4b8080ddce", func := "example.com/handfast/handfast/zzlaws_api_b1.FnCycleFoundExactlyWhenReachable", spec := "fnCycleFoundExactlyWhenReachable", maps := true, apart := false }
def FnCycleFoundExactlyWhenReachableSaid : Prop := fnCycleFoundExactlyWhenReachableRow.holds Try.pinned (OpenSpec.ofChange fnCycleFoundExactlyWhenReachableSpec)

/-- ITS FALSE NEIGHBOUR: 'it returns false'. Refute it at one input. -/
def fnCycleFoundExactlyWhenReachableWrong : ChangeSpec := { name := "fnCycleFoundExactlyWhenReachable", fn := fun _ => fun
  | [d1, d2] => { results := [.lit (.bool false)], args := [d1, d2] }
  | _ => none }
def FnCycleFoundExactlyWhenReachableWrongFalsely : Prop := fnCycleFoundExactlyWhenReachableRow.holds Try.pinned (OpenSpec.ofChange fnCycleFoundExactlyWhenReachableWrong)

/-- 'zzlaws_api_b1.FnCycleOfJoinedRootsIsFirstFound': WHATEVER THE INPUT: true; the input reads as it did. -/
def fnCycleOfJoinedRootsIsFirstFoundSpec : ChangeSpec := { name := "fnCycleOfJoinedRootsIsFirstFound", fn := fun _ => fun
  | [d1, d2, d3] => { results := [.lit (.bool true)], args := [d1, d2, d3] }
  | _ => none }
def fnCycleOfJoinedRootsIsFirstFoundRow : OpenClaim := { program := "qxb6601698a", sum := "26f2b0e2648a6f7d0cfafef242946b43b5094a9ecd23a49dd2ac3b4b8080ddce", func := "example.com/handfast/handfast/zzlaws_api_b1.FnCycleOfJoinedRootsIsFirstFound", spec := "fnCycleOfJoinedRootsIsFirstFound", maps := true, apart := false }
def FnCycleOfJoinedRootsIsFirstFoundSaid : Prop := fnCycleOfJoinedRootsIsFirstFoundRow.holds Try.pinned (OpenSpec.ofChange fnCycleOfJoinedRootsIsFirstFoundSpec)

/-- ITS FALSE NEIGHBOUR: 'it returns false'. Refute it at one input. -/
def fnCycleOfJoinedRootsIsFirstFoundWrong : ChangeSpec := { name := "fnCycleOfJoinedRootsIsFirstFound", fn := fun _ => fun
  | [d1, d2, d3] => { results := [.lit (.bool false)], args := [d1, d2, d3] }
  | _ => none }
def FnCycleOfJoinedRootsIsFirstFoundWrongFalsely : Prop := fnCycleOfJoinedRootsIsFirstFoundRow.holds Try.pinned (OpenSpec.ofChange fnCycleOfJoinedRootsIsFirstFoundWrong)

end Rows
end Go.Proofs.Qxb6601698a
