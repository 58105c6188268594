/-
  No cell of these rows narrows 'for every input' (looked for: loops, veiled, ifaces, maps, wideKeys, modest, calm, conditions, laid).
  DERIVED. THE GIVEN ROWS OF THIS SEAT. 4 by the template 'for every input the law returns true; each argument reads behind the call as it read before'; 0 by the template 'total and deterministic' (their statements: Qxb6619851aTotals.lean).
  GIVEN WITH THE SEED: the statements are not yours to turn. If you find one false, say at which input.
  Laid BY PROGRAM, IN A SANDBOX (cutbox-rows.mjs): the forced cells as the released guide's own fill.sh prints them over the translation 20e4840f1d650754… (all of the seat's roots in one cut). By AI agents, Wed Nov 11 2026. No macro, syntax, notation, axiom, sorry.
-/
import Derived.Test.Qxb6619851aChecked
import GoSem.Claim
import GoSem.ClaimJoined
import GoSem.ClaimMapViews
import Derived.JoinedTies
import Derived.KernelRfl
namespace Go.Proofs.Qxb6619851a
/- THE CELL 'sum', in the pinned program and in every row, IS THE sha256 OF THE DUMP (.gsa) THAT Qxb6619851aProg.lean LOADS. Nothing in Lean hashes anything: it is a label: what it is worth is what the hold of that sum in a sandbox is worth. -/
noncomputable def Try.pinned : Pinned := { name := "qxb6619851a", sum := "20e4840f1d6507546518a6b5a3655c80a93008c5ece0eda04bd328c955ce0a48", checked := Try.checked }
namespace Rows
def none {H : Type} : Left H := { results := [], args := [] }

/-- 'zzlaws_internal_negentropy_b1.FnBetweenIsTheShortestSeparator': WHATEVER THE INPUT: true; the input reads as it did. -/
def fnBetweenIsTheShortestSeparatorSpec : ChangeSpec := { name := "fnBetweenIsTheShortestSeparator", fn := fun _ => fun
  | [d1, d2, d3, d4] => { results := [.lit (.bool true)], args := [d1, d2, d3, d4] }
  | _ => none }
def fnBetweenIsTheShortestSeparatorRow : OpenClaim := { program := "qxb6619851a", sum := "20e4840f1d6507546518a6b5a3655c80a93008c5ece0eda04bd328c955ce0a48", func := "example.com/kraul/kraul/zzlaws_internal_negentropy_b1.FnBetweenIsTheShortestSeparator", spec := "fnBetweenIsTheShortestSeparator", inPlace := ["internal/bytealg.Compare"], plainKeys := false, apart := false }
def FnBetweenIsTheShortestSeparatorSaid : Prop := fnBetweenIsTheShortestSeparatorRow.holds Try.pinned (OpenSpec.ofChange fnBetweenIsTheShortestSeparatorSpec)

/-- ITS FALSE NEIGHBOUR: 'it returns false'. Refute it at one input. -/
def fnBetweenIsTheShortestSeparatorWrong : ChangeSpec := { name := "fnBetweenIsTheShortestSeparator", fn := fun _ => fun
  | [d1, d2, d3, d4] => { results := [.lit (.bool false)], args := [d1, d2, d3, d4] }
  | _ => none }
def FnBetweenIsTheShortestSeparatorWrongFalsely : Prop := fnBetweenIsTheShortestSeparatorRow.holds Try.pinned (OpenSpec.ofChange fnBetweenIsTheShortestSeparatorWrong)

/-- 'zzlaws_internal_negentropy_b1.FnBetweenBoundsRiseAlongASortedList': WHATEVER THE INPUT: true; the input reads as it did. -/
def fnBetweenBoundsRiseAlongASortedListSpec : ChangeSpec := { name := "fnBetweenBoundsRiseAlongASortedList", fn := fun _ => fun
  | [d1, d2] => { results := [.lit (.bool true)], args := [d1, d2] }
  | _ => none }
def fnBetweenBoundsRiseAlongASortedListRow : OpenClaim := { program := "qxb6619851a", sum := "20e4840f1d6507546518a6b5a3655c80a93008c5ece0eda04bd328c955ce0a48", func := "example.com/kraul/kraul/zzlaws_internal_negentropy_b1.FnBetweenBoundsRiseAlongASortedList", spec := "fnBetweenBoundsRiseAlongASortedList", inPlace := ["internal/bytealg.Compare"], plainKeys := false, apart := false }
def FnBetweenBoundsRiseAlongASortedListSaid : Prop := fnBetweenBoundsRiseAlongASortedListRow.holds Try.pinned (OpenSpec.ofChange fnBetweenBoundsRiseAlongASortedListSpec)

/-- ITS FALSE NEIGHBOUR: 'it returns false'. Refute it at one input. -/
def fnBetweenBoundsRiseAlongASortedListWrong : ChangeSpec := { name := "fnBetweenBoundsRiseAlongASortedList", fn := fun _ => fun
  | [d1, d2] => { results := [.lit (.bool false)], args := [d1, d2] }
  | _ => none }
def FnBetweenBoundsRiseAlongASortedListWrongFalsely : Prop := fnBetweenBoundsRiseAlongASortedListRow.holds Try.pinned (OpenSpec.ofChange fnBetweenBoundsRiseAlongASortedListWrong)

/-- 'zzlaws_internal_negentropy_b1.FnCompareSwapsRolesAndSplitsEachSide': WHATEVER THE INPUT: true; the input reads as it did. -/
def fnCompareSwapsRolesAndSplitsEachSideSpec : ChangeSpec := { name := "fnCompareSwapsRolesAndSplitsEachSide", fn := fun _ => fun
  | [d1, d2, d3, d4] => { results := [.lit (.bool true)], args := [d1, d2, d3, d4] }
  | _ => none }
def fnCompareSwapsRolesAndSplitsEachSideRow : OpenClaim := { program := "qxb6619851a", sum := "20e4840f1d6507546518a6b5a3655c80a93008c5ece0eda04bd328c955ce0a48", func := "example.com/kraul/kraul/zzlaws_internal_negentropy_b1.FnCompareSwapsRolesAndSplitsEachSide", spec := "fnCompareSwapsRolesAndSplitsEachSide", plainKeys := false, apart := false }
def FnCompareSwapsRolesAndSplitsEachSideSaid : Prop := fnCompareSwapsRolesAndSplitsEachSideRow.holds Try.pinned (OpenSpec.ofChange fnCompareSwapsRolesAndSplitsEachSideSpec)

/-- ITS FALSE NEIGHBOUR: 'it returns false'. Refute it at one input. -/
def fnCompareSwapsRolesAndSplitsEachSideWrong : ChangeSpec := { name := "fnCompareSwapsRolesAndSplitsEachSide", fn := fun _ => fun
  | [d1, d2, d3, d4] => { results := [.lit (.bool false)], args := [d1, d2, d3, d4] }
  | _ => none }
def FnCompareSwapsRolesAndSplitsEachSideWrongFalsely : Prop := fnCompareSwapsRolesAndSplitsEachSideRow.holds Try.pinned (OpenSpec.ofChange fnCompareSwapsRolesAndSplitsEachSideWrong)

/-- 'zzlaws_internal_negentropy_b1.FnBelowIsOrderOfPaddedKeys': WHATEVER THE INPUT: true; the input reads as it did. -/
def fnBelowIsOrderOfPaddedKeysSpec : ChangeSpec := { name := "fnBelowIsOrderOfPaddedKeys", fn := fun _ => fun
  | [d1, d2, d3, d4, d5] => { results := [.lit (.bool true)], args := [d1, d2, d3, d4, d5] }
  | _ => none }
def fnBelowIsOrderOfPaddedKeysRow : OpenClaim := { program := "qxb6619851a", sum := "20e4840f1d6507546518a6b5a3655c80a93008c5ece0eda04bd328c955ce0a48", func := "example.com/kraul/kraul/zzlaws_internal_negentropy_b1.FnBelowIsOrderOfPaddedKeys", spec := "fnBelowIsOrderOfPaddedKeys", inPlace := ["internal/bytealg.Compare"], plainKeys := false, apart := false }
def FnBelowIsOrderOfPaddedKeysSaid : Prop := fnBelowIsOrderOfPaddedKeysRow.holds Try.pinned (OpenSpec.ofChange fnBelowIsOrderOfPaddedKeysSpec)

/-- ITS FALSE NEIGHBOUR: 'it returns false'. Refute it at one input. -/
def fnBelowIsOrderOfPaddedKeysWrong : ChangeSpec := { name := "fnBelowIsOrderOfPaddedKeys", fn := fun _ => fun
  | [d1, d2, d3, d4, d5] => { results := [.lit (.bool false)], args := [d1, d2, d3, d4, d5] }
  | _ => none }
def FnBelowIsOrderOfPaddedKeysWrongFalsely : Prop := fnBelowIsOrderOfPaddedKeysRow.holds Try.pinned (OpenSpec.ofChange fnBelowIsOrderOfPaddedKeysWrong)

end Rows
end Go.Proofs.Qxb6619851a
