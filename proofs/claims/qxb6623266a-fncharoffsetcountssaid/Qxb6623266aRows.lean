/-
  No cell of these rows narrows 'for every input' (looked for: loops, veiled, ifaces, maps, wideKeys, modest, calm, conditions, laid).
  DERIVED. THE GIVEN ROWS OF THIS SEAT. 2 by the template 'for every input the law returns true; each argument reads behind the call as it read before'; 0 by the template 'total and deterministic' (their statements: Qxb6623266aTotals.lean).
  GIVEN WITH THE SEED: the statements are not yours to turn. If you find one false, say at which input.
  Laid BY PROGRAM, IN A SANDBOX (cutbox-rows.mjs): the forced cells as the released guide's own fill.sh prints them over the translation 4236b6c8ab18b12d… (all of the seat's roots in one cut). By AI agents, Wed Nov 11 2026. No macro, syntax, notation, axiom, sorry.
-/
import Derived.Test.Qxb6623266aChecked
import GoSem.Claim
import GoSem.ClaimJoined
import GoSem.ClaimMapViews
import Derived.JoinedTies
import Derived.KernelRfl
namespace Go.Proofs.Qxb6623266a
/- THE CELL 'sum', in the pinned program and in every row, IS THE sha256 OF THE DUMP (.gsa) THAT Qxb6623266aProg.lean LOADS. Nothing in Lean hashes anything: it is a label: what it is worth is what the hold of that sum in a sandbox is worth. -/
noncomputable def Try.pinned : Pinned := { name := "qxb6623266a", sum := "4236b6c8ab18b12d018cf175a1067eb4eb98f4442689e5ecb54f210203f071f1", checked := Try.checked }
namespace Rows
def none {H : Type} : Left H := { results := [], args := [] }

/-- 'zzlaws_root_b1.FnCharOffsetCut': WHATEVER THE INPUT: true; the input reads as it did. -/
def fnCharOffsetCutSpec : ChangeSpec := { name := "fnCharOffsetCut", fn := fun _ => fun
  | [d1, d2, d3] => { results := [.lit (.bool true)], args := [d1, d2, d3] }
  | _ => none }
def fnCharOffsetCutRow : OpenClaim := { program := "qxb6623266a", sum := "4236b6c8ab18b12d018cf175a1067eb4eb98f4442689e5ecb54f210203f071f1", func := "example.com/net4/net4/zzlaws_root_b1.FnCharOffsetCut", spec := "fnCharOffsetCut", apart := false }
def FnCharOffsetCutSaid : Prop := fnCharOffsetCutRow.holds Try.pinned (OpenSpec.ofChange fnCharOffsetCutSpec)

/-- ITS FALSE NEIGHBOUR: 'it returns false'. Refute it at one input. -/
def fnCharOffsetCutWrong : ChangeSpec := { name := "fnCharOffsetCut", fn := fun _ => fun
  | [d1, d2, d3] => { results := [.lit (.bool false)], args := [d1, d2, d3] }
  | _ => none }
def FnCharOffsetCutWrongFalsely : Prop := fnCharOffsetCutRow.holds Try.pinned (OpenSpec.ofChange fnCharOffsetCutWrong)

/-- 'zzlaws_root_b1.FnCharOffsetCounts': WHATEVER THE INPUT: true; the input reads as it did. -/
def fnCharOffsetCountsSpec : ChangeSpec := { name := "fnCharOffsetCounts", fn := fun _ => fun
  | [d1, d2] => { results := [.lit (.bool true)], args := [d1, d2] }
  | _ => none }
def fnCharOffsetCountsRow : OpenClaim := { program := "qxb6623266a", sum := "4236b6c8ab18b12d018cf175a1067eb4eb98f4442689e5ecb54f210203f071f1", func := "example.com/net4/net4/zzlaws_root_b1.FnCharOffsetCounts", spec := "fnCharOffsetCounts", apart := false }
def FnCharOffsetCountsSaid : Prop := fnCharOffsetCountsRow.holds Try.pinned (OpenSpec.ofChange fnCharOffsetCountsSpec)

/-- ITS FALSE NEIGHBOUR: 'it returns false'. Refute it at one input. -/
def fnCharOffsetCountsWrong : ChangeSpec := { name := "fnCharOffsetCounts", fn := fun _ => fun
  | [d1, d2] => { results := [.lit (.bool false)], args := [d1, d2] }
  | _ => none }
def FnCharOffsetCountsWrongFalsely : Prop := fnCharOffsetCountsRow.holds Try.pinned (OpenSpec.ofChange fnCharOffsetCountsWrong)

end Rows
end Go.Proofs.Qxb6623266a
