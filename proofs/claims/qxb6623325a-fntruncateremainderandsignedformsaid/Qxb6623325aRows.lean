/-
  No cell of these rows narrows 'for every input' (looked for: loops, veiled, ifaces, maps, wideKeys, modest, calm, conditions, laid).
  DERIVED. THE GIVEN ROWS OF THIS SEAT. 1 by the template 'for every input the law returns true; each argument reads behind the call as it read before'; 0 by the template 'total and deterministic' (their statements: Qxb6623325aTotals.lean).
  GIVEN WITH THE SEED: the statements are not yours to turn. If you find one false, say at which input.
  Laid BY PROGRAM, IN A SANDBOX (cutbox-rows.mjs): the forced cells as the released guide's own fill.sh prints them over the translation 2155e2e41f350714… (all of the seat's roots in one cut). By AI agents, Wed Nov 11 2026. No macro, syntax, notation, axiom, sorry.
-/
import Derived.Test.Qxb6623325aChecked
import GoSem.Claim
import GoSem.ClaimJoined
import GoSem.ClaimMapViews
import Derived.JoinedTies
import Derived.KernelRfl
namespace Go.Proofs.Qxb6623325a
/- THE CELL 'sum', in the pinned program and in every row, IS THE sha256 OF THE DUMP (.gsa) THAT Qxb6623325aProg.lean LOADS. Nothing in Lean hashes anything: it is a label: what it is worth is what the hold of that sum in a sandbox is worth. -/
noncomputable def Try.pinned : Pinned := { name := "qxb6623325a", sum := "2155e2e41f35071422ae974a9e83d9bbd08a01c60fcdd3d35914eaeb07fcc9a5", checked := Try.checked }
namespace Rows
def none {H : Type} : Left H := { results := [], args := [] }

/-- 'zzlaws_cdecl_b1.FnTruncateRemainderAndSignedForm': WHATEVER THE INPUT: true; the input reads as it did. -/
def fnTruncateRemainderAndSignedFormSpec : ChangeSpec := { name := "fnTruncateRemainderAndSignedForm", fn := fun _ => fun
  | [d1, d2, d3] => { results := [.lit (.bool true)], args := [d1, d2, d3] }
  | _ => none }
def fnTruncateRemainderAndSignedFormRow : OpenClaim := { program := "qxb6623325a", sum := "2155e2e41f35071422ae974a9e83d9bbd08a01c60fcdd3d35914eaeb07fcc9a5", func := "example.com/ferrule/ferrule/zzlaws_cdecl_b1.FnTruncateRemainderAndSignedForm", spec := "fnTruncateRemainderAndSignedForm", apart := false }
def FnTruncateRemainderAndSignedFormSaid : Prop := fnTruncateRemainderAndSignedFormRow.holds Try.pinned (OpenSpec.ofChange fnTruncateRemainderAndSignedFormSpec)

/-- ITS FALSE NEIGHBOUR: 'it returns false'. Refute it at one input. -/
def fnTruncateRemainderAndSignedFormWrong : ChangeSpec := { name := "fnTruncateRemainderAndSignedForm", fn := fun _ => fun
  | [d1, d2, d3] => { results := [.lit (.bool false)], args := [d1, d2, d3] }
  | _ => none }
def FnTruncateRemainderAndSignedFormWrongFalsely : Prop := fnTruncateRemainderAndSignedFormRow.holds Try.pinned (OpenSpec.ofChange fnTruncateRemainderAndSignedFormWrong)

end Rows
end Go.Proofs.Qxb6623325a
