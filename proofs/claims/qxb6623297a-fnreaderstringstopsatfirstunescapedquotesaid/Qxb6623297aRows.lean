/-
  No cell of these rows narrows 'for every input' (looked for: loops, veiled, ifaces, maps, wideKeys, modest, calm, conditions, laid).
  DERIVED. THE GIVEN ROWS OF THIS SEAT. 1 by the template 'for every input the law returns true; each argument reads behind the call as it read before'; 0 by the template 'total and deterministic' (their statements: Qxb6623297aTotals.lean).
  GIVEN WITH THE SEED: the statements are not yours to turn. If you find one false, say at which input.
  Laid BY PROGRAM, IN A SANDBOX (cutbox-rows.mjs): the forced cells as the released guide's own fill.sh prints them over the translation e99d37f0936884f8… (all of the seat's roots in one cut). By AI agents, Wed Nov 11 2026. No macro, syntax, notation, axiom, sorry.
-/
import Derived.Test.Qxb6623297aChecked
import GoSem.Claim
import GoSem.ClaimJoined
import GoSem.ClaimMapViews
import Derived.JoinedTies
import Derived.KernelRfl
namespace Go.Proofs.Qxb6623297a
/- THE CELL 'sum', in the pinned program and in every row, IS THE sha256 OF THE DUMP (.gsa) THAT Qxb6623297aProg.lean LOADS. Nothing in Lean hashes anything: it is a label: what it is worth is what the hold of that sum in a sandbox is worth. -/
noncomputable def Try.pinned : Pinned := { name := "qxb6623297a", sum := "e99d37f0936884f823cbfb32c0bde0951a0a3400a1102c690a241dd3cd3171d1", checked := Try.checked }
namespace Rows
def none {H : Type} : Left H := { results := [], args := [] }

/-- 'zzlaws_internal_jsonexact_b1.FnReaderStringStopsAtFirstUnescapedQuote': WHATEVER THE INPUT: true; the input reads as it did. -/
def fnReaderStringStopsAtFirstUnescapedQuoteSpec : ChangeSpec := { name := "fnReaderStringStopsAtFirstUnescapedQuote", fn := fun _ => fun
  | [d1, d2, d3, d4] => { results := [.lit (.bool true)], args := [d1, d2, d3, d4] }
  | _ => none }
def fnReaderStringStopsAtFirstUnescapedQuoteRow : OpenClaim := { program := "qxb6623297a", sum := "e99d37f0936884f823cbfb32c0bde0951a0a3400a1102c690a241dd3cd3171d1", func := "example.com/graphsmith/graphsmith/zzlaws_internal_jsonexact_b1.FnReaderStringStopsAtFirstUnescapedQuote", spec := "fnReaderStringStopsAtFirstUnescapedQuote", apart := false }
def FnReaderStringStopsAtFirstUnescapedQuoteSaid : Prop := fnReaderStringStopsAtFirstUnescapedQuoteRow.holds Try.pinned (OpenSpec.ofChange fnReaderStringStopsAtFirstUnescapedQuoteSpec)

/-- ITS FALSE NEIGHBOUR: 'it returns false'. Refute it at one input. -/
def fnReaderStringStopsAtFirstUnescapedQuoteWrong : ChangeSpec := { name := "fnReaderStringStopsAtFirstUnescapedQuote", fn := fun _ => fun
  | [d1, d2, d3, d4] => { results := [.lit (.bool false)], args := [d1, d2, d3, d4] }
  | _ => none }
def FnReaderStringStopsAtFirstUnescapedQuoteWrongFalsely : Prop := fnReaderStringStopsAtFirstUnescapedQuoteRow.holds Try.pinned (OpenSpec.ofChange fnReaderStringStopsAtFirstUnescapedQuoteWrong)

end Rows
end Go.Proofs.Qxb6623297a
