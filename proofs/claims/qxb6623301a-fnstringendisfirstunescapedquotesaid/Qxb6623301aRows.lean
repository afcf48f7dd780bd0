/-
  No cell of these rows narrows 'for every input' (looked for: loops, veiled, ifaces, maps, wideKeys, modest, calm, conditions, laid).
  DERIVED. THE GIVEN ROWS OF THIS SEAT. 1 by the template 'for every input the law returns true; each argument reads behind the call as it read before'; 0 by the template 'total and deterministic' (their statements: Qxb6623301aTotals.lean).
  GIVEN WITH THE SEED: the statements are not yours to turn. If you find one false, say at which input.
  Laid BY PROGRAM, IN A SANDBOX (cutbox-rows.mjs): the forced cells as the released guide's own fill.sh prints them over the translation d5cfab3521e22e99… (all of the seat's roots in one cut). By AI agents, Wed Nov 11 2026. No macro, syntax, notation, axiom, sorry.
-/
import Derived.Test.Qxb6623301aChecked
import GoSem.Claim
import GoSem.ClaimJoined
import GoSem.ClaimMapViews
import Derived.JoinedTies
import Derived.KernelRfl
namespace Go.Proofs.Qxb6623301a
/- THE CELL 'sum', in the pinned program and in every row, IS THE sha256 OF THE DUMP (.gsa) THAT Qxb6623301aProg.lean LOADS. Nothing in Lean hashes anything: it is a label: what it is worth is what the hold of that sum in a sandbox is worth. -/
noncomputable def Try.pinned : Pinned := { name := "qxb6623301a", sum := "d5cfab3521e22e998fd0f8f60e589cc15630fa5f910377693e0523d018a81968", checked := Try.checked }
namespace Rows
def none {H : Type} : Left H := { results := [], args := [] }

/-- 'zzlaws_internal_limit_b1.FnStringEndIsFirstUnescapedQuote': WHATEVER THE INPUT: true; the input reads as it did. -/
def fnStringEndIsFirstUnescapedQuoteSpec : ChangeSpec := { name := "fnStringEndIsFirstUnescapedQuote", fn := fun _ => fun
  | [d1, d2, d3, d4] => { results := [.lit (.bool true)], args := [d1, d2, d3, d4] }
  | _ => none }
def fnStringEndIsFirstUnescapedQuoteRow : OpenClaim := { program := "qxb6623301a", sum := "d5cfab3521e22e998fd0f8f60e589cc15630fa5f910377693e0523d018a81968", func := "example.com/attestry/attestry/zzlaws_internal_limit_b1.FnStringEndIsFirstUnescapedQuote", spec := "fnStringEndIsFirstUnescapedQuote", apart := false }
def FnStringEndIsFirstUnescapedQuoteSaid : Prop := fnStringEndIsFirstUnescapedQuoteRow.holds Try.pinned (OpenSpec.ofChange fnStringEndIsFirstUnescapedQuoteSpec)

/-- ITS FALSE NEIGHBOUR: 'it returns false'. Refute it at one input. -/
def fnStringEndIsFirstUnescapedQuoteWrong : ChangeSpec := { name := "fnStringEndIsFirstUnescapedQuote", fn := fun _ => fun
  | [d1, d2, d3, d4] => { results := [.lit (.bool false)], args := [d1, d2, d3, d4] }
  | _ => none }
def FnStringEndIsFirstUnescapedQuoteWrongFalsely : Prop := fnStringEndIsFirstUnescapedQuoteRow.holds Try.pinned (OpenSpec.ofChange fnStringEndIsFirstUnescapedQuoteWrong)

end Rows
end Go.Proofs.Qxb6623301a
