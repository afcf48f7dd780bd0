/-
  No cell of these rows narrows 'for every input' (looked for: loops, veiled, ifaces, maps, wideKeys, modest, calm, conditions, laid).
  DERIVED. THE GIVEN ROWS OF THIS SEAT. 1 by the template 'for every input the law returns true; each argument reads behind the call as it read before'; 0 by the template 'total and deterministic' (their statements: Qxb6623268aTotals.lean).
  GIVEN WITH THE SEED: the statements are not yours to turn. If you find one false, say at which input.
  Laid BY PROGRAM, IN A SANDBOX (cutbox-rows.mjs): the forced cells as the released guide's own fill.sh prints them over the translation fd3609603542d014… (all of the seat's roots in one cut). By AI agents, Wed Nov 11 2026. No macro, syntax, notation, axiom, sorry.
-/
import Derived.Test.Qxb6623268aChecked
import GoSem.Claim
import GoSem.ClaimJoined
import GoSem.ClaimMapViews
import Derived.JoinedTies
import Derived.KernelRfl
namespace Go.Proofs.Qxb6623268a
/- THE CELL 'sum', in the pinned program and in every row, IS THE sha256 OF THE DUMP (.gsa) THAT Qxb6623268aProg.lean LOADS. Nothing in Lean hashes anything: it is a label: what it is worth is what the hold of that sum in a sandbox is worth. -/
noncomputable def Try.pinned : Pinned := { name := "qxb6623268a", sum := "fd3609603542d014c6521c3f71ae7a597b466f55f57802892b66674c34f5ab78", checked := Try.checked }
namespace Rows
def none {H : Type} : Left H := { results := [], args := [] }

/-- 'zzlaws_root_b1.FnKeyLogHoldCutAnywhere': WHATEVER THE INPUT: true; the input reads as it did. -/
def fnKeyLogHoldCutAnywhereSpec : ChangeSpec := { name := "fnKeyLogHoldCutAnywhere", fn := fun _ => fun
  | [d1, d2, d3, d4] => { results := [.lit (.bool true)], args := [d1, d2, d3, d4] }
  | _ => none }
def fnKeyLogHoldCutAnywhereRow : OpenClaim := { program := "qxb6623268a", sum := "fd3609603542d014c6521c3f71ae7a597b466f55f57802892b66674c34f5ab78", func := "example.com/keyloom/keyloom/zzlaws_root_b1.FnKeyLogHoldCutAnywhere", spec := "fnKeyLogHoldCutAnywhere", apart := false }
def FnKeyLogHoldCutAnywhereSaid : Prop := fnKeyLogHoldCutAnywhereRow.holds Try.pinned (OpenSpec.ofChange fnKeyLogHoldCutAnywhereSpec)

/-- ITS FALSE NEIGHBOUR: 'it returns false'. Refute it at one input. -/
def fnKeyLogHoldCutAnywhereWrong : ChangeSpec := { name := "fnKeyLogHoldCutAnywhere", fn := fun _ => fun
  | [d1, d2, d3, d4] => { results := [.lit (.bool false)], args := [d1, d2, d3, d4] }
  | _ => none }
def FnKeyLogHoldCutAnywhereWrongFalsely : Prop := fnKeyLogHoldCutAnywhereRow.holds Try.pinned (OpenSpec.ofChange fnKeyLogHoldCutAnywhereWrong)

end Rows
end Go.Proofs.Qxb6623268a
