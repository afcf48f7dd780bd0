/-
  No cell of these rows narrows 'for every input' (looked for: loops, veiled, ifaces, maps, wideKeys, modest, calm, conditions, laid).
  DERIVED. THE GIVEN ROWS OF THIS SEAT. 2 by the template 'for every input the law returns true; each argument reads behind the call as it read before'; 0 by the template 'total and deterministic' (their statements: Qxb6623273aTotals.lean).
  GIVEN WITH THE SEED: the statements are not yours to turn. If you find one false, say at which input.
  Laid BY PROGRAM, IN A SANDBOX (cutbox-rows.mjs): the forced cells as the released guide's own fill.sh prints them over the translation 219753a6790213af… (all of the seat's roots in one cut). By AI agents, Wed Nov 11 2026. No macro, syntax, notation, axiom, sorry.
-/
import Derived.Test.Qxb6623273aChecked
import GoSem.Claim
import GoSem.ClaimJoined
import GoSem.ClaimMapViews
import Derived.JoinedTies
import Derived.KernelRfl
namespace Go.Proofs.Qxb6623273a
/- THE CELL 'sum', in the pinned program and in every row, IS THE sha256 OF THE DUMP (.gsa) THAT Qxb6623273aProg.lean LOADS. Nothing in Lean hashes anything: it is a label: what it is worth is what the hold of that sum in a sandbox is worth. -/
noncomputable def Try.pinned : Pinned := { name := "qxb6623273a", sum := "219753a6790213afed342fac08942ceb58589f08393d3a3715f1487f7a43b044", checked := Try.checked }
namespace Rows
def none {H : Type} : Left H := { results := [], args := [] }

/-- 'zzlaws_root_b1.FnMarkEntryTwoSlotsCommute': WHATEVER THE INPUT: true; the input reads as it did. -/
def fnMarkEntryTwoSlotsCommuteSpec : ChangeSpec := { name := "fnMarkEntryTwoSlotsCommute", fn := fun _ => fun
  | [d1, d2, d3, d4, d5] => { results := [.lit (.bool true)], args := [d1, d2, d3, d4, d5] }
  | _ => none }
def fnMarkEntryTwoSlotsCommuteRow : OpenClaim := { program := "qxb6623273a", sum := "219753a6790213afed342fac08942ceb58589f08393d3a3715f1487f7a43b044", func := "example.com/coroutine-scheduler/coroutine-scheduler/zzlaws_root_b1.FnMarkEntryTwoSlotsCommute", spec := "fnMarkEntryTwoSlotsCommute", apart := false }
def FnMarkEntryTwoSlotsCommuteSaid : Prop := fnMarkEntryTwoSlotsCommuteRow.holds Try.pinned (OpenSpec.ofChange fnMarkEntryTwoSlotsCommuteSpec)

/-- ITS FALSE NEIGHBOUR: 'it returns false'. Refute it at one input. -/
def fnMarkEntryTwoSlotsCommuteWrong : ChangeSpec := { name := "fnMarkEntryTwoSlotsCommute", fn := fun _ => fun
  | [d1, d2, d3, d4, d5] => { results := [.lit (.bool false)], args := [d1, d2, d3, d4, d5] }
  | _ => none }
def FnMarkEntryTwoSlotsCommuteWrongFalsely : Prop := fnMarkEntryTwoSlotsCommuteRow.holds Try.pinned (OpenSpec.ofChange fnMarkEntryTwoSlotsCommuteWrong)

/-- 'zzlaws_root_b1.FnMarkEntryRestoreUndoes': WHATEVER THE INPUT: true; the input reads as it did. -/
def fnMarkEntryRestoreUndoesSpec : ChangeSpec := { name := "fnMarkEntryRestoreUndoes", fn := fun _ => fun
  | [d1, d2, d3] => { results := [.lit (.bool true)], args := [d1, d2, d3] }
  | _ => none }
def fnMarkEntryRestoreUndoesRow : OpenClaim := { program := "qxb6623273a", sum := "219753a6790213afed342fac08942ceb58589f08393d3a3715f1487f7a43b044", func := "example.com/coroutine-scheduler/coroutine-scheduler/zzlaws_root_b1.FnMarkEntryRestoreUndoes", spec := "fnMarkEntryRestoreUndoes", apart := false }
def FnMarkEntryRestoreUndoesSaid : Prop := fnMarkEntryRestoreUndoesRow.holds Try.pinned (OpenSpec.ofChange fnMarkEntryRestoreUndoesSpec)

/-- ITS FALSE NEIGHBOUR: 'it returns false'. Refute it at one input. -/
def fnMarkEntryRestoreUndoesWrong : ChangeSpec := { name := "fnMarkEntryRestoreUndoes", fn := fun _ => fun
  | [d1, d2, d3] => { results := [.lit (.bool false)], args := [d1, d2, d3] }
  | _ => none }
def FnMarkEntryRestoreUndoesWrongFalsely : Prop := fnMarkEntryRestoreUndoesRow.holds Try.pinned (OpenSpec.ofChange fnMarkEntryRestoreUndoesWrong)

end Rows
end Go.Proofs.Qxb6623273a
