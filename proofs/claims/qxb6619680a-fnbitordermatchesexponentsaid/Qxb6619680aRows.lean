/-
  No cell of these rows narrows 'for every input' (looked for: loops, veiled, ifaces, maps, wideKeys, modest, calm, conditions, laid).
  DERIVED. THE GIVEN ROWS OF THIS SEAT. 3 by the template 'for every input the law returns true; each argument reads behind the call as it read before'; 0 by the template 'total and deterministic' (their statements: Qxb6619680aTotals.lean).
  GIVEN WITH THE SEED: the statements are not yours to turn. If you find one false, say at which input.
  Laid BY PROGRAM, IN A SANDBOX (cutbox-rows.mjs): the forced cells as the released guide's own fill.sh prints them over the translation 8a6b6d7624b7a2f9… (all of the seat's roots in one cut). By AI agents, Wed Nov 11 2026. No macro, syntax, notation, axiom, sorry.
-/
import Derived.Test.Qxb6619680aChecked
import GoSem.Claim
import GoSem.ClaimJoined
import GoSem.ClaimMapViews
import Derived.JoinedTies
import Derived.KernelRfl
namespace Go.Proofs.Qxb6619680a
/- THE CELL 'sum', in the pinned program and in every row, IS THE sha256 OF THE DUMP (.gsa) THAT Qxb6619680aProg.lean LOADS. Nothing in Lean hashes anything: it is a label: what it is worth is what the hold of that sum in a sandbox is worth. -/
noncomputable def Try.pinned : Pinned := { name := "qxb6619680a", sum := "8a6b6d7624b7a2f9c74a64bf5615c165cce16f8f51c6e1e6a2b986982640a7fa", checked := Try.checked }
namespace Rows
def none {H : Type} : Left H := { results := [], args := [] }

/-- 'zzlaws_root_b1.FnBitIsOneDoubledJTimes': WHATEVER THE INPUT: true; the input reads as it did. -/
def fnBitIsOneDoubledJTimesSpec : ChangeSpec := { name := "fnBitIsOneDoubledJTimes", fn := fun _ => fun
  | [d] => { results := [.lit (.bool true)], args := [d] }
  | _ => none }
def fnBitIsOneDoubledJTimesRow : OpenClaim := { program := "qxb6619680a", sum := "8a6b6d7624b7a2f9c74a64bf5615c165cce16f8f51c6e1e6a2b986982640a7fa", func := "example.com/ringwright/ringwright/zzlaws_root_b1.FnBitIsOneDoubledJTimes", spec := "fnBitIsOneDoubledJTimes", apart := false }
def FnBitIsOneDoubledJTimesSaid : Prop := fnBitIsOneDoubledJTimesRow.holds Try.pinned (OpenSpec.ofChange fnBitIsOneDoubledJTimesSpec)

/-- ITS FALSE NEIGHBOUR: 'it returns false'. Refute it at one input. -/
def fnBitIsOneDoubledJTimesWrong : ChangeSpec := { name := "fnBitIsOneDoubledJTimes", fn := fun _ => fun
  | [d] => { results := [.lit (.bool false)], args := [d] }
  | _ => none }
def FnBitIsOneDoubledJTimesWrongFalsely : Prop := fnBitIsOneDoubledJTimesRow.holds Try.pinned (OpenSpec.ofChange fnBitIsOneDoubledJTimesWrong)

/-- 'zzlaws_root_b1.FnBitOrderMatchesExponent': WHATEVER THE INPUT: true; the input reads as it did. -/
def fnBitOrderMatchesExponentSpec : ChangeSpec := { name := "fnBitOrderMatchesExponent", fn := fun _ => fun
  | [d1, d2] => { results := [.lit (.bool true)], args := [d1, d2] }
  | _ => none }
def fnBitOrderMatchesExponentRow : OpenClaim := { program := "qxb6619680a", sum := "8a6b6d7624b7a2f9c74a64bf5615c165cce16f8f51c6e1e6a2b986982640a7fa", func := "example.com/ringwright/ringwright/zzlaws_root_b1.FnBitOrderMatchesExponent", spec := "fnBitOrderMatchesExponent", apart := false }
def FnBitOrderMatchesExponentSaid : Prop := fnBitOrderMatchesExponentRow.holds Try.pinned (OpenSpec.ofChange fnBitOrderMatchesExponentSpec)

/-- ITS FALSE NEIGHBOUR: 'it returns false'. Refute it at one input. -/
def fnBitOrderMatchesExponentWrong : ChangeSpec := { name := "fnBitOrderMatchesExponent", fn := fun _ => fun
  | [d1, d2] => { results := [.lit (.bool false)], args := [d1, d2] }
  | _ => none }
def FnBitOrderMatchesExponentWrongFalsely : Prop := fnBitOrderMatchesExponentRow.holds Try.pinned (OpenSpec.ofChange fnBitOrderMatchesExponentWrong)

/-- 'zzlaws_root_b1.FnNoticeRoomIsGreatestFitAndStep': WHATEVER THE INPUT: true; the input reads as it did. -/
def fnNoticeRoomIsGreatestFitAndStepSpec : ChangeSpec := { name := "fnNoticeRoomIsGreatestFitAndStep", fn := fun _ => fun
  | [d1, d2] => { results := [.lit (.bool true)], args := [d1, d2] }
  | _ => none }
def fnNoticeRoomIsGreatestFitAndStepRow : OpenClaim := { program := "qxb6619680a", sum := "8a6b6d7624b7a2f9c74a64bf5615c165cce16f8f51c6e1e6a2b986982640a7fa", func := "example.com/ringwright/ringwright/zzlaws_root_b1.FnNoticeRoomIsGreatestFitAndStep", spec := "fnNoticeRoomIsGreatestFitAndStep", apart := false }
def FnNoticeRoomIsGreatestFitAndStepSaid : Prop := fnNoticeRoomIsGreatestFitAndStepRow.holds Try.pinned (OpenSpec.ofChange fnNoticeRoomIsGreatestFitAndStepSpec)

/-- ITS FALSE NEIGHBOUR: 'it returns false'. Refute it at one input. -/
def fnNoticeRoomIsGreatestFitAndStepWrong : ChangeSpec := { name := "fnNoticeRoomIsGreatestFitAndStep", fn := fun _ => fun
  | [d1, d2] => { results := [.lit (.bool false)], args := [d1, d2] }
  | _ => none }
def FnNoticeRoomIsGreatestFitAndStepWrongFalsely : Prop := fnNoticeRoomIsGreatestFitAndStepRow.holds Try.pinned (OpenSpec.ofChange fnNoticeRoomIsGreatestFitAndStepWrong)

end Rows
end Go.Proofs.Qxb6619680a
