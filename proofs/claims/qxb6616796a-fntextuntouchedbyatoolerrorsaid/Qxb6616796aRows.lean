/-
  No cell of these rows narrows 'for every input' (looked for: loops, veiled, ifaces, maps, wideKeys, modest, calm, conditions, laid).
  DERIVED. THE GIVEN ROWS OF THIS SEAT. 3 by the template 'for every input the law returns true; each argument reads behind the call as it read before'; 0 by the template 'total and deterministic' (their statements: Qxb6616796aTotals.lean).
  GIVEN WITH THE SEED: the statements are not yours to turn. If you find one false, say at which input.
  Laid BY PROGRAM, IN A SANDBOX (cutbox-rows.mjs): the forced cells as the released guide's own fill.sh prints them over the translation 183cd90bbc051b2b… (all of the seat's roots in one cut). By AI agents, Wed Nov 11 2026. No macro, syntax, notation, axiom, sorry.
-/
import Derived.Test.Qxb6616796aChecked
import GoSem.Claim
import GoSem.ClaimJoined
import GoSem.ClaimMapViews
import Derived.JoinedTies
import Derived.KernelRfl
namespace Go.Proofs.Qxb6616796a
/- THE CELL 'sum', in the pinned program and in every row, IS THE sha256 OF THE DUMP (.gsa) THAT Qxb6616796aProg.lean LOADS. Nothing in Lean hashes anything: it is a label: what it is worth is what the hold of that sum in a sandbox is worth. -/
noncomputable def Try.pinned : Pinned := { name := "qxb6616796a", sum := "183cd90bbc051b2bb773bc3f1f8dc301cc427278d22872cd131967ec3682ab44", checked := Try.checked }
namespace Rows
def none {H : Type} : Left H := { results := [], args := [] }

/-- 'zzlaws_internal_uimessage_b1.FnStepStartIsJustAfterTheLastStepStart': WHATEVER THE INPUT: true; the input reads as it did. -/
def fnStepStartIsJustAfterTheLastStepStartSpec : ChangeSpec := { name := "fnStepStartIsJustAfterTheLastStepStart", fn := fun _ => fun
  | [d1, d2] => { results := [.lit (.bool true)], args := [d1, d2] }
  | _ => none }
def fnStepStartIsJustAfterTheLastStepStartRow : OpenClaim := { program := "qxb6616796a", sum := "183cd90bbc051b2bb773bc3f1f8dc301cc427278d22872cd131967ec3682ab44", func := "example.com/orderly-relay/orderly-relay/zzlaws_internal_uimessage_b1.FnStepStartIsJustAfterTheLastStepStart", spec := "fnStepStartIsJustAfterTheLastStepStart", apart := false }
def FnStepStartIsJustAfterTheLastStepStartSaid : Prop := fnStepStartIsJustAfterTheLastStepStartRow.holds Try.pinned (OpenSpec.ofChange fnStepStartIsJustAfterTheLastStepStartSpec)

/-- ITS FALSE NEIGHBOUR: 'it returns false'. Refute it at one input. -/
def fnStepStartIsJustAfterTheLastStepStartWrong : ChangeSpec := { name := "fnStepStartIsJustAfterTheLastStepStart", fn := fun _ => fun
  | [d1, d2] => { results := [.lit (.bool false)], args := [d1, d2] }
  | _ => none }
def FnStepStartIsJustAfterTheLastStepStartWrongFalsely : Prop := fnStepStartIsJustAfterTheLastStepStartRow.holds Try.pinned (OpenSpec.ofChange fnStepStartIsJustAfterTheLastStepStartWrong)

/-- 'zzlaws_internal_uimessage_b1.FnTextOfATextPartPutInAnywhere': WHATEVER THE INPUT: true; the input reads as it did. -/
def fnTextOfATextPartPutInAnywhereSpec : ChangeSpec := { name := "fnTextOfATextPartPutInAnywhere", fn := fun _ => fun
  | [d1, d2, d3] => { results := [.lit (.bool true)], args := [d1, d2, d3] }
  | _ => none }
def fnTextOfATextPartPutInAnywhereRow : OpenClaim := { program := "qxb6616796a", sum := "183cd90bbc051b2bb773bc3f1f8dc301cc427278d22872cd131967ec3682ab44", func := "example.com/orderly-relay/orderly-relay/zzlaws_internal_uimessage_b1.FnTextOfATextPartPutInAnywhere", spec := "fnTextOfATextPartPutInAnywhere", inPlace := ["internal/abi.NoEscape"], apart := false }
def FnTextOfATextPartPutInAnywhereSaid : Prop := fnTextOfATextPartPutInAnywhereRow.holds Try.pinned (OpenSpec.ofChange fnTextOfATextPartPutInAnywhereSpec)

/-- ITS FALSE NEIGHBOUR: 'it returns false'. Refute it at one input. -/
def fnTextOfATextPartPutInAnywhereWrong : ChangeSpec := { name := "fnTextOfATextPartPutInAnywhere", fn := fun _ => fun
  | [d1, d2, d3] => { results := [.lit (.bool false)], args := [d1, d2, d3] }
  | _ => none }
def FnTextOfATextPartPutInAnywhereWrongFalsely : Prop := fnTextOfATextPartPutInAnywhereRow.holds Try.pinned (OpenSpec.ofChange fnTextOfATextPartPutInAnywhereWrong)

/-- 'zzlaws_internal_uimessage_b1.FnTextUntouchedByAToolError': WHATEVER THE INPUT: true; the input reads as it did. -/
def fnTextUntouchedByAToolErrorSpec : ChangeSpec := { name := "fnTextUntouchedByAToolError", fn := fun _ => fun
  | [d1, d2, d3, d4] => { results := [.lit (.bool true)], args := [d1, d2, d3, d4] }
  | _ => none }
def fnTextUntouchedByAToolErrorRow : OpenClaim := { program := "qxb6616796a", sum := "183cd90bbc051b2bb773bc3f1f8dc301cc427278d22872cd131967ec3682ab44", func := "example.com/orderly-relay/orderly-relay/zzlaws_internal_uimessage_b1.FnTextUntouchedByAToolError", spec := "fnTextUntouchedByAToolError", inPlace := ["internal/abi.NoEscape"], unfollowed := true, recurses := true, apart := false }
def FnTextUntouchedByAToolErrorSaid : Prop := fnTextUntouchedByAToolErrorRow.holds Try.pinned (OpenSpec.ofChange fnTextUntouchedByAToolErrorSpec)

/-- ITS FALSE NEIGHBOUR: 'it returns false'. Refute it at one input. -/
def fnTextUntouchedByAToolErrorWrong : ChangeSpec := { name := "fnTextUntouchedByAToolError", fn := fun _ => fun
  | [d1, d2, d3, d4] => { results := [.lit (.bool false)], args := [d1, d2, d3, d4] }
  | _ => none }
def FnTextUntouchedByAToolErrorWrongFalsely : Prop := fnTextUntouchedByAToolErrorRow.holds Try.pinned (OpenSpec.ofChange fnTextUntouchedByAToolErrorWrong)

end Rows
end Go.Proofs.Qxb6616796a
