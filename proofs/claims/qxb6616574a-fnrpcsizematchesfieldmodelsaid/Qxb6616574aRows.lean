/-
  No cell of these rows narrows 'for every input' (looked for: loops, veiled, ifaces, maps, wideKeys, modest, calm, conditions, laid).
  DERIVED. THE GIVEN ROWS OF THIS SEAT. 2 by the template 'for every input the law returns true; each argument reads behind the call as it read before'; 0 by the template 'total and deterministic' (their statements: Qxb6616574aTotals.lean).
  GIVEN WITH THE SEED: the statements are not yours to turn. If you find one false, say at which input.
  Laid BY PROGRAM, IN A SANDBOX (cutbox-rows.mjs): the forced cells as the released guide's own fill.sh prints them over the translation d39e6a145895c8c0… (all of the seat's roots in one cut). By AI agents, Wed Nov 11 2026. No macro, syntax, notation, axiom, sorry.
-/
import Derived.Test.Qxb6616574aChecked
import GoSem.Claim
import GoSem.ClaimJoined
import GoSem.ClaimMapViews
import Derived.JoinedTies
import Derived.KernelRfl
namespace Go.Proofs.Qxb6616574a
/- THE CELL 'sum', in the pinned program and in every row, IS THE sha256 OF THE DUMP (.gsa) THAT Qxb6616574aProg.lean LOADS. Nothing in Lean hashes anything: it is a label: what it is worth is what the hold of that sum in a sandbox is worth. -/
noncomputable def Try.pinned : Pinned := { name := "qxb6616574a", sum := "d39e6a145895c8c0db4cea376cbdde241484d4a1e501e93cba8d5d5de524ab0f", checked := Try.checked }
namespace Rows
def none {H : Type} : Left H := { results := [], args := [] }

/-- 'zzlaws_wire_b1.FnRPCSizeMatchesFieldModel': WHATEVER THE INPUT: true; the input reads as it did. -/
def fnRPCSizeMatchesFieldModelSpec : ChangeSpec := { name := "fnRPCSizeMatchesFieldModel", fn := fun _ => fun
  | [d1, d2, d3] => { results := [.lit (.bool true)], args := [d1, d2, d3] }
  | _ => none }
def fnRPCSizeMatchesFieldModelRow : OpenClaim := { program := "qxb6616574a", sum := "d39e6a145895c8c0db4cea376cbdde241484d4a1e501e93cba8d5d5de524ab0f", func := "example.com/embermesh/embermesh/zzlaws_wire_b1.FnRPCSizeMatchesFieldModel", spec := "fnRPCSizeMatchesFieldModel", unfollowed := true, recurses := true, apart := false }
def FnRPCSizeMatchesFieldModelSaid : Prop := fnRPCSizeMatchesFieldModelRow.holds Try.pinned (OpenSpec.ofChange fnRPCSizeMatchesFieldModelSpec)

/-- ITS FALSE NEIGHBOUR: 'it returns false'. Refute it at one input. -/
def fnRPCSizeMatchesFieldModelWrong : ChangeSpec := { name := "fnRPCSizeMatchesFieldModel", fn := fun _ => fun
  | [d1, d2, d3] => { results := [.lit (.bool false)], args := [d1, d2, d3] }
  | _ => none }
def FnRPCSizeMatchesFieldModelWrongFalsely : Prop := fnRPCSizeMatchesFieldModelRow.holds Try.pinned (OpenSpec.ofChange fnRPCSizeMatchesFieldModelWrong)

/-- 'zzlaws_wire_b1.FnRPCSizeSplitsAdditively': WHATEVER THE INPUT: true; the input reads as it did. -/
def fnRPCSizeSplitsAdditivelySpec : ChangeSpec := { name := "fnRPCSizeSplitsAdditively", fn := fun _ => fun
  | [d1, d2, d3, d4, d5] => { results := [.lit (.bool true)], args := [d1, d2, d3, d4, d5] }
  | _ => none }
def fnRPCSizeSplitsAdditivelyRow : OpenClaim := { program := "qxb6616574a", sum := "d39e6a145895c8c0db4cea376cbdde241484d4a1e501e93cba8d5d5de524ab0f", func := "example.com/embermesh/embermesh/zzlaws_wire_b1.FnRPCSizeSplitsAdditively", spec := "fnRPCSizeSplitsAdditively", unfollowed := true, recurses := true, apart := false }
def FnRPCSizeSplitsAdditivelySaid : Prop := fnRPCSizeSplitsAdditivelyRow.holds Try.pinned (OpenSpec.ofChange fnRPCSizeSplitsAdditivelySpec)

/-- ITS FALSE NEIGHBOUR: 'it returns false'. Refute it at one input. -/
def fnRPCSizeSplitsAdditivelyWrong : ChangeSpec := { name := "fnRPCSizeSplitsAdditively", fn := fun _ => fun
  | [d1, d2, d3, d4, d5] => { results := [.lit (.bool false)], args := [d1, d2, d3, d4, d5] }
  | _ => none }
def FnRPCSizeSplitsAdditivelyWrongFalsely : Prop := fnRPCSizeSplitsAdditivelyRow.holds Try.pinned (OpenSpec.ofChange fnRPCSizeSplitsAdditivelyWrong)

end Rows
end Go.Proofs.Qxb6616574a
