/-
  No cell of these rows narrows 'for every input' (looked for: loops, veiled, ifaces, maps, wideKeys, modest, calm, conditions, laid).
  DERIVED. THE GIVEN ROWS OF THIS SEAT. 7 by the template 'for every input the law returns true; each argument reads behind the call as it read before'; 0 by the template 'total and deterministic' (their statements: Qxb6616692aTotals.lean).
  GIVEN WITH THE SEED: the statements are not yours to turn. If you find one false, say at which input.
  Laid BY PROGRAM, IN A SANDBOX (cutbox-rows.mjs): the forced cells as the released guide's own fill.sh prints them over the translation 6fa1231ead1abc61… (all of the seat's roots in one cut). By AI agents, Wed Nov 11 2026. No macro, syntax, notation, axiom, sorry.
-/
import Derived.Test.Qxb6616692aChecked
import GoSem.Claim
import GoSem.ClaimJoined
import GoSem.ClaimMapViews
import Derived.JoinedTies
import Derived.KernelRfl
namespace Go.Proofs.Qxb6616692a
/- THE CELL 'sum', in the pinned program and in every row, IS THE sha256 OF THE DUMP (.gsa) THAT Qxb6616692aProg.lean LOADS. Nothing in Lean hashes anything: it is a label: what it is worth is what the hold of that sum in a sandbox is worth. -/
noncomputable def Try.pinned : Pinned := { name := "qxb6616692a", sum := "6fa1231ead1abc61e1cae5463e87a9135a9d83f1f10dce3146d428751e155cb3", checked := Try.checked }
namespace Rows
def none {H : Type} : Left H := { results := [], args := [] }

/-- 'zzlaws_root_b1.FnAtomicFloatStoreThenLoad': WHATEVER THE INPUT: true; the input reads as it did. -/
def fnAtomicFloatStoreThenLoadSpec : ChangeSpec := { name := "fnAtomicFloatStoreThenLoad", fn := fun _ => fun
  | [d1, d2] => { results := [.lit (.bool true)], args := [d1, d2] }
  | _ => none }
def fnAtomicFloatStoreThenLoadRow : OpenClaim := { program := "qxb6616692a", sum := "6fa1231ead1abc61e1cae5463e87a9135a9d83f1f10dce3146d428751e155cb3", func := "example.com/dial3/dial3/zzlaws_root_b1.FnAtomicFloatStoreThenLoad", spec := "fnAtomicFloatStoreThenLoad", inPlace := ["sync/atomic.StoreUint64", "math.Float64bits", "sync/atomic.LoadUint64", "math.Float64frombits"], apart := false }
def FnAtomicFloatStoreThenLoadSaid : Prop := fnAtomicFloatStoreThenLoadRow.holds Try.pinned (OpenSpec.ofChange fnAtomicFloatStoreThenLoadSpec)

/-- ITS FALSE NEIGHBOUR: 'it returns false'. Refute it at one input. -/
def fnAtomicFloatStoreThenLoadWrong : ChangeSpec := { name := "fnAtomicFloatStoreThenLoad", fn := fun _ => fun
  | [d1, d2] => { results := [.lit (.bool false)], args := [d1, d2] }
  | _ => none }
def FnAtomicFloatStoreThenLoadWrongFalsely : Prop := fnAtomicFloatStoreThenLoadRow.holds Try.pinned (OpenSpec.ofChange fnAtomicFloatStoreThenLoadWrong)

/-- 'zzlaws_root_b1.FnAtomicFloatLastStoreWins': WHATEVER THE INPUT: true; the input reads as it did. -/
def fnAtomicFloatLastStoreWinsSpec : ChangeSpec := { name := "fnAtomicFloatLastStoreWins", fn := fun _ => fun
  | [d1, d2, d3] => { results := [.lit (.bool true)], args := [d1, d2, d3] }
  | _ => none }
def fnAtomicFloatLastStoreWinsRow : OpenClaim := { program := "qxb6616692a", sum := "6fa1231ead1abc61e1cae5463e87a9135a9d83f1f10dce3146d428751e155cb3", func := "example.com/dial3/dial3/zzlaws_root_b1.FnAtomicFloatLastStoreWins", spec := "fnAtomicFloatLastStoreWins", inPlace := ["sync/atomic.StoreUint64", "math.Float64bits", "sync/atomic.LoadUint64", "math.Float64frombits"], apart := false }
def FnAtomicFloatLastStoreWinsSaid : Prop := fnAtomicFloatLastStoreWinsRow.holds Try.pinned (OpenSpec.ofChange fnAtomicFloatLastStoreWinsSpec)

/-- ITS FALSE NEIGHBOUR: 'it returns false'. Refute it at one input. -/
def fnAtomicFloatLastStoreWinsWrong : ChangeSpec := { name := "fnAtomicFloatLastStoreWins", fn := fun _ => fun
  | [d1, d2, d3] => { results := [.lit (.bool false)], args := [d1, d2, d3] }
  | _ => none }
def FnAtomicFloatLastStoreWinsWrongFalsely : Prop := fnAtomicFloatLastStoreWinsRow.holds Try.pinned (OpenSpec.ofChange fnAtomicFloatLastStoreWinsWrong)

/-- 'zzlaws_root_b1.FnAdaptiveStoreLimitMonotoneForgetsPrior': WHATEVER THE INPUT: true; the input reads as it did. -/
def fnAdaptiveStoreLimitMonotoneForgetsPriorSpec : ChangeSpec := { name := "fnAdaptiveStoreLimitMonotoneForgetsPrior", fn := fun _ => fun
  | [d1, d2, d3, d4] => { results := [.lit (.bool true)], args := [d1, d2, d3, d4] }
  | _ => none }
def fnAdaptiveStoreLimitMonotoneForgetsPriorRow : OpenClaim := { program := "qxb6616692a", sum := "6fa1231ead1abc61e1cae5463e87a9135a9d83f1f10dce3146d428751e155cb3", func := "example.com/dial3/dial3/zzlaws_root_b1.FnAdaptiveStoreLimitMonotoneForgetsPrior", spec := "fnAdaptiveStoreLimitMonotoneForgetsPrior", inPlace := ["sync/atomic.StoreUint64", "math.Float64bits", "sync/atomic.LoadUint64", "math.Float64frombits"], apart := false }
def FnAdaptiveStoreLimitMonotoneForgetsPriorSaid : Prop := fnAdaptiveStoreLimitMonotoneForgetsPriorRow.holds Try.pinned (OpenSpec.ofChange fnAdaptiveStoreLimitMonotoneForgetsPriorSpec)

/-- ITS FALSE NEIGHBOUR: 'it returns false'. Refute it at one input. -/
def fnAdaptiveStoreLimitMonotoneForgetsPriorWrong : ChangeSpec := { name := "fnAdaptiveStoreLimitMonotoneForgetsPrior", fn := fun _ => fun
  | [d1, d2, d3, d4] => { results := [.lit (.bool false)], args := [d1, d2, d3, d4] }
  | _ => none }
def FnAdaptiveStoreLimitMonotoneForgetsPriorWrongFalsely : Prop := fnAdaptiveStoreLimitMonotoneForgetsPriorRow.holds Try.pinned (OpenSpec.ofChange fnAdaptiveStoreLimitMonotoneForgetsPriorWrong)

/-- 'zzlaws_root_b1.FnLeastLatencyObserveKeepsRun': WHATEVER THE INPUT: true; the input reads as it did. -/
def fnLeastLatencyObserveKeepsRunSpec : ChangeSpec := { name := "fnLeastLatencyObserveKeepsRun", fn := fun _ => fun
  | [d1, d2, d3, d4, d5, d6, d7] => { results := [.lit (.bool true)], args := [d1, d2, d3, d4, d5, d6, d7] }
  | _ => none }
def fnLeastLatencyObserveKeepsRunRow : OpenClaim := { program := "qxb6616692a", sum := "6fa1231ead1abc61e1cae5463e87a9135a9d83f1f10dce3146d428751e155cb3", func := "example.com/dial3/dial3/zzlaws_root_b1.FnLeastLatencyObserveKeepsRun", spec := "fnLeastLatencyObserveKeepsRun", inPlace := ["math.Float64bits", "sync/atomic.StoreUint64", "sync/atomic.LoadUint64", "math.Float64frombits"], apart := false }
def FnLeastLatencyObserveKeepsRunSaid : Prop := fnLeastLatencyObserveKeepsRunRow.holds Try.pinned (OpenSpec.ofChange fnLeastLatencyObserveKeepsRunSpec)

/-- ITS FALSE NEIGHBOUR: 'it returns false'. Refute it at one input. -/
def fnLeastLatencyObserveKeepsRunWrong : ChangeSpec := { name := "fnLeastLatencyObserveKeepsRun", fn := fun _ => fun
  | [d1, d2, d3, d4, d5, d6, d7] => { results := [.lit (.bool false)], args := [d1, d2, d3, d4, d5, d6, d7] }
  | _ => none }
def FnLeastLatencyObserveKeepsRunWrongFalsely : Prop := fnLeastLatencyObserveKeepsRunRow.holds Try.pinned (OpenSpec.ofChange fnLeastLatencyObserveKeepsRunWrong)

/-- 'zzlaws_root_b1.FnLeastLatencyRelearnsAfterCut': WHATEVER THE INPUT: true; the input reads as it did. -/
def fnLeastLatencyRelearnsAfterCutSpec : ChangeSpec := { name := "fnLeastLatencyRelearnsAfterCut", fn := fun _ => fun
  | [d1, d2, d3, d4, d5, d6, d7] => { results := [.lit (.bool true)], args := [d1, d2, d3, d4, d5, d6, d7] }
  | _ => none }
def fnLeastLatencyRelearnsAfterCutRow : OpenClaim := { program := "qxb6616692a", sum := "6fa1231ead1abc61e1cae5463e87a9135a9d83f1f10dce3146d428751e155cb3", func := "example.com/dial3/dial3/zzlaws_root_b1.FnLeastLatencyRelearnsAfterCut", spec := "fnLeastLatencyRelearnsAfterCut", inPlace := ["math.Float64bits", "sync/atomic.StoreUint64", "sync/atomic.LoadUint64", "math.Float64frombits"], apart := false }
def FnLeastLatencyRelearnsAfterCutSaid : Prop := fnLeastLatencyRelearnsAfterCutRow.holds Try.pinned (OpenSpec.ofChange fnLeastLatencyRelearnsAfterCutSpec)

/-- ITS FALSE NEIGHBOUR: 'it returns false'. Refute it at one input. -/
def fnLeastLatencyRelearnsAfterCutWrong : ChangeSpec := { name := "fnLeastLatencyRelearnsAfterCut", fn := fun _ => fun
  | [d1, d2, d3, d4, d5, d6, d7] => { results := [.lit (.bool false)], args := [d1, d2, d3, d4, d5, d6, d7] }
  | _ => none }
def FnLeastLatencyRelearnsAfterCutWrongFalsely : Prop := fnLeastLatencyRelearnsAfterCutRow.holds Try.pinned (OpenSpec.ofChange fnLeastLatencyRelearnsAfterCutWrong)

/-- 'zzlaws_root_b1.FnVegasFollowHangsOnRatio': WHATEVER THE INPUT: true; the input reads as it did. -/
def fnVegasFollowHangsOnRatioSpec : ChangeSpec := { name := "fnVegasFollowHangsOnRatio", fn := fun _ => fun
  | [d1, d2, d3, d4] => { results := [.lit (.bool true)], args := [d1, d2, d3, d4] }
  | _ => none }
def fnVegasFollowHangsOnRatioRow : OpenClaim := { program := "qxb6616692a", sum := "6fa1231ead1abc61e1cae5463e87a9135a9d83f1f10dce3146d428751e155cb3", func := "example.com/dial3/dial3/zzlaws_root_b1.FnVegasFollowHangsOnRatio", spec := "fnVegasFollowHangsOnRatio", inPlace := ["math.archCeil", "math.archFloor", "math.Float64bits", "math.Float64frombits", "math.archTrunc", "math.archLog"], apart := false }
def FnVegasFollowHangsOnRatioSaid : Prop := fnVegasFollowHangsOnRatioRow.holds Try.pinned (OpenSpec.ofChange fnVegasFollowHangsOnRatioSpec)

/-- ITS FALSE NEIGHBOUR: 'it returns false'. Refute it at one input. -/
def fnVegasFollowHangsOnRatioWrong : ChangeSpec := { name := "fnVegasFollowHangsOnRatio", fn := fun _ => fun
  | [d1, d2, d3, d4] => { results := [.lit (.bool false)], args := [d1, d2, d3, d4] }
  | _ => none }
def FnVegasFollowHangsOnRatioWrongFalsely : Prop := fnVegasFollowHangsOnRatioRow.holds Try.pinned (OpenSpec.ofChange fnVegasFollowHangsOnRatioWrong)

/-- 'zzlaws_root_b1.FnVegasFollowFallsAsRttRises': WHATEVER THE INPUT: true; the input reads as it did. -/
def fnVegasFollowFallsAsRttRisesSpec : ChangeSpec := { name := "fnVegasFollowFallsAsRttRises", fn := fun _ => fun
  | [d1, d2, d3, d4] => { results := [.lit (.bool true)], args := [d1, d2, d3, d4] }
  | _ => none }
def fnVegasFollowFallsAsRttRisesRow : OpenClaim := { program := "qxb6616692a", sum := "6fa1231ead1abc61e1cae5463e87a9135a9d83f1f10dce3146d428751e155cb3", func := "example.com/dial3/dial3/zzlaws_root_b1.FnVegasFollowFallsAsRttRises", spec := "fnVegasFollowFallsAsRttRises", inPlace := ["math.archCeil", "math.archFloor", "math.Float64bits", "math.Float64frombits", "math.archTrunc", "math.archLog"], apart := false }
def FnVegasFollowFallsAsRttRisesSaid : Prop := fnVegasFollowFallsAsRttRisesRow.holds Try.pinned (OpenSpec.ofChange fnVegasFollowFallsAsRttRisesSpec)

/-- ITS FALSE NEIGHBOUR: 'it returns false'. Refute it at one input. -/
def fnVegasFollowFallsAsRttRisesWrong : ChangeSpec := { name := "fnVegasFollowFallsAsRttRises", fn := fun _ => fun
  | [d1, d2, d3, d4] => { results := [.lit (.bool false)], args := [d1, d2, d3, d4] }
  | _ => none }
def FnVegasFollowFallsAsRttRisesWrongFalsely : Prop := fnVegasFollowFallsAsRttRisesRow.holds Try.pinned (OpenSpec.ofChange fnVegasFollowFallsAsRttRisesWrong)

end Rows
end Go.Proofs.Qxb6616692a
