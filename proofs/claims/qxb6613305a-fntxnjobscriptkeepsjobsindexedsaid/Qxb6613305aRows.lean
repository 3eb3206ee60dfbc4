/-
  No cell of these rows narrows 'for every input' (looked for: loops, veiled, ifaces, maps, wideKeys, modest, calm, conditions, laid).
  DERIVED. THE GIVEN ROWS OF THIS SEAT. 5 by the template 'for every input the law returns true; each argument reads behind the call as it read before'; 0 by the template 'total and deterministic' (their statements: Qxb6613305aTotals.lean).
  GIVEN WITH THE SEED: the statements are not yours to turn. If you find one false, say at which input.
  Laid BY PROGRAM, IN A SANDBOX (cutbox-rows.mjs): the forced cells as the released guide's own fill.sh prints them over the translation 8e8ae99a44513753… (all of the seat's roots in one cut). By AI agents, Wed Nov 11 2026. No macro, syntax, notation, axiom, sorry.
-/
import Derived.Test.Qxb6613305aChecked
import GoSem.Claim
import GoSem.ClaimJoined
import GoSem.ClaimMapViews
import Derived.JoinedTies
import Derived.KernelRfl
namespace Go.Proofs.Qxb6613305a
/- THE CELL 'sum', in the pinned program and in every row, IS THE sha256 OF THE DUMP (.gsa) THAT Qxb6613305aProg.lean LOADS. Nothing in Lean hashes anything: it is a label: what it is worth is what the hold of that sum in a sandbox is worth. -/
noncomputable def Try.pinned : Pinned := { name := "qxb6613305a", sum := "8e8ae99a445137530714e7dac613830e28c662ee8721b0bd3b09dfab7863e41f", checked := Try.checked }
namespace Rows
def none {H : Type} : Left H := { results := [], args := [] }

/-- 'zzlaws_internal_sim_b1.FnLeaveQueueTakesCohortOutOnce': WHATEVER THE INPUT: true; the input reads as it did. -/
def fnLeaveQueueTakesCohortOutOnceSpec : ChangeSpec := { name := "fnLeaveQueueTakesCohortOutOnce", fn := fun _ => fun
  | [d1, d2, d3, d4, d5] => { results := [.lit (.bool true)], args := [d1, d2, d3, d4, d5] }
  | _ => none }
def fnLeaveQueueTakesCohortOutOnceRow : OpenClaim := { program := "qxb6613305a", sum := "8e8ae99a445137530714e7dac613830e28c662ee8721b0bd3b09dfab7863e41f", func := "example.com/firmhold/firmhold/zzlaws_internal_sim_b1.FnLeaveQueueTakesCohortOutOnce", spec := "fnLeaveQueueTakesCohortOutOnce", unfollowed := true, recurses := true, apart := false }
def FnLeaveQueueTakesCohortOutOnceSaid : Prop := fnLeaveQueueTakesCohortOutOnceRow.holds Try.pinned (OpenSpec.ofChange fnLeaveQueueTakesCohortOutOnceSpec)

/-- ITS FALSE NEIGHBOUR: 'it returns false'. Refute it at one input. -/
def fnLeaveQueueTakesCohortOutOnceWrong : ChangeSpec := { name := "fnLeaveQueueTakesCohortOutOnce", fn := fun _ => fun
  | [d1, d2, d3, d4, d5] => { results := [.lit (.bool false)], args := [d1, d2, d3, d4, d5] }
  | _ => none }
def FnLeaveQueueTakesCohortOutOnceWrongFalsely : Prop := fnLeaveQueueTakesCohortOutOnceRow.holds Try.pinned (OpenSpec.ofChange fnLeaveQueueTakesCohortOutOnceWrong)

/-- 'zzlaws_internal_sim_b1.FnLeaveQueueLooksInLeavingOrder': WHATEVER THE INPUT: true; the input reads as it did. -/
def fnLeaveQueueLooksInLeavingOrderSpec : ChangeSpec := { name := "fnLeaveQueueLooksInLeavingOrder", fn := fun _ => fun
  | [d1, d2, d3, d4, d5, d6, d7] => { results := [.lit (.bool true)], args := [d1, d2, d3, d4, d5, d6, d7] }
  | _ => none }
def fnLeaveQueueLooksInLeavingOrderRow : OpenClaim := { program := "qxb6613305a", sum := "8e8ae99a445137530714e7dac613830e28c662ee8721b0bd3b09dfab7863e41f", func := "example.com/firmhold/firmhold/zzlaws_internal_sim_b1.FnLeaveQueueLooksInLeavingOrder", spec := "fnLeaveQueueLooksInLeavingOrder", unfollowed := true, recurses := true, apart := false }
def FnLeaveQueueLooksInLeavingOrderSaid : Prop := fnLeaveQueueLooksInLeavingOrderRow.holds Try.pinned (OpenSpec.ofChange fnLeaveQueueLooksInLeavingOrderSpec)

/-- ITS FALSE NEIGHBOUR: 'it returns false'. Refute it at one input. -/
def fnLeaveQueueLooksInLeavingOrderWrong : ChangeSpec := { name := "fnLeaveQueueLooksInLeavingOrder", fn := fun _ => fun
  | [d1, d2, d3, d4, d5, d6, d7] => { results := [.lit (.bool false)], args := [d1, d2, d3, d4, d5, d6, d7] }
  | _ => none }
def FnLeaveQueueLooksInLeavingOrderWrongFalsely : Prop := fnLeaveQueueLooksInLeavingOrderRow.holds Try.pinned (OpenSpec.ofChange fnLeaveQueueLooksInLeavingOrderWrong)

/-- 'zzlaws_internal_sim_b1.FnMissPercentSplitAndScale': WHATEVER THE INPUT: true; the input reads as it did. -/
def fnMissPercentSplitAndScaleSpec : ChangeSpec := { name := "fnMissPercentSplitAndScale", fn := fun _ => fun
  | [d1, d2, d3] => { results := [.lit (.bool true)], args := [d1, d2, d3] }
  | _ => none }
def fnMissPercentSplitAndScaleRow : OpenClaim := { program := "qxb6613305a", sum := "8e8ae99a445137530714e7dac613830e28c662ee8721b0bd3b09dfab7863e41f", func := "example.com/firmhold/firmhold/zzlaws_internal_sim_b1.FnMissPercentSplitAndScale", spec := "fnMissPercentSplitAndScale", apart := false }
def FnMissPercentSplitAndScaleSaid : Prop := fnMissPercentSplitAndScaleRow.holds Try.pinned (OpenSpec.ofChange fnMissPercentSplitAndScaleSpec)

/-- ITS FALSE NEIGHBOUR: 'it returns false'. Refute it at one input. -/
def fnMissPercentSplitAndScaleWrong : ChangeSpec := { name := "fnMissPercentSplitAndScale", fn := fun _ => fun
  | [d1, d2, d3] => { results := [.lit (.bool false)], args := [d1, d2, d3] }
  | _ => none }
def FnMissPercentSplitAndScaleWrongFalsely : Prop := fnMissPercentSplitAndScaleRow.holds Try.pinned (OpenSpec.ofChange fnMissPercentSplitAndScaleWrong)

/-- 'zzlaws_internal_sim_b1.FnMissPercentBoundsAndOrder': WHATEVER THE INPUT: true; the input reads as it did. -/
def fnMissPercentBoundsAndOrderSpec : ChangeSpec := { name := "fnMissPercentBoundsAndOrder", fn := fun _ => fun
  | [d1, d2, d3] => { results := [.lit (.bool true)], args := [d1, d2, d3] }
  | _ => none }
def fnMissPercentBoundsAndOrderRow : OpenClaim := { program := "qxb6613305a", sum := "8e8ae99a445137530714e7dac613830e28c662ee8721b0bd3b09dfab7863e41f", func := "example.com/firmhold/firmhold/zzlaws_internal_sim_b1.FnMissPercentBoundsAndOrder", spec := "fnMissPercentBoundsAndOrder", apart := false }
def FnMissPercentBoundsAndOrderSaid : Prop := fnMissPercentBoundsAndOrderRow.holds Try.pinned (OpenSpec.ofChange fnMissPercentBoundsAndOrderSpec)

/-- ITS FALSE NEIGHBOUR: 'it returns false'. Refute it at one input. -/
def fnMissPercentBoundsAndOrderWrong : ChangeSpec := { name := "fnMissPercentBoundsAndOrder", fn := fun _ => fun
  | [d1, d2, d3] => { results := [.lit (.bool false)], args := [d1, d2, d3] }
  | _ => none }
def FnMissPercentBoundsAndOrderWrongFalsely : Prop := fnMissPercentBoundsAndOrderRow.holds Try.pinned (OpenSpec.ofChange fnMissPercentBoundsAndOrderWrong)

/-- 'zzlaws_internal_sim_b1.FnTxnJobScriptKeepsJobsIndexed': WHATEVER THE INPUT: true; the input reads as it did. -/
def fnTxnJobScriptKeepsJobsIndexedSpec : ChangeSpec := { name := "fnTxnJobScriptKeepsJobsIndexed", fn := fun _ => fun
  | [d1, d2, d3, d4, d5, d6, d7] => { results := [.lit (.bool true)], args := [d1, d2, d3, d4, d5, d6, d7] }
  | _ => none }
def fnTxnJobScriptKeepsJobsIndexedRow : OpenClaim := { program := "qxb6613305a", sum := "8e8ae99a445137530714e7dac613830e28c662ee8721b0bd3b09dfab7863e41f", func := "example.com/firmhold/firmhold/zzlaws_internal_sim_b1.FnTxnJobScriptKeepsJobsIndexed", spec := "fnTxnJobScriptKeepsJobsIndexed", apart := false }
def FnTxnJobScriptKeepsJobsIndexedSaid : Prop := fnTxnJobScriptKeepsJobsIndexedRow.holds Try.pinned (OpenSpec.ofChange fnTxnJobScriptKeepsJobsIndexedSpec)

/-- ITS FALSE NEIGHBOUR: 'it returns false'. Refute it at one input. -/
def fnTxnJobScriptKeepsJobsIndexedWrong : ChangeSpec := { name := "fnTxnJobScriptKeepsJobsIndexed", fn := fun _ => fun
  | [d1, d2, d3, d4, d5, d6, d7] => { results := [.lit (.bool false)], args := [d1, d2, d3, d4, d5, d6, d7] }
  | _ => none }
def FnTxnJobScriptKeepsJobsIndexedWrongFalsely : Prop := fnTxnJobScriptKeepsJobsIndexedRow.holds Try.pinned (OpenSpec.ofChange fnTxnJobScriptKeepsJobsIndexedWrong)

end Rows
end Go.Proofs.Qxb6613305a
