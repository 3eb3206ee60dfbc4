/-
  No cell of these rows narrows 'for every input' (looked for: loops, veiled, ifaces, maps, wideKeys, modest, calm, conditions, laid).
  DERIVED. THE GIVEN ROWS OF THIS SEAT. 3 by the template 'for every input the law returns true; each argument reads behind the call as it read before'; 0 by the template 'total and deterministic' (their statements: Qxb6605926aTotals.lean).
  GIVEN WITH THE SEED: the statements are not yours to turn. If you find one false, say at which input.
  Laid BY PROGRAM, IN A SANDBOX (cutbox-rows.mjs): the forced cells as the released guide's own fill.sh prints them over the translation 1db335ef62a8897b… (all of the seat's roots in one cut). By AI agents, Wed Nov 11 2026. No macro, syntax, notation, axiom, sorry.
-/
import Derived.Test.Qxb6605926aChecked
import GoSem.Claim
import GoSem.ClaimJoined
import GoSem.ClaimMapViews
import Derived.JoinedTies
import Derived.KernelRfl
namespace Go.Proofs.Qxb6605926a
/- THE CELL 'sum', in the pinned program and in every row, IS THE sha256 OF THE DUMP (.gsa) THAT Qxb6605926aProg.lean LOADS. Nothing in Lean hashes anything: it is a label: what it is worth is what the hold of that sum in a sandbox is worth. -/
noncomputable def Try.pinned : Pinned := { name := "qxb6605926a", sum := "1db335ef62a8897b65d2db945eda1ab5fb748e53ace4cd87b2c5f7a40db0ea4c", checked := Try.checked }
namespace Rows
def none {H : Type} : Left H := { results := [], args := [] }

/-- 'zzlaws_internal_member_b1.FnContainsIsInclusionOfChangeSets': WHATEVER THE INPUT: true; the input reads as it did. -/
def fnContainsIsInclusionOfChangeSetsSpec : ChangeSpec := { name := "fnContainsIsInclusionOfChangeSets", fn := fun _ => fun
  | [d1, d2, d3, d4, d5, d6] => { results := [.lit (.bool true)], args := [d1, d2, d3, d4, d5, d6] }
  | _ => none }
def fnContainsIsInclusionOfChangeSetsRow : OpenClaim := { program := "qxb6605926a", sum := "1db335ef62a8897b65d2db945eda1ab5fb748e53ace4cd87b2c5f7a40db0ea4c", func := "example.com/quorate/quorate/zzlaws_internal_member_b1.FnContainsIsInclusionOfChangeSets", spec := "fnContainsIsInclusionOfChangeSets", inPlace := ["internal/bytealg.abigen_runtime_cmpstring"], unfollowed := true, recurses := true, apart := false }
def FnContainsIsInclusionOfChangeSetsSaid : Prop := fnContainsIsInclusionOfChangeSetsRow.holds Try.pinned (OpenSpec.ofChange fnContainsIsInclusionOfChangeSetsSpec)

/-- ITS FALSE NEIGHBOUR: 'it returns false'. Refute it at one input. -/
def fnContainsIsInclusionOfChangeSetsWrong : ChangeSpec := { name := "fnContainsIsInclusionOfChangeSets", fn := fun _ => fun
  | [d1, d2, d3, d4, d5, d6] => { results := [.lit (.bool false)], args := [d1, d2, d3, d4, d5, d6] }
  | _ => none }
def FnContainsIsInclusionOfChangeSetsWrongFalsely : Prop := fnContainsIsInclusionOfChangeSetsRow.holds Try.pinned (OpenSpec.ofChange fnContainsIsInclusionOfChangeSetsWrong)

/-- 'zzlaws_internal_member_b1.FnContainsBothWaysIsSameChanges': WHATEVER THE INPUT: true; the input reads as it did. -/
def fnContainsBothWaysIsSameChangesSpec : ChangeSpec := { name := "fnContainsBothWaysIsSameChanges", fn := fun _ => fun
  | [d1, d2, d3, d4, d5, d6] => { results := [.lit (.bool true)], args := [d1, d2, d3, d4, d5, d6] }
  | _ => none }
def fnContainsBothWaysIsSameChangesRow : OpenClaim := { program := "qxb6605926a", sum := "1db335ef62a8897b65d2db945eda1ab5fb748e53ace4cd87b2c5f7a40db0ea4c", func := "example.com/quorate/quorate/zzlaws_internal_member_b1.FnContainsBothWaysIsSameChanges", spec := "fnContainsBothWaysIsSameChanges", inPlace := ["internal/bytealg.abigen_runtime_cmpstring"], unfollowed := true, recurses := true, apart := false }
def FnContainsBothWaysIsSameChangesSaid : Prop := fnContainsBothWaysIsSameChangesRow.holds Try.pinned (OpenSpec.ofChange fnContainsBothWaysIsSameChangesSpec)

/-- ITS FALSE NEIGHBOUR: 'it returns false'. Refute it at one input. -/
def fnContainsBothWaysIsSameChangesWrong : ChangeSpec := { name := "fnContainsBothWaysIsSameChanges", fn := fun _ => fun
  | [d1, d2, d3, d4, d5, d6] => { results := [.lit (.bool false)], args := [d1, d2, d3, d4, d5, d6] }
  | _ => none }
def FnContainsBothWaysIsSameChangesWrongFalsely : Prop := fnContainsBothWaysIsSameChangesRow.holds Try.pinned (OpenSpec.ofChange fnContainsBothWaysIsSameChangesWrong)

/-- 'zzlaws_internal_member_b1.FnTombstoneDigestNamesTheRemovals': WHATEVER THE INPUT: true; the input reads as it did. -/
def fnTombstoneDigestNamesTheRemovalsSpec : ChangeSpec := { name := "fnTombstoneDigestNamesTheRemovals", fn := fun _ => fun
  | [d1, d2, d3] => { results := [.lit (.bool true)], args := [d1, d2, d3] }
  | _ => none }
def fnTombstoneDigestNamesTheRemovalsRow : OpenClaim := { program := "qxb6605926a", sum := "1db335ef62a8897b65d2db945eda1ab5fb748e53ace4cd87b2c5f7a40db0ea4c", func := "example.com/quorate/quorate/zzlaws_internal_member_b1.FnTombstoneDigestNamesTheRemovals", spec := "fnTombstoneDigestNamesTheRemovals", inPlace := ["internal/bytealg.abigen_runtime_cmpstring"], unfollowed := true, recurses := true, apart := false }
def FnTombstoneDigestNamesTheRemovalsSaid : Prop := fnTombstoneDigestNamesTheRemovalsRow.holds Try.pinned (OpenSpec.ofChange fnTombstoneDigestNamesTheRemovalsSpec)

/-- ITS FALSE NEIGHBOUR: 'it returns false'. Refute it at one input. -/
def fnTombstoneDigestNamesTheRemovalsWrong : ChangeSpec := { name := "fnTombstoneDigestNamesTheRemovals", fn := fun _ => fun
  | [d1, d2, d3] => { results := [.lit (.bool false)], args := [d1, d2, d3] }
  | _ => none }
def FnTombstoneDigestNamesTheRemovalsWrongFalsely : Prop := fnTombstoneDigestNamesTheRemovalsRow.holds Try.pinned (OpenSpec.ofChange fnTombstoneDigestNamesTheRemovalsWrong)

end Rows
end Go.Proofs.Qxb6605926a
