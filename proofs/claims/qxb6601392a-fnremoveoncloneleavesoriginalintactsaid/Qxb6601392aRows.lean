/-
  No cell of these rows narrows 'for every input' (looked for: loops, veiled, ifaces, maps, wideKeys, modest, calm, conditions, laid).
  DERIVED. THE GIVEN ROWS OF THIS SEAT. 6 by the template 'for every input the law returns true; each argument reads behind the call as it read before'; 0 by the template 'total and deterministic' (their statements: Qxb6601392aTotals.lean).
  GIVEN WITH THE SEED: the statements are not yours to turn. If you find one false, say at which input.
  Laid BY PROGRAM, IN A SANDBOX (cutbox-rows.mjs): the forced cells as the released guide's own fill.sh prints them over the translation b679a5a86635371a… (all of the seat's roots in one cut). By AI agents, Wed Nov 11 2026. No macro, syntax, notation, axiom, sorry.
-/
import Derived.Test.Qxb6601392aChecked
import GoSem.Claim
import GoSem.ClaimJoined
import GoSem.ClaimMapViews
import Derived.JoinedTies
import Derived.KernelRfl
namespace Go.Proofs.Qxb6601392a
/- THE CELL 'sum', in the pinned program and in every row, IS THE sha256 OF THE DUMP (.gsa) THAT Qxb6601392aProg.lean LOADS. Nothing in Lean hashes anything: it is a label: what it is worth is what the hold of that sum in a sandbox is worth. -/
noncomputable def Try.pinned : Pinned := { name := "qxb6601392a", sum := "b679a5a86635371a6dfec98f4fff4034708fec7e46c23b8ea862a254c27a0501", checked := Try.checked }
namespace Rows
def none {H : Type} : Left H := { results := [], args := [] }

/-- 'zzlaws_internal_kv_b1.FnPutMatchesSortedModel': WHATEVER THE INPUT: true; the input reads as it did. -/
def fnPutMatchesSortedModelSpec : ChangeSpec := { name := "fnPutMatchesSortedModel", fn := fun _ => fun
  | [d] => { results := [.lit (.bool true)], args := [d] }
  | _ => none }
def fnPutMatchesSortedModelRow : OpenClaim := { program := "qxb6601392a", sum := "b679a5a86635371a6dfec98f4fff4034708fec7e46c23b8ea862a254c27a0501", func := "example.com/sightline/sightline/zzlaws_internal_kv_b1.FnPutMatchesSortedModel", spec := "fnPutMatchesSortedModel", inPlace := ["internal/bytealg.abigen_runtime_cmpstring", "slices.overlaps[example.com/sightline/sightline/internal/kv.item]", "slices.overlaps[*example.com/sightline/sightline/internal/kv.node]"], unfollowed := true, recurses := true, apart := false }
def FnPutMatchesSortedModelSaid : Prop := fnPutMatchesSortedModelRow.holds Try.pinned (OpenSpec.ofChange fnPutMatchesSortedModelSpec)

/-- ITS FALSE NEIGHBOUR: 'it returns false'. Refute it at one input. -/
def fnPutMatchesSortedModelWrong : ChangeSpec := { name := "fnPutMatchesSortedModel", fn := fun _ => fun
  | [d] => { results := [.lit (.bool false)], args := [d] }
  | _ => none }
def FnPutMatchesSortedModelWrongFalsely : Prop := fnPutMatchesSortedModelRow.holds Try.pinned (OpenSpec.ofChange fnPutMatchesSortedModelWrong)

/-- 'zzlaws_internal_kv_b1.FnPutOnCloneLeavesOriginalIntact': WHATEVER THE INPUT: true; the input reads as it did. -/
def fnPutOnCloneLeavesOriginalIntactSpec : ChangeSpec := { name := "fnPutOnCloneLeavesOriginalIntact", fn := fun _ => fun
  | [d1, d2] => { results := [.lit (.bool true)], args := [d1, d2] }
  | _ => none }
def fnPutOnCloneLeavesOriginalIntactRow : OpenClaim := { program := "qxb6601392a", sum := "b679a5a86635371a6dfec98f4fff4034708fec7e46c23b8ea862a254c27a0501", func := "example.com/sightline/sightline/zzlaws_internal_kv_b1.FnPutOnCloneLeavesOriginalIntact", spec := "fnPutOnCloneLeavesOriginalIntact", inPlace := ["internal/bytealg.abigen_runtime_cmpstring", "slices.overlaps[example.com/sightline/sightline/internal/kv.item]", "slices.overlaps[*example.com/sightline/sightline/internal/kv.node]"], unfollowed := true, recurses := true, apart := false }
def FnPutOnCloneLeavesOriginalIntactSaid : Prop := fnPutOnCloneLeavesOriginalIntactRow.holds Try.pinned (OpenSpec.ofChange fnPutOnCloneLeavesOriginalIntactSpec)

/-- ITS FALSE NEIGHBOUR: 'it returns false'. Refute it at one input. -/
def fnPutOnCloneLeavesOriginalIntactWrong : ChangeSpec := { name := "fnPutOnCloneLeavesOriginalIntact", fn := fun _ => fun
  | [d1, d2] => { results := [.lit (.bool false)], args := [d1, d2] }
  | _ => none }
def FnPutOnCloneLeavesOriginalIntactWrongFalsely : Prop := fnPutOnCloneLeavesOriginalIntactRow.holds Try.pinned (OpenSpec.ofChange fnPutOnCloneLeavesOriginalIntactWrong)

/-- 'zzlaws_internal_kv_b1.FnRemoveMatchesSortedModel': WHATEVER THE INPUT: true; the input reads as it did. -/
def fnRemoveMatchesSortedModelSpec : ChangeSpec := { name := "fnRemoveMatchesSortedModel", fn := fun _ => fun
  | [d1, d2] => { results := [.lit (.bool true)], args := [d1, d2] }
  | _ => none }
def fnRemoveMatchesSortedModelRow : OpenClaim := { program := "qxb6601392a", sum := "b679a5a86635371a6dfec98f4fff4034708fec7e46c23b8ea862a254c27a0501", func := "example.com/sightline/sightline/zzlaws_internal_kv_b1.FnRemoveMatchesSortedModel", spec := "fnRemoveMatchesSortedModel", inPlace := ["internal/bytealg.abigen_runtime_cmpstring", "slices.overlaps[example.com/sightline/sightline/internal/kv.item]", "slices.overlaps[*example.com/sightline/sightline/internal/kv.node]"], unfollowed := true, recurses := true, apart := false }
def FnRemoveMatchesSortedModelSaid : Prop := fnRemoveMatchesSortedModelRow.holds Try.pinned (OpenSpec.ofChange fnRemoveMatchesSortedModelSpec)

/-- ITS FALSE NEIGHBOUR: 'it returns false'. Refute it at one input. -/
def fnRemoveMatchesSortedModelWrong : ChangeSpec := { name := "fnRemoveMatchesSortedModel", fn := fun _ => fun
  | [d1, d2] => { results := [.lit (.bool false)], args := [d1, d2] }
  | _ => none }
def FnRemoveMatchesSortedModelWrongFalsely : Prop := fnRemoveMatchesSortedModelRow.holds Try.pinned (OpenSpec.ofChange fnRemoveMatchesSortedModelWrong)

/-- 'zzlaws_internal_kv_b1.FnRemoveOnCloneLeavesOriginalIntact': WHATEVER THE INPUT: true; the input reads as it did. -/
def fnRemoveOnCloneLeavesOriginalIntactSpec : ChangeSpec := { name := "fnRemoveOnCloneLeavesOriginalIntact", fn := fun _ => fun
  | [d1, d2] => { results := [.lit (.bool true)], args := [d1, d2] }
  | _ => none }
def fnRemoveOnCloneLeavesOriginalIntactRow : OpenClaim := { program := "qxb6601392a", sum := "b679a5a86635371a6dfec98f4fff4034708fec7e46c23b8ea862a254c27a0501", func := "example.com/sightline/sightline/zzlaws_internal_kv_b1.FnRemoveOnCloneLeavesOriginalIntact", spec := "fnRemoveOnCloneLeavesOriginalIntact", inPlace := ["internal/bytealg.abigen_runtime_cmpstring", "slices.overlaps[example.com/sightline/sightline/internal/kv.item]", "slices.overlaps[*example.com/sightline/sightline/internal/kv.node]"], unfollowed := true, recurses := true, apart := false }
def FnRemoveOnCloneLeavesOriginalIntactSaid : Prop := fnRemoveOnCloneLeavesOriginalIntactRow.holds Try.pinned (OpenSpec.ofChange fnRemoveOnCloneLeavesOriginalIntactSpec)

/-- ITS FALSE NEIGHBOUR: 'it returns false'. Refute it at one input. -/
def fnRemoveOnCloneLeavesOriginalIntactWrong : ChangeSpec := { name := "fnRemoveOnCloneLeavesOriginalIntact", fn := fun _ => fun
  | [d1, d2] => { results := [.lit (.bool false)], args := [d1, d2] }
  | _ => none }
def FnRemoveOnCloneLeavesOriginalIntactWrongFalsely : Prop := fnRemoveOnCloneLeavesOriginalIntactRow.holds Try.pinned (OpenSpec.ofChange fnRemoveOnCloneLeavesOriginalIntactWrong)

/-- 'zzlaws_internal_kv_b1.FnGrowFollowsCaseTable': WHATEVER THE INPUT: true; the input reads as it did. -/
def fnGrowFollowsCaseTableSpec : ChangeSpec := { name := "fnGrowFollowsCaseTable", fn := fun _ => fun
  | [d1, d2] => { results := [.lit (.bool true)], args := [d1, d2] }
  | _ => none }
def fnGrowFollowsCaseTableRow : OpenClaim := { program := "qxb6601392a", sum := "b679a5a86635371a6dfec98f4fff4034708fec7e46c23b8ea862a254c27a0501", func := "example.com/sightline/sightline/zzlaws_internal_kv_b1.FnGrowFollowsCaseTable", spec := "fnGrowFollowsCaseTable", inPlace := ["internal/bytealg.abigen_runtime_cmpstring", "slices.overlaps[example.com/sightline/sightline/internal/kv.item]", "slices.overlaps[*example.com/sightline/sightline/internal/kv.node]"], unfollowed := true, recurses := true, apart := false }
def FnGrowFollowsCaseTableSaid : Prop := fnGrowFollowsCaseTableRow.holds Try.pinned (OpenSpec.ofChange fnGrowFollowsCaseTableSpec)

/-- ITS FALSE NEIGHBOUR: 'it returns false'. Refute it at one input. -/
def fnGrowFollowsCaseTableWrong : ChangeSpec := { name := "fnGrowFollowsCaseTable", fn := fun _ => fun
  | [d1, d2] => { results := [.lit (.bool false)], args := [d1, d2] }
  | _ => none }
def FnGrowFollowsCaseTableWrongFalsely : Prop := fnGrowFollowsCaseTableRow.holds Try.pinned (OpenSpec.ofChange fnGrowFollowsCaseTableWrong)

/-- 'zzlaws_internal_kv_b1.FnGrowOnCloneLeavesOriginalIntact': WHATEVER THE INPUT: true; the input reads as it did. -/
def fnGrowOnCloneLeavesOriginalIntactSpec : ChangeSpec := { name := "fnGrowOnCloneLeavesOriginalIntact", fn := fun _ => fun
  | [d1, d2] => { results := [.lit (.bool true)], args := [d1, d2] }
  | _ => none }
def fnGrowOnCloneLeavesOriginalIntactRow : OpenClaim := { program := "qxb6601392a", sum := "b679a5a86635371a6dfec98f4fff4034708fec7e46c23b8ea862a254c27a0501", func := "example.com/sightline/sightline/zzlaws_internal_kv_b1.FnGrowOnCloneLeavesOriginalIntact", spec := "fnGrowOnCloneLeavesOriginalIntact", inPlace := ["internal/bytealg.abigen_runtime_cmpstring", "slices.overlaps[example.com/sightline/sightline/internal/kv.item]", "slices.overlaps[*example.com/sightline/sightline/internal/kv.node]"], unfollowed := true, recurses := true, apart := false }
def FnGrowOnCloneLeavesOriginalIntactSaid : Prop := fnGrowOnCloneLeavesOriginalIntactRow.holds Try.pinned (OpenSpec.ofChange fnGrowOnCloneLeavesOriginalIntactSpec)

/-- ITS FALSE NEIGHBOUR: 'it returns false'. Refute it at one input. -/
def fnGrowOnCloneLeavesOriginalIntactWrong : ChangeSpec := { name := "fnGrowOnCloneLeavesOriginalIntact", fn := fun _ => fun
  | [d1, d2] => { results := [.lit (.bool false)], args := [d1, d2] }
  | _ => none }
def FnGrowOnCloneLeavesOriginalIntactWrongFalsely : Prop := fnGrowOnCloneLeavesOriginalIntactRow.holds Try.pinned (OpenSpec.ofChange fnGrowOnCloneLeavesOriginalIntactWrong)

end Rows
end Go.Proofs.Qxb6601392a
