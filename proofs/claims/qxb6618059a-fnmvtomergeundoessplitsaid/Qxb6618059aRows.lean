/-
  No cell of these rows narrows 'for every input' (looked for: loops, veiled, ifaces, maps, wideKeys, modest, calm, conditions, laid).
  DERIVED. THE GIVEN ROWS OF THIS SEAT. 4 by the template 'for every input the law returns true; each argument reads behind the call as it read before'; 0 by the template 'total and deterministic' (their statements: Qxb6618059aTotals.lean).
  GIVEN WITH THE SEED: the statements are not yours to turn. If you find one false, say at which input.
  Laid BY PROGRAM, IN A SANDBOX (cutbox-rows.mjs): the forced cells as the released guide's own fill.sh prints them over the translation 58b7b7e12a2fd4ae… (all of the seat's roots in one cut). By AI agents, Wed Nov 11 2026. No macro, syntax, notation, axiom, sorry.
-/
import Derived.Test.Qxb6618059aChecked
import GoSem.Claim
import GoSem.ClaimJoined
import GoSem.ClaimMapViews
import Derived.JoinedTies
import Derived.KernelRfl
namespace Go.Proofs.Qxb6618059a
/- THE CELL 'sum', in the pinned program and in every row, IS THE sha256 OF THE DUMP (.gsa) THAT Qxb6618059aProg.lean LOADS. Nothing in Lean hashes anything: it is a label: what it is worth is what the hold of that sum in a sandbox is worth. -/
noncomputable def Try.pinned : Pinned := { name := "qxb6618059a", sum := "58b7b7e12a2fd4aea24019ce991a621c43281d772648f4d738bf543cbf7bfda4", checked := Try.checked }
namespace Rows
def none {H : Type} : Left H := { results := [], args := [] }

/-- 'zzlaws_internal_mvto_b1.FnMvtoMergeConcatenates': WHATEVER THE INPUT: true; the input reads as it did. -/
def fnMvtoMergeConcatenatesSpec : ChangeSpec := { name := "fnMvtoMergeConcatenates", fn := fun _ => fun
  | [d1, d2, d3, d4, d5, d6, d7, d8] => { results := [.lit (.bool true)], args := [d1, d2, d3, d4, d5, d6, d7, d8] }
  | _ => none }
def fnMvtoMergeConcatenatesRow : OpenClaim := { program := "qxb6618059a", sum := "58b7b7e12a2fd4aea24019ce991a621c43281d772648f4d738bf543cbf7bfda4", func := "example.com/weftlock/weftlock/zzlaws_internal_mvto_b1.FnMvtoMergeConcatenates", spec := "fnMvtoMergeConcatenates", recurses := true, apart := false }
def FnMvtoMergeConcatenatesSaid : Prop := fnMvtoMergeConcatenatesRow.holds Try.pinned (OpenSpec.ofChange fnMvtoMergeConcatenatesSpec)

/-- ITS FALSE NEIGHBOUR: 'it returns false'. Refute it at one input. -/
def fnMvtoMergeConcatenatesWrong : ChangeSpec := { name := "fnMvtoMergeConcatenates", fn := fun _ => fun
  | [d1, d2, d3, d4, d5, d6, d7, d8] => { results := [.lit (.bool false)], args := [d1, d2, d3, d4, d5, d6, d7, d8] }
  | _ => none }
def FnMvtoMergeConcatenatesWrongFalsely : Prop := fnMvtoMergeConcatenatesRow.holds Try.pinned (OpenSpec.ofChange fnMvtoMergeConcatenatesWrong)

/-- 'zzlaws_internal_mvto_b1.FnMvtoPushKeepsEffectiveTimestamps': WHATEVER THE INPUT: true; the input reads as it did. -/
def fnMvtoPushKeepsEffectiveTimestampsSpec : ChangeSpec := { name := "fnMvtoPushKeepsEffectiveTimestamps", fn := fun _ => fun
  | [d1, d2, d3, d4] => { results := [.lit (.bool true)], args := [d1, d2, d3, d4] }
  | _ => none }
def fnMvtoPushKeepsEffectiveTimestampsRow : OpenClaim := { program := "qxb6618059a", sum := "58b7b7e12a2fd4aea24019ce991a621c43281d772648f4d738bf543cbf7bfda4", func := "example.com/weftlock/weftlock/zzlaws_internal_mvto_b1.FnMvtoPushKeepsEffectiveTimestamps", spec := "fnMvtoPushKeepsEffectiveTimestamps", recurses := true, apart := false }
def FnMvtoPushKeepsEffectiveTimestampsSaid : Prop := fnMvtoPushKeepsEffectiveTimestampsRow.holds Try.pinned (OpenSpec.ofChange fnMvtoPushKeepsEffectiveTimestampsSpec)

/-- ITS FALSE NEIGHBOUR: 'it returns false'. Refute it at one input. -/
def fnMvtoPushKeepsEffectiveTimestampsWrong : ChangeSpec := { name := "fnMvtoPushKeepsEffectiveTimestamps", fn := fun _ => fun
  | [d1, d2, d3, d4] => { results := [.lit (.bool false)], args := [d1, d2, d3, d4] }
  | _ => none }
def FnMvtoPushKeepsEffectiveTimestampsWrongFalsely : Prop := fnMvtoPushKeepsEffectiveTimestampsRow.holds Try.pinned (OpenSpec.ofChange fnMvtoPushKeepsEffectiveTimestampsWrong)

/-- 'zzlaws_internal_mvto_b1.FnMvtoSplitPartitionsByKey': WHATEVER THE INPUT: true; the input reads as it did. -/
def fnMvtoSplitPartitionsByKeySpec : ChangeSpec := { name := "fnMvtoSplitPartitionsByKey", fn := fun _ => fun
  | [d1, d2, d3, d4, d5] => { results := [.lit (.bool true)], args := [d1, d2, d3, d4, d5] }
  | _ => none }
def fnMvtoSplitPartitionsByKeyRow : OpenClaim := { program := "qxb6618059a", sum := "58b7b7e12a2fd4aea24019ce991a621c43281d772648f4d738bf543cbf7bfda4", func := "example.com/weftlock/weftlock/zzlaws_internal_mvto_b1.FnMvtoSplitPartitionsByKey", spec := "fnMvtoSplitPartitionsByKey", recurses := true, apart := false }
def FnMvtoSplitPartitionsByKeySaid : Prop := fnMvtoSplitPartitionsByKeyRow.holds Try.pinned (OpenSpec.ofChange fnMvtoSplitPartitionsByKeySpec)

/-- ITS FALSE NEIGHBOUR: 'it returns false'. Refute it at one input. -/
def fnMvtoSplitPartitionsByKeyWrong : ChangeSpec := { name := "fnMvtoSplitPartitionsByKey", fn := fun _ => fun
  | [d1, d2, d3, d4, d5] => { results := [.lit (.bool false)], args := [d1, d2, d3, d4, d5] }
  | _ => none }
def FnMvtoSplitPartitionsByKeyWrongFalsely : Prop := fnMvtoSplitPartitionsByKeyRow.holds Try.pinned (OpenSpec.ofChange fnMvtoSplitPartitionsByKeyWrong)

/-- 'zzlaws_internal_mvto_b1.FnMvtoMergeUndoesSplit': WHATEVER THE INPUT: true; the input reads as it did. -/
def fnMvtoMergeUndoesSplitSpec : ChangeSpec := { name := "fnMvtoMergeUndoesSplit", fn := fun _ => fun
  | [d1, d2, d3, d4, d5] => { results := [.lit (.bool true)], args := [d1, d2, d3, d4, d5] }
  | _ => none }
def fnMvtoMergeUndoesSplitRow : OpenClaim := { program := "qxb6618059a", sum := "58b7b7e12a2fd4aea24019ce991a621c43281d772648f4d738bf543cbf7bfda4", func := "example.com/weftlock/weftlock/zzlaws_internal_mvto_b1.FnMvtoMergeUndoesSplit", spec := "fnMvtoMergeUndoesSplit", recurses := true, apart := false }
def FnMvtoMergeUndoesSplitSaid : Prop := fnMvtoMergeUndoesSplitRow.holds Try.pinned (OpenSpec.ofChange fnMvtoMergeUndoesSplitSpec)

/-- ITS FALSE NEIGHBOUR: 'it returns false'. Refute it at one input. -/
def fnMvtoMergeUndoesSplitWrong : ChangeSpec := { name := "fnMvtoMergeUndoesSplit", fn := fun _ => fun
  | [d1, d2, d3, d4, d5] => { results := [.lit (.bool false)], args := [d1, d2, d3, d4, d5] }
  | _ => none }
def FnMvtoMergeUndoesSplitWrongFalsely : Prop := fnMvtoMergeUndoesSplitRow.holds Try.pinned (OpenSpec.ofChange fnMvtoMergeUndoesSplitWrong)

end Rows
end Go.Proofs.Qxb6618059a
