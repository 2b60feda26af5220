/-
  No cell of these rows narrows 'for every input' (looked for: loops, veiled, ifaces, maps, wideKeys, modest, calm, conditions, laid).
  DERIVED. THE GIVEN ROWS OF THIS SEAT. 2 by the template 'for every input the law returns true; each argument reads behind the call as it read before'; 0 by the template 'total and deterministic' (their statements: Qxb6618117aTotals.lean).
  GIVEN WITH THE SEED: the statements are not yours to turn. If you find one false, say at which input.
  Laid BY PROGRAM, IN A SANDBOX (cutbox-rows.mjs): the forced cells as the released guide's own fill.sh prints them over the translation 0ec6b99045abd11c… (all of the seat's roots in one cut). By AI agents, Wed Nov 11 2026. No macro, syntax, notation, axiom, sorry.
-/
import Derived.Test.Qxb6618117aChecked
import GoSem.Claim
import GoSem.ClaimJoined
import GoSem.ClaimMapViews
import Derived.JoinedTies
import Derived.KernelRfl
namespace Go.Proofs.Qxb6618117a
/- THE CELL 'sum', in the pinned program and in every row, IS THE sha256 OF THE DUMP (.gsa) THAT Qxb6618117aProg.lean LOADS. Nothing in Lean hashes anything: it is a label: what it is worth is what the hold of that sum in a sandbox is worth. -/
noncomputable def Try.pinned : Pinned := { name := "qxb6618117a", sum := "0ec6b99045abd11ca3ef07cecf1457c823351c381090242c7935d3e4144cb5a5", checked := Try.checked }
namespace Rows
def none {H : Type} : Left H := { results := [], args := [] }

/-- 'zzlaws_component_b1.FnStandsForNameInsertion': WHATEVER THE INPUT: true; the input reads as it did. -/
def fnStandsForNameInsertionSpec : ChangeSpec := { name := "fnStandsForNameInsertion", fn := fun _ => fun
  | [d1, d2, d3, d4, d5, d6] => { results := [.lit (.bool true)], args := [d1, d2, d3, d4, d5, d6] }
  | _ => none }
def fnStandsForNameInsertionRow : OpenClaim := { program := "qxb6618117a", sum := "0ec6b99045abd11ca3ef07cecf1457c823351c381090242c7935d3e4144cb5a5", func := "example.com/stagewright/stagewright/zzlaws_component_b1.FnStandsForNameInsertion", spec := "fnStandsForNameInsertion", apart := false }
def FnStandsForNameInsertionSaid : Prop := fnStandsForNameInsertionRow.holds Try.pinned (OpenSpec.ofChange fnStandsForNameInsertionSpec)

/-- ITS FALSE NEIGHBOUR: 'it returns false'. Refute it at one input. -/
def fnStandsForNameInsertionWrong : ChangeSpec := { name := "fnStandsForNameInsertion", fn := fun _ => fun
  | [d1, d2, d3, d4, d5, d6] => { results := [.lit (.bool false)], args := [d1, d2, d3, d4, d5, d6] }
  | _ => none }
def FnStandsForNameInsertionWrongFalsely : Prop := fnStandsForNameInsertionRow.holds Try.pinned (OpenSpec.ofChange fnStandsForNameInsertionWrong)

/-- 'zzlaws_component_b1.FnStandsForPrefixRemoval': WHATEVER THE INPUT: true; the input reads as it did. -/
def fnStandsForPrefixRemovalSpec : ChangeSpec := { name := "fnStandsForPrefixRemoval", fn := fun _ => fun
  | [d1, d2, d3, d4, d5, d6] => { results := [.lit (.bool true)], args := [d1, d2, d3, d4, d5, d6] }
  | _ => none }
def fnStandsForPrefixRemovalRow : OpenClaim := { program := "qxb6618117a", sum := "0ec6b99045abd11ca3ef07cecf1457c823351c381090242c7935d3e4144cb5a5", func := "example.com/stagewright/stagewright/zzlaws_component_b1.FnStandsForPrefixRemoval", spec := "fnStandsForPrefixRemoval", apart := false }
def FnStandsForPrefixRemovalSaid : Prop := fnStandsForPrefixRemovalRow.holds Try.pinned (OpenSpec.ofChange fnStandsForPrefixRemovalSpec)

/-- ITS FALSE NEIGHBOUR: 'it returns false'. Refute it at one input. -/
def fnStandsForPrefixRemovalWrong : ChangeSpec := { name := "fnStandsForPrefixRemoval", fn := fun _ => fun
  | [d1, d2, d3, d4, d5, d6] => { results := [.lit (.bool false)], args := [d1, d2, d3, d4, d5, d6] }
  | _ => none }
def FnStandsForPrefixRemovalWrongFalsely : Prop := fnStandsForPrefixRemovalRow.holds Try.pinned (OpenSpec.ofChange fnStandsForPrefixRemovalWrong)

end Rows
end Go.Proofs.Qxb6618117a
