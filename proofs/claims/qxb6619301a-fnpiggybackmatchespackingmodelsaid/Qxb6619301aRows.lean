/-
  No cell of these rows narrows 'for every input' (looked for: loops, veiled, ifaces, maps, wideKeys, modest, calm, conditions, laid).
  DERIVED. THE GIVEN ROWS OF THIS SEAT. 1 by the template 'for every input the law returns true; each argument reads behind the call as it read before'; 0 by the template 'total and deterministic' (their statements: Qxb6619301aTotals.lean).
  GIVEN WITH THE SEED: the statements are not yours to turn. If you find one false, say at which input.
  Laid BY PROGRAM, IN A SANDBOX (cutbox-rows.mjs): the forced cells as the released guide's own fill.sh prints them over the translation a18f42aada4a43f9… (all of the seat's roots in one cut). By AI agents, Wed Nov 11 2026. No macro, syntax, notation, axiom, sorry.
-/
import Derived.Test.Qxb6619301aChecked
import GoSem.Claim
import GoSem.ClaimJoined
import GoSem.ClaimMapViews
import Derived.JoinedTies
import Derived.KernelRfl
namespace Go.Proofs.Qxb6619301a
/- THE CELL 'sum', in the pinned program and in every row, IS THE sha256 OF THE DUMP (.gsa) THAT Qxb6619301aProg.lean LOADS. Nothing in Lean hashes anything: it is a label: what it is worth is what the hold of that sum in a sandbox is worth. -/
noncomputable def Try.pinned : Pinned := { name := "qxb6619301a", sum := "a18f42aada4a43f9f3975b8c5b3a96f52eea186d9b9f9bf741edf57c16671e76", checked := Try.checked }
namespace Rows
def none {H : Type} : Left H := { results := [], args := [] }

/-- 'zzlaws_mgcp_b1.FnPiggybackMatchesPackingModel': WHATEVER THE INPUT: true; the input reads as it did. -/
def fnPiggybackMatchesPackingModelSpec : ChangeSpec := { name := "fnPiggybackMatchesPackingModel", fn := fun _ => fun
  | [d1, d2] => { results := [.lit (.bool true)], args := [d1, d2] }
  | _ => none }
def fnPiggybackMatchesPackingModelRow : OpenClaim := { program := "qxb6619301a", sum := "a18f42aada4a43f9f3975b8c5b3a96f52eea186d9b9f9bf741edf57c16671e76", func := "example.com/hookflash/hookflash/zzlaws_mgcp_b1.FnPiggybackMatchesPackingModel", spec := "fnPiggybackMatchesPackingModel", apart := false }
def FnPiggybackMatchesPackingModelSaid : Prop := fnPiggybackMatchesPackingModelRow.holds Try.pinned (OpenSpec.ofChange fnPiggybackMatchesPackingModelSpec)

/-- ITS FALSE NEIGHBOUR: 'it returns false'. Refute it at one input. -/
def fnPiggybackMatchesPackingModelWrong : ChangeSpec := { name := "fnPiggybackMatchesPackingModel", fn := fun _ => fun
  | [d1, d2] => { results := [.lit (.bool false)], args := [d1, d2] }
  | _ => none }
def FnPiggybackMatchesPackingModelWrongFalsely : Prop := fnPiggybackMatchesPackingModelRow.holds Try.pinned (OpenSpec.ofChange fnPiggybackMatchesPackingModelWrong)

end Rows
end Go.Proofs.Qxb6619301a
