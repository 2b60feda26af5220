/-
  No cell of these rows narrows 'for every input' (looked for: loops, veiled, ifaces, maps, wideKeys, modest, calm, conditions, laid).
  DERIVED. THE GIVEN ROWS OF THIS SEAT. 2 by the template 'for every input the law returns true; each argument reads behind the call as it read before'; 0 by the template 'total and deterministic' (their statements: Qxb6619174aFmtTotals.lean).
  GIVEN WITH THE SEED: the statements are not yours to turn. If you find one false, say at which input.
  Laid BY PROGRAM, IN A SANDBOX (cutbox-rows.mjs): the forced cells as the released guide's own fill.sh prints them over the translation 4ddcbae5e6ad134c… (all of the seat's roots in one cut). By AI agents, Wed Nov 11 2026. No macro, syntax, notation, axiom, sorry.
-/
import Derived.Test.Qxb6619174aFmtChecked
import GoSem.Claim
import GoSem.ClaimJoined
import GoSem.ClaimMapViews
import Derived.JoinedTies
import Derived.KernelRfl
namespace Go.Proofs.Qxb6619174aFmt
/- THE CELL 'sum', in the pinned program and in every row, IS THE sha256 OF THE DUMP (.gsa) THAT Qxb6619174aFmtProg.lean LOADS. Nothing in Lean hashes anything: it is a label: what it is worth is what the hold of that sum in a sandbox is worth. -/
noncomputable def Tryf.pinned : Pinned := { name := "qxb6619174afmt", sum := "4ddcbae5e6ad134ce866b2b8dfe1fb5d9ee8415f8b22d3f64bf8a64f53349142", checked := Tryf.checked }
namespace Rows
def none {H : Type} : Left H := { results := [], args := [] }

/-- 'zzlaws_internal_store_e1.FnPendingLayoutsOneStepAtATime': WHATEVER THE INPUT: true; the input reads as it did. -/
def fnPendingLayoutsOneStepAtATimeSpec : ChangeSpec := { name := "fnPendingLayoutsOneStepAtATime", fn := fun _ => fun
  | [d1, d2] => { results := [.lit (.bool true)], args := [d1, d2] }
  | _ => none }
def fnPendingLayoutsOneStepAtATimeRow : OpenClaim := { program := "qxb6619174afmt", sum := "4ddcbae5e6ad134ce866b2b8dfe1fb5d9ee8415f8b22d3f64bf8a64f53349142", func := "example.com/onceward/onceward/zzlaws_internal_store_e1.FnPendingLayoutsOneStepAtATime", spec := "fnPendingLayoutsOneStepAtATime", stops := ["fmt.errorf"], inPlace := ["fmt.errorf"], apart := false }
/-- NO THEOREM (fmt's text is open here; it may be false): for the released tool's asking of the row's closed facts alone. THE STATEMENT IS 'FnPendingLayoutsOneStepAtATimeToldSaid' (Qxb6619174aFmtCards.lean). -/
def FnPendingLayoutsOneStepAtATimeFormAsk : Prop := fnPendingLayoutsOneStepAtATimeRow.holds Tryf.pinned (OpenSpec.ofChange fnPendingLayoutsOneStepAtATimeSpec)

/-- ITS FALSE NEIGHBOUR: 'it returns false'. Refute it at one input. -/
def fnPendingLayoutsOneStepAtATimeWrong : ChangeSpec := { name := "fnPendingLayoutsOneStepAtATime", fn := fun _ => fun
  | [d1, d2] => { results := [.lit (.bool false)], args := [d1, d2] }
  | _ => none }
def FnPendingLayoutsOneStepAtATimeWrongFormAsk : Prop := fnPendingLayoutsOneStepAtATimeRow.holds Tryf.pinned (OpenSpec.ofChange fnPendingLayoutsOneStepAtATimeWrong)

/-- 'zzlaws_internal_store_e1.FnPendingLayoutsLaterReleaseAppends': WHATEVER THE INPUT: true; the input reads as it did. -/
def fnPendingLayoutsLaterReleaseAppendsSpec : ChangeSpec := { name := "fnPendingLayoutsLaterReleaseAppends", fn := fun _ => fun
  | [d1, d2, d3] => { results := [.lit (.bool true)], args := [d1, d2, d3] }
  | _ => none }
def fnPendingLayoutsLaterReleaseAppendsRow : OpenClaim := { program := "qxb6619174afmt", sum := "4ddcbae5e6ad134ce866b2b8dfe1fb5d9ee8415f8b22d3f64bf8a64f53349142", func := "example.com/onceward/onceward/zzlaws_internal_store_e1.FnPendingLayoutsLaterReleaseAppends", spec := "fnPendingLayoutsLaterReleaseAppends", stops := ["fmt.errorf"], inPlace := ["fmt.errorf"], apart := false }
/-- NO THEOREM (fmt's text is open here; it may be false): for the released tool's asking of the row's closed facts alone. THE STATEMENT IS 'FnPendingLayoutsLaterReleaseAppendsToldSaid' (Qxb6619174aFmtCards.lean). -/
def FnPendingLayoutsLaterReleaseAppendsFormAsk : Prop := fnPendingLayoutsLaterReleaseAppendsRow.holds Tryf.pinned (OpenSpec.ofChange fnPendingLayoutsLaterReleaseAppendsSpec)

/-- ITS FALSE NEIGHBOUR: 'it returns false'. Refute it at one input. -/
def fnPendingLayoutsLaterReleaseAppendsWrong : ChangeSpec := { name := "fnPendingLayoutsLaterReleaseAppends", fn := fun _ => fun
  | [d1, d2, d3] => { results := [.lit (.bool false)], args := [d1, d2, d3] }
  | _ => none }
def FnPendingLayoutsLaterReleaseAppendsWrongFormAsk : Prop := fnPendingLayoutsLaterReleaseAppendsRow.holds Tryf.pinned (OpenSpec.ofChange fnPendingLayoutsLaterReleaseAppendsWrong)

end Rows
end Go.Proofs.Qxb6619174aFmt
