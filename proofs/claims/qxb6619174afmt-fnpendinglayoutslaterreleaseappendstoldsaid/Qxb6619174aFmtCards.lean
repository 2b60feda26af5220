/-
  DERIVED. GIVEN WITH THE SEED: THE CARDS: each row of Qxb6619174aFmtRows.lean that lists a variable, with what it lists TIED to the program's text (the seventh form; the later family's looks); each row that meets fmt, with fmt's text TOLD by the authors' own Lean function (tested against real Go, not proved from fmt's source: count such statements apart). THE CARD IS WHAT COUNTS. Prove the row's statement (the work); the ties are given (Qxb6619174aFmtTie.lean); close each card by the builder's one call (the guide's Derived/Test/ToyasCard.lean, 'card_holds'). Laid BY PROGRAM, IN A SANDBOX (cutbox-door.mjs). By AI agents, Wed Nov 11 2026. No macro, syntax, notation, axiom, sorry.
-/
import Derived.Test.Qxb6619174aFmtRows
import GoSem.ClaimSeven
namespace Go.Proofs.Qxb6619174aFmt
namespace Rows

/-- THE TOLD CARD OF 'zzlaws_internal_store_e1.FnPendingLayoutsOneStepAtATime'. -/
def fnPendingLayoutsOneStepAtATimeCard : Claim7 := { stood := { row := fnPendingLayoutsOneStepAtATimeRow, standIns := [], harness := (true, "984fa88ec9611c3bf4bf9efa514c39cc5faeaa38fb44f1fc35f71c93bfc59183"), looks := false }, told := true, goes := false }
def FnPendingLayoutsOneStepAtATimeToldSaid : Prop := Claim7.holds Tryf.pinned (.plain (OpenSpec.ofChange fnPendingLayoutsOneStepAtATimeSpec)) fnPendingLayoutsOneStepAtATimeCard
/-- ITS FALSE NEIGHBOUR. Refute it at one input. -/
def FnPendingLayoutsOneStepAtATimeToldWrongFalsely : Prop := Claim7.holds Tryf.pinned (.plain (OpenSpec.ofChange fnPendingLayoutsOneStepAtATimeWrong)) fnPendingLayoutsOneStepAtATimeCard

/-- THE TOLD CARD OF 'zzlaws_internal_store_e1.FnPendingLayoutsLaterReleaseAppends'. -/
def fnPendingLayoutsLaterReleaseAppendsCard : Claim7 := { stood := { row := fnPendingLayoutsLaterReleaseAppendsRow, standIns := [], harness := (true, "984fa88ec9611c3bf4bf9efa514c39cc5faeaa38fb44f1fc35f71c93bfc59183"), looks := false }, told := true, goes := false }
def FnPendingLayoutsLaterReleaseAppendsToldSaid : Prop := Claim7.holds Tryf.pinned (.plain (OpenSpec.ofChange fnPendingLayoutsLaterReleaseAppendsSpec)) fnPendingLayoutsLaterReleaseAppendsCard
/-- ITS FALSE NEIGHBOUR. Refute it at one input. -/
def FnPendingLayoutsLaterReleaseAppendsToldWrongFalsely : Prop := Claim7.holds Tryf.pinned (.plain (OpenSpec.ofChange fnPendingLayoutsLaterReleaseAppendsWrong)) fnPendingLayoutsLaterReleaseAppendsCard
end Rows
end Go.Proofs.Qxb6619174aFmt
