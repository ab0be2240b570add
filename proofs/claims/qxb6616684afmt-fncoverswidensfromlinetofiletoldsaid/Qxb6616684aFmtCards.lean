/-
  DERIVED. GIVEN WITH THE SEED: THE CARDS: each row of Qxb6616684aFmtRows.lean that lists a variable, with what it lists TIED to the program's text (the seventh form; the later family's looks); each row that meets fmt, with fmt's text TOLD by the authors' own Lean function (tested against real Go, not proved from fmt's source: count such statements apart). THE CARD IS WHAT COUNTS. Prove the row's statement (the work); the ties are given (Qxb6616684aFmtTie.lean); close each card by the builder's one call (the guide's Derived/Test/ToyasCard.lean, 'card_holds'). Laid BY PROGRAM, IN A SANDBOX (cutbox-door.mjs). By AI agents, Wed Nov 11 2026. No macro, syntax, notation, axiom, sorry.
-/
import Derived.Test.Qxb6616684aFmtRows
import GoSem.ClaimSeven
namespace Go.Proofs.Qxb6616684aFmt
namespace Rows

/-- THE TOLD CARD OF 'zzlaws_ignore_b1.FnCoversAgreesWithScope'. -/
def fnCoversAgreesWithScopeCard : Claim7 := { stood := { row := fnCoversAgreesWithScopeRow, standIns := [], harness := (true, "9d26105b5ad67dfd5cc05d2a8492fb640981a5ae4af52d7ef72ea9325ec55805"), looks := false }, told := true, goes := false }
def FnCoversAgreesWithScopeToldSaid : Prop := Claim7.holds Tryf.pinned (.plain (OpenSpec.ofChange fnCoversAgreesWithScopeSpec)) fnCoversAgreesWithScopeCard
/-- ITS FALSE NEIGHBOUR. Refute it at one input. -/
def FnCoversAgreesWithScopeToldWrongFalsely : Prop := Claim7.holds Tryf.pinned (.plain (OpenSpec.ofChange fnCoversAgreesWithScopeWrong)) fnCoversAgreesWithScopeCard

/-- THE TOLD CARD OF 'zzlaws_ignore_b1.FnCoversWidensFromLineToFile'. -/
def fnCoversWidensFromLineToFileCard : Claim7 := { stood := { row := fnCoversWidensFromLineToFileRow, standIns := [], harness := (true, "9d26105b5ad67dfd5cc05d2a8492fb640981a5ae4af52d7ef72ea9325ec55805"), looks := false }, told := true, goes := false }
def FnCoversWidensFromLineToFileToldSaid : Prop := Claim7.holds Tryf.pinned (.plain (OpenSpec.ofChange fnCoversWidensFromLineToFileSpec)) fnCoversWidensFromLineToFileCard
/-- ITS FALSE NEIGHBOUR. Refute it at one input. -/
def FnCoversWidensFromLineToFileToldWrongFalsely : Prop := Claim7.holds Tryf.pinned (.plain (OpenSpec.ofChange fnCoversWidensFromLineToFileWrong)) fnCoversWidensFromLineToFileCard

/-- THE TOLD CARD OF 'zzlaws_ignore_b1.FnDiagnosticMovesWithItsComment'. -/
def fnDiagnosticMovesWithItsCommentCard : Claim7 := { stood := { row := fnDiagnosticMovesWithItsCommentRow, standIns := [], harness := (true, "9d26105b5ad67dfd5cc05d2a8492fb640981a5ae4af52d7ef72ea9325ec55805"), looks := false }, told := true, goes := false }
def FnDiagnosticMovesWithItsCommentToldSaid : Prop := Claim7.holds Tryf.pinned (.plain (OpenSpec.ofChange fnDiagnosticMovesWithItsCommentSpec)) fnDiagnosticMovesWithItsCommentCard
/-- ITS FALSE NEIGHBOUR. Refute it at one input. -/
def FnDiagnosticMovesWithItsCommentToldWrongFalsely : Prop := Claim7.holds Tryf.pinned (.plain (OpenSpec.ofChange fnDiagnosticMovesWithItsCommentWrong)) fnDiagnosticMovesWithItsCommentCard
end Rows
end Go.Proofs.Qxb6616684aFmt
