/-
  DERIVED. GIVEN WITH THE SEED: THE CARDS: each row of YbulkdcwkFmtRows.lean that lists a variable, with what it lists TIED to the program's text (the seventh form; the later family's looks); each row that meets fmt, with fmt's text TOLD by the authors' own Lean function (tested against real Go, not proved from fmt's source: count such statements apart). THE CARD IS WHAT COUNTS. Prove the row's statement (the work); the ties are given (YbulkdcwkFmtTie.lean); close each card by the builder's one call (the guide's Derived/Test/ToyasCard.lean, 'card_holds'). Laid BY PROGRAM, IN A SANDBOX (cutbox-door.mjs). By AI agents, Wed Nov 11 2026. No macro, syntax, notation, axiom, sorry.
-/
import Derived.Test.YbulkdcwkFmtRows
import GoSem.ClaimSeven
namespace Go.Proofs.YbulkdcwkFmt
namespace Rows

/-- THE TOLD CARD OF 'pov.LawS5210ASeq'. -/
def lawS5210ASeqCard : Claim7 := { stood := { row := lawS5210ASeqRow, standIns := [], harness := (true, "4f0c0533064db38c760815bb863acb0a6cffd8f0ba8102475f9e66b413a2ed5b"), looks := false }, told := true, goes := false }
def LawS5210ASeqToldSaid : Prop := Claim7.holds Ybaf.pinned (.plain (OpenSpec.ofChange lawS5210ASeqSpec)) lawS5210ASeqCard
/-- ITS FALSE NEIGHBOUR. Refute it at one input. -/
def LawS5210ASeqToldWrongFalsely : Prop := Claim7.holds Ybaf.pinned (.plain (OpenSpec.ofChange lawS5210ASeqWrong)) lawS5210ASeqCard

/-- THE TOLD CARD OF 'pov.LawS5210AOnce'. -/
def lawS5210AOnceCard : Claim7 := { stood := { row := lawS5210AOnceRow, standIns := [], harness := (true, "4f0c0533064db38c760815bb863acb0a6cffd8f0ba8102475f9e66b413a2ed5b"), looks := false }, told := true, goes := false }
def LawS5210AOnceToldSaid : Prop := Claim7.holds Ybaf.pinned (.plain (OpenSpec.ofChange lawS5210AOnceSpec)) lawS5210AOnceCard
/-- ITS FALSE NEIGHBOUR. Refute it at one input. -/
def LawS5210AOnceToldWrongFalsely : Prop := Claim7.holds Ybaf.pinned (.plain (OpenSpec.ofChange lawS5210AOnceWrong)) lawS5210AOnceCard
end Rows
end Go.Proofs.YbulkdcwkFmt
