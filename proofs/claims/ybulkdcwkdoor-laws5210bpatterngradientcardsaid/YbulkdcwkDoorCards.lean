/-
  DERIVED. GIVEN WITH THE SEED: THE CARDS: each row of YbulkdcwkDoorRows.lean that lists a variable, with what it lists TIED to the program's text (the seventh form; the later family's looks); each row that meets fmt, with fmt's text TOLD by the authors' own Lean function (tested against real Go, not proved from fmt's source: count such statements apart). THE CARD IS WHAT COUNTS. Prove the row's statement (the work); the ties are given (YbulkdcwkDoorTie.lean); close each card by the builder's one call (the guide's Derived/Test/ToyasCard.lean, 'card_holds'). Laid BY PROGRAM, IN A SANDBOX (cutbox-door.mjs). By AI agents, Wed Nov 11 2026. No macro, syntax, notation, axiom, sorry.
-/
import Derived.Test.YbulkdcwkDoorRows
import GoSem.ClaimSeven
namespace Go.Proofs.YbulkdcwkDoor
namespace Rows

/-- THE TIED CARD OF 'scene.LawS5210BPlainColor'. -/
def lawS5210BPlainColorCard : Claim7 := { stood := { row := lawS5210BPlainColorRow, standIns := [], harness := (true, "45305b8725e8a61243c6418107d1fb5f04db490c4f8f7d6fcfff78f64b4cd9b4"), looks := false }, kinds := [], alts := [], laidByText := true, laidKinds := [.data], laidTests := true, laidLooks := .later }
def LawS5210BPlainColorCardSaid : Prop := Claim7.holds Ybad.pinned (.plain (OpenSpec.ofChange lawS5210BPlainColorSpec)) lawS5210BPlainColorCard

/-- THE TIED CARD OF 'scene.LawS5210BPatternGradient'. -/
def lawS5210BPatternGradientCard : Claim7 := { stood := { row := lawS5210BPatternGradientRow, standIns := [], harness := (true, "45305b8725e8a61243c6418107d1fb5f04db490c4f8f7d6fcfff78f64b4cd9b4"), looks := false }, kinds := [], alts := [], laidByText := true, laidKinds := [.data], laidTests := true, laidLooks := .later }
def LawS5210BPatternGradientCardSaid : Prop := Claim7.holds Ybad.pinned (.plain (OpenSpec.ofChange lawS5210BPatternGradientSpec)) lawS5210BPatternGradientCard
end Rows
end Go.Proofs.YbulkdcwkDoor
