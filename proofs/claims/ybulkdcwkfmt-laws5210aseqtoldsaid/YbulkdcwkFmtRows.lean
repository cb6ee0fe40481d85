/-
  No cell of these rows narrows 'for every input' (looked for: loops, veiled, ifaces, maps, wideKeys, modest, calm, conditions, laid).
  DERIVED. THE GIVEN ROWS OF THIS SEAT. 2 by the template 'for every input the law returns true; each argument reads behind the call as it read before'; 0 by the template 'total and deterministic' (their statements: YbulkdcwkFmtTotals.lean).
  GIVEN WITH THE SEED: the statements are not yours to turn. If you find one false, say at which input.
  Laid BY PROGRAM, IN A SANDBOX (cutbox-rows.mjs): the forced cells as the released guide's own fill.sh prints them over the translation d258ef5c8f2fd6e9… (all of the seat's roots in one cut). By AI agents, Wed Nov 11 2026. No macro, syntax, notation, axiom, sorry.
-/
import Derived.Test.YbulkdcwkFmtChecked
import GoSem.Claim
import GoSem.ClaimJoined
import GoSem.ClaimMapViews
import Derived.JoinedTies
import Derived.KernelRfl
namespace Go.Proofs.YbulkdcwkFmt
/- THE CELL 'sum', in the pinned program and in every row, IS THE sha256 OF THE DUMP (.gsa) THAT YbulkdcwkFmtProg.lean LOADS. Nothing in Lean hashes anything: it is a label: what it is worth is what the hold of that sum in a sandbox is worth. -/
noncomputable def Ybaf.pinned : Pinned := { name := "ybulkdcwkfmt", sum := "d258ef5c8f2fd6e95858c8dcaa24d9fd4a0ede926c3d1750a22092be256554cb", checked := Ybaf.checked }
namespace Rows
def none {H : Type} : Left H := { results := [], args := [] }

/-- 'pov.LawS5210ASeq': WHATEVER THE INPUT: true; the input reads as it did. -/
def lawS5210ASeqSpec : ChangeSpec := { name := "lawS5210ASeq", fn := fun _ => fun
  | [d] => { results := [.lit (.bool true)], args := [d] }
  | _ => none }
def lawS5210ASeqRow : OpenClaim := { program := "ybulkdcwkfmt", sum := "d258ef5c8f2fd6e95858c8dcaa24d9fd4a0ede926c3d1750a22092be256554cb", func := "example.com/ray-scene-renderer/ray-scene-renderer/internal/pov.LawS5210ASeq", spec := "lawS5210ASeq", stops := ["fmt.Sprintf, its operands' methods called"], inPlace := ["fmt.Sprintf"], unfollowed := true, recurses := true, apart := false }
/-- NO THEOREM (fmt's text is open here; it may be false): for the released tool's asking of the row's closed facts alone. THE STATEMENT IS 'LawS5210ASeqToldSaid' (YbulkdcwkFmtCards.lean). -/
def LawS5210ASeqFormAsk : Prop := lawS5210ASeqRow.holds Ybaf.pinned (OpenSpec.ofChange lawS5210ASeqSpec)

/-- ITS FALSE NEIGHBOUR: 'it returns false'. Refute it at one input. -/
def lawS5210ASeqWrong : ChangeSpec := { name := "lawS5210ASeq", fn := fun _ => fun
  | [d] => { results := [.lit (.bool false)], args := [d] }
  | _ => none }
def LawS5210ASeqWrongFormAsk : Prop := lawS5210ASeqRow.holds Ybaf.pinned (OpenSpec.ofChange lawS5210ASeqWrong)

/-- 'pov.LawS5210AOnce': WHATEVER THE INPUT: true; the input reads as it did. -/
def lawS5210AOnceSpec : ChangeSpec := { name := "lawS5210AOnce", fn := fun _ => fun
  | [d1, d2, d3, d4, d5, d6] => { results := [.lit (.bool true)], args := [d1, d2, d3, d4, d5, d6] }
  | _ => none }
def lawS5210AOnceRow : OpenClaim := { program := "ybulkdcwkfmt", sum := "d258ef5c8f2fd6e95858c8dcaa24d9fd4a0ede926c3d1750a22092be256554cb", func := "example.com/ray-scene-renderer/ray-scene-renderer/internal/pov.LawS5210AOnce", spec := "lawS5210AOnce", stops := ["fmt.Sprintf, its operands' methods called"], inPlace := ["fmt.Sprintf"], unfollowed := true, recurses := true, apart := false }
/-- NO THEOREM (fmt's text is open here; it may be false): for the released tool's asking of the row's closed facts alone. THE STATEMENT IS 'LawS5210AOnceToldSaid' (YbulkdcwkFmtCards.lean). -/
def LawS5210AOnceFormAsk : Prop := lawS5210AOnceRow.holds Ybaf.pinned (OpenSpec.ofChange lawS5210AOnceSpec)

/-- ITS FALSE NEIGHBOUR: 'it returns false'. Refute it at one input. -/
def lawS5210AOnceWrong : ChangeSpec := { name := "lawS5210AOnce", fn := fun _ => fun
  | [d1, d2, d3, d4, d5, d6] => { results := [.lit (.bool false)], args := [d1, d2, d3, d4, d5, d6] }
  | _ => none }
def LawS5210AOnceWrongFormAsk : Prop := lawS5210AOnceRow.holds Ybaf.pinned (OpenSpec.ofChange lawS5210AOnceWrong)

end Rows
end Go.Proofs.YbulkdcwkFmt
