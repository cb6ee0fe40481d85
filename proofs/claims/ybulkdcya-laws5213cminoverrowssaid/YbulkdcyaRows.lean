/-
  No cell of these rows narrows 'for every input' (looked for: loops, veiled, ifaces, maps, wideKeys, modest, calm, conditions, laid).
  DERIVED. THE GIVEN ROWS OF THIS SEAT. 1 by the template 'for every input the law returns true; each argument reads behind the call as it read before'; 0 by the template 'total and deterministic' (their statements: YbulkdcyaTotals.lean).
  GIVEN WITH THE SEED: the statements are not yours to turn. If you find one false, say at which input.
  Laid BY PROGRAM, IN A SANDBOX (cutbox-rows.mjs): the forced cells as the released guide's own fill.sh prints them over the translation 828e06d8e5c673d1… (all of the seat's roots in one cut). By AI agents, Wed Nov 11 2026. No macro, syntax, notation, axiom, sorry.
-/
import Derived.Test.YbulkdcyaChecked
import GoSem.Claim
import GoSem.ClaimJoined
import GoSem.ClaimMapViews
import Derived.JoinedTies
import Derived.KernelRfl
namespace Go.Proofs.Ybulkdcya
/- THE CELL 'sum', in the pinned program and in every row, IS THE sha256 OF THE DUMP (.gsa) THAT YbulkdcyaProg.lean LOADS. Nothing in Lean hashes anything: it is a label: what it is worth is what the hold of that sum in a sandbox is worth. -/
noncomputable def Yba.pinned : Pinned := { name := "ybulkdcya", sum := "828e06d8e5c673d16a6911d32061949cb016a1ff07763d9eb4f81a3537ca2dcd", checked := Yba.checked }
namespace Rows
def none {H : Type} : Left H := { results := [], args := [] }

/-- 'driftcast.LawS5213CMinOverRows': WHATEVER THE INPUT: true; the input reads as it did. -/
def lawS5213CMinOverRowsSpec : ChangeSpec := { name := "lawS5213CMinOverRows", fn := fun _ => fun
  | [d1, d2, d3] => { results := [.lit (.bool true)], args := [d1, d2, d3] }
  | _ => none }
def lawS5213CMinOverRowsRow : OpenClaim := { program := "ybulkdcya", sum := "828e06d8e5c673d16a6911d32061949cb016a1ff07763d9eb4f81a3537ca2dcd", func := "example.com/driftcast/driftcast.LawS5213CMinOverRows", spec := "lawS5213CMinOverRows", apart := false }
def LawS5213CMinOverRowsSaid : Prop := lawS5213CMinOverRowsRow.holds Yba.pinned (OpenSpec.ofChange lawS5213CMinOverRowsSpec)

/-- ITS FALSE NEIGHBOUR: 'it returns false'. Refute it at one input. -/
def lawS5213CMinOverRowsWrong : ChangeSpec := { name := "lawS5213CMinOverRows", fn := fun _ => fun
  | [d1, d2, d3] => { results := [.lit (.bool false)], args := [d1, d2, d3] }
  | _ => none }
def LawS5213CMinOverRowsWrongFalsely : Prop := lawS5213CMinOverRowsRow.holds Yba.pinned (OpenSpec.ofChange lawS5213CMinOverRowsWrong)

end Rows
end Go.Proofs.Ybulkdcya
