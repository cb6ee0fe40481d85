/-
  No cell of these rows narrows 'for every input' (looked for: loops, veiled, ifaces, maps, wideKeys, modest, calm, conditions, laid).
  DERIVED. THE GIVEN ROWS OF THIS SEAT. 1 by the template 'for every input the law returns true; each argument reads behind the call as it read before'; 0 by the template 'total and deterministic' (their statements: YbulkdddkTotals.lean).
  GIVEN WITH THE SEED: the statements are not yours to turn. If you find one false, say at which input.
  Laid BY PROGRAM, IN A SANDBOX (cutbox-rows.mjs): the forced cells as the released guide's own fill.sh prints them over the translation 6b6fcb14eb376929… (all of the seat's roots in one cut). By AI agents, Wed Nov 11 2026. No macro, syntax, notation, axiom, sorry.
-/
import Derived.Test.YbulkdddkChecked
import GoSem.Claim
import GoSem.ClaimJoined
import GoSem.ClaimMapViews
import Derived.JoinedTies
import Derived.KernelRfl
namespace Go.Proofs.Ybulkdddk
/- THE CELL 'sum', in the pinned program and in every row, IS THE sha256 OF THE DUMP (.gsa) THAT YbulkdddkProg.lean LOADS. Nothing in Lean hashes anything: it is a label: what it is worth is what the hold of that sum in a sandbox is worth. -/
noncomputable def Yba.pinned : Pinned := { name := "ybulkdddk", sum := "6b6fcb14eb3769297b46152da7dd63b7fbcaf9a1e770c2df80ac44522aa12ea9", checked := Yba.checked }
namespace Rows
def none {H : Type} : Left H := { results := [], args := [] }

/-- 'simulation.LawS5223AGate': WHATEVER THE INPUT: true; the input reads as it did. -/
def lawS5223AGateSpec : ChangeSpec := { name := "lawS5223AGate", fn := fun _ => fun
  | [d1, d2] => { results := [.lit (.bool true)], args := [d1, d2] }
  | _ => none }
def lawS5223AGateRow : OpenClaim := { program := "ybulkdddk", sum := "6b6fcb14eb3769297b46152da7dd63b7fbcaf9a1e770c2df80ac44522aa12ea9", func := "example.com/hustings/hustings/simulation.LawS5223AGate", spec := "lawS5223AGate", unfollowed := true, recurses := true, plainKeys := false, apart := false }
def LawS5223AGateSaid : Prop := lawS5223AGateRow.holds Yba.pinned (OpenSpec.ofChange lawS5223AGateSpec)

/-- ITS FALSE NEIGHBOUR: 'it returns false'. Refute it at one input. -/
def lawS5223AGateWrong : ChangeSpec := { name := "lawS5223AGate", fn := fun _ => fun
  | [d1, d2] => { results := [.lit (.bool false)], args := [d1, d2] }
  | _ => none }
def LawS5223AGateWrongFalsely : Prop := lawS5223AGateRow.holds Yba.pinned (OpenSpec.ofChange lawS5223AGateWrong)

end Rows
end Go.Proofs.Ybulkdddk
