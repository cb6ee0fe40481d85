/-
  No cell of these rows narrows 'for every input' (looked for: loops, veiled, ifaces, maps, wideKeys, modest, calm, conditions, laid).
  DERIVED. THE GIVEN ROWS OF THIS SEAT. 2 by the template 'for every input the law returns true; each argument reads behind the call as it read before'; 0 by the template 'total and deterministic' (their statements: YbulkdcxmTotals.lean).
  GIVEN WITH THE SEED: the statements are not yours to turn. If you find one false, say at which input.
  Laid BY PROGRAM, IN A SANDBOX (cutbox-rows.mjs): the forced cells as the released guide's own fill.sh prints them over the translation 73cca2afbb8f70db… (all of the seat's roots in one cut). By AI agents, Wed Nov 11 2026. No macro, syntax, notation, axiom, sorry.
-/
import Derived.Test.YbulkdcxmChecked
import GoSem.Claim
import GoSem.ClaimJoined
import GoSem.ClaimMapViews
import Derived.JoinedTies
import Derived.KernelRfl
namespace Go.Proofs.Ybulkdcxm
/- THE CELL 'sum', in the pinned program and in every row, IS THE sha256 OF THE DUMP (.gsa) THAT YbulkdcxmProg.lean LOADS. Nothing in Lean hashes anything: it is a label: what it is worth is what the hold of that sum in a sandbox is worth. -/
noncomputable def Yba.pinned : Pinned := { name := "ybulkdcxm", sum := "73cca2afbb8f70dbf22ae1914ce54acb12abbdce8cf5ef7ab85bbf25cf66f059", checked := Yba.checked }
namespace Rows
def none {H : Type} : Left H := { results := [], args := [] }

/-- 'adversary.LawS5212CTake': WHATEVER THE INPUT: true; the input reads as it did. -/
def lawS5212CTakeSpec : ChangeSpec := { name := "lawS5212CTake", fn := fun _ => fun
  | [d1, d2, d3] => { results := [.lit (.bool true)], args := [d1, d2, d3] }
  | _ => none }
def lawS5212CTakeRow : OpenClaim := { program := "ybulkdcxm", sum := "73cca2afbb8f70dbf22ae1914ce54acb12abbdce8cf5ef7ab85bbf25cf66f059", func := "example.com/joinview/joinview/pkg/adversary.LawS5212CTake", spec := "lawS5212CTake", unfollowed := true, recurses := true, apart := false }
def LawS5212CTakeSaid : Prop := lawS5212CTakeRow.holds Yba.pinned (OpenSpec.ofChange lawS5212CTakeSpec)

/-- ITS FALSE NEIGHBOUR: 'it returns false'. Refute it at one input. -/
def lawS5212CTakeWrong : ChangeSpec := { name := "lawS5212CTake", fn := fun _ => fun
  | [d1, d2, d3] => { results := [.lit (.bool false)], args := [d1, d2, d3] }
  | _ => none }
def LawS5212CTakeWrongFalsely : Prop := lawS5212CTakeRow.holds Yba.pinned (OpenSpec.ofChange lawS5212CTakeWrong)

/-- 'adversary.LawS5212CScript': WHATEVER THE INPUT: true; the input reads as it did. -/
def lawS5212CScriptSpec : ChangeSpec := { name := "lawS5212CScript", fn := fun _ => fun
  | [d1, d2, d3] => { results := [.lit (.bool true)], args := [d1, d2, d3] }
  | _ => none }
def lawS5212CScriptRow : OpenClaim := { program := "ybulkdcxm", sum := "73cca2afbb8f70dbf22ae1914ce54acb12abbdce8cf5ef7ab85bbf25cf66f059", func := "example.com/joinview/joinview/pkg/adversary.LawS5212CScript", spec := "lawS5212CScript", unfollowed := true, recurses := true, apart := false }
def LawS5212CScriptSaid : Prop := lawS5212CScriptRow.holds Yba.pinned (OpenSpec.ofChange lawS5212CScriptSpec)

/-- ITS FALSE NEIGHBOUR: 'it returns false'. Refute it at one input. -/
def lawS5212CScriptWrong : ChangeSpec := { name := "lawS5212CScript", fn := fun _ => fun
  | [d1, d2, d3] => { results := [.lit (.bool false)], args := [d1, d2, d3] }
  | _ => none }
def LawS5212CScriptWrongFalsely : Prop := lawS5212CScriptRow.holds Yba.pinned (OpenSpec.ofChange lawS5212CScriptWrong)

end Rows
end Go.Proofs.Ybulkdcxm
