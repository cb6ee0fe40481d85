/-
  NARROWER THAN 'FOR EVERY INPUT', by the rows' own cells (each row's printed sentence says how): LawS5210BPlainColor: laid · LawS5210BPatternGradient: laid.
  DERIVED. THE GIVEN ROWS OF THIS SEAT. 2 by the template 'for every input the law returns true; each argument reads behind the call as it read before'; 0 by the template 'total and deterministic' (their statements: YbulkdcwkDoorTotals.lean).
  GIVEN WITH THE SEED: the statements are not yours to turn. If you find one false, say at which input.
  Laid BY PROGRAM, IN A SANDBOX (cutbox-rows.mjs): the forced cells as the released guide's own fill.sh prints them over the translation 9ff927dfb12cbf99… (all of the seat's roots in one cut). By AI agents, Wed Nov 11 2026. No macro, syntax, notation, axiom, sorry.
-/
import Derived.Test.YbulkdcwkDoorChecked
import GoSem.Claim
import GoSem.ClaimJoined
import GoSem.ClaimMapViews
import Derived.JoinedTies
import Derived.KernelRfl
namespace Go.Proofs.YbulkdcwkDoor
/- THE CELL 'sum', in the pinned program and in every row, IS THE sha256 OF THE DUMP (.gsa) THAT YbulkdcwkDoorProg.lean LOADS. Nothing in Lean hashes anything: it is a label: what it is worth is what the hold of that sum in a sandbox is worth. -/
noncomputable def Ybad.pinned : Pinned := { name := "ybulkdcwkdoor", sum := "9ff927dfb12cbf99e99d4138da6dda69dbbb47fd0509f88c22cd55ee25dafcf4", checked := Ybad.checked }
namespace Rows
def none {H : Type} : Left H := { results := [], args := [] }

/- WHAT THE LISTED PACKAGE-LEVEL VARIABLES READ AS WHEN THE CALL BEGINS. Each datum BY PROGRAM (the guide's laid-datum.mjs) off the statement by which the dump's own 'gosem.cut.vars' lays the variable. In a bare row this is a premise. The card (YbulkdcwkDoorCards.lean) ties it to the program's text. -/
def laid_example_com_ray_scene_renderer_ray_scene_renderer_internal_geom_identity {H : Type} : DataW H := .agg [.agg [.lit (.float .f64 4607182418800017408), .lit (.float .f64 0), .lit (.float .f64 0)], .agg [.lit (.float .f64 0), .lit (.float .f64 4607182418800017408), .lit (.float .f64 0)], .agg [.lit (.float .f64 0), .lit (.float .f64 0), .lit (.float .f64 4607182418800017408)]]

/-- 'scene.LawS5210BPlainColor': WHATEVER THE INPUT: true; the input reads as it did. -/
def lawS5210BPlainColorSpec : ChangeSpec := { name := "lawS5210BPlainColor", vars := ["example.com/ray-scene-renderer/ray-scene-renderer/internal/geom.identity"], fn := fun _ => fun
  | [d1, d2, d3, d4, d5, d6, d7, d8, d9, d10, g1] => { results := [.lit (.bool true)], args := [d1, d2, d3, d4, d5, d6, d7, d8, d9, d10], vars := [g1] }
  | _ => none }
def lawS5210BPlainColorRow : OpenClaim := { program := "ybulkdcwkdoor", sum := "9ff927dfb12cbf99e99d4138da6dda69dbbb47fd0509f88c22cd55ee25dafcf4", func := "example.com/ray-scene-renderer/ray-scene-renderer/internal/scene.LawS5210BPlainColor", spec := "lawS5210BPlainColor", inPlace := ["math.Float64bits", "math.Float64frombits", "math.archFloor", "math.archTrunc"], named := ["example.com/ray-scene-renderer/ray-scene-renderer/internal/geom.identity"], apart := false, laid := [("example.com/ray-scene-renderer/ray-scene-renderer/internal/geom.identity", laid_example_com_ray_scene_renderer_ray_scene_renderer_internal_geom_identity)] }
def LawS5210BPlainColorSaid : Prop := lawS5210BPlainColorRow.holds Ybad.pinned (OpenSpec.ofChange lawS5210BPlainColorSpec)

/-- ITS FALSE NEIGHBOUR: 'it returns false'. Refute it at one input. -/
def lawS5210BPlainColorWrong : ChangeSpec := { name := "lawS5210BPlainColor", vars := ["example.com/ray-scene-renderer/ray-scene-renderer/internal/geom.identity"], fn := fun _ => fun
  | [d1, d2, d3, d4, d5, d6, d7, d8, d9, d10, g1] => { results := [.lit (.bool false)], args := [d1, d2, d3, d4, d5, d6, d7, d8, d9, d10], vars := [g1] }
  | _ => none }
def LawS5210BPlainColorWrongFalsely : Prop := lawS5210BPlainColorRow.holds Ybad.pinned (OpenSpec.ofChange lawS5210BPlainColorWrong)

/-- 'scene.LawS5210BPatternGradient': WHATEVER THE INPUT: true; the input reads as it did. -/
def lawS5210BPatternGradientSpec : ChangeSpec := { name := "lawS5210BPatternGradient", vars := ["example.com/ray-scene-renderer/ray-scene-renderer/internal/geom.identity"], fn := fun _ => fun
  | [d1, d2, d3, d4, d5, d6, d7, d8, d9, d10, d11, g1] => { results := [.lit (.bool true)], args := [d1, d2, d3, d4, d5, d6, d7, d8, d9, d10, d11], vars := [g1] }
  | _ => none }
def lawS5210BPatternGradientRow : OpenClaim := { program := "ybulkdcwkdoor", sum := "9ff927dfb12cbf99e99d4138da6dda69dbbb47fd0509f88c22cd55ee25dafcf4", func := "example.com/ray-scene-renderer/ray-scene-renderer/internal/scene.LawS5210BPatternGradient", spec := "lawS5210BPatternGradient", inPlace := ["math.archFloor", "math.Float64bits", "math.Float64frombits", "math.archTrunc"], named := ["example.com/ray-scene-renderer/ray-scene-renderer/internal/geom.identity"], apart := false, laid := [("example.com/ray-scene-renderer/ray-scene-renderer/internal/geom.identity", laid_example_com_ray_scene_renderer_ray_scene_renderer_internal_geom_identity)] }
def LawS5210BPatternGradientSaid : Prop := lawS5210BPatternGradientRow.holds Ybad.pinned (OpenSpec.ofChange lawS5210BPatternGradientSpec)

/-- ITS FALSE NEIGHBOUR: 'it returns false'. Refute it at one input. -/
def lawS5210BPatternGradientWrong : ChangeSpec := { name := "lawS5210BPatternGradient", vars := ["example.com/ray-scene-renderer/ray-scene-renderer/internal/geom.identity"], fn := fun _ => fun
  | [d1, d2, d3, d4, d5, d6, d7, d8, d9, d10, d11, g1] => { results := [.lit (.bool false)], args := [d1, d2, d3, d4, d5, d6, d7, d8, d9, d10, d11], vars := [g1] }
  | _ => none }
def LawS5210BPatternGradientWrongFalsely : Prop := lawS5210BPatternGradientRow.holds Ybad.pinned (OpenSpec.ofChange lawS5210BPatternGradientWrong)

end Rows
end Go.Proofs.YbulkdcwkDoor
