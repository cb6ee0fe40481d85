/-
  DERIVED. GIVEN WITH THE SEED: THE PROGRAM's TIES (one call each: nine closed facts by the kernel) AND EACH ROW's TIE, after the 31st guide's Derived/Test/Toyas{Tie, Card}.lean. No idea stands in it: it is a product of the set-up. Laid BY PROGRAM, IN A SANDBOX (cutbox-door.mjs). By AI agents, Wed Nov 11 2026. No macro, syntax, notation, axiom, sorry.
-/
import Derived.Test.YbulkdcwkDoorRows
import Derived.LaidByTextLater
import Derived.SevenTiedAt
import Derived.LaidSub
import Derived.LaidOnce
namespace Go.Proofs.YbulkdcwkDoor
open Go
set_option maxRecDepth 100000
theorem seatTie1 : Ybad.prog.laidByTextLater [("example.com/ray-scene-renderer/ray-scene-renderer/internal/geom.identity", Rows.laid_example_com_ray_scene_renderer_ray_scene_renderer_internal_geom_identity)] [.data] true :=
  Program.laidByTextLater_by_one 17 8 10 (by kernel_rfl) (by kernel_rfl) (by kernel_rfl) (by kernel_rfl) (by kernel_rfl) (by kernel_rfl) (fun _ _ => by kernel_rfl)
theorem noOwnUnsafe : Ybad.pinned.checked.prog.headLifts.contains "ownunsafe" = false := by kernel_rfl
theorem tie : Ybad.prog.laidByTextLater [("example.com/ray-scene-renderer/ray-scene-renderer/internal/geom.identity", Rows.laid_example_com_ray_scene_renderer_ray_scene_renderer_internal_geom_identity)] [.data] true :=
  Program.laidByTextLater.sub seatTie1 ["example.com/ray-scene-renderer/ray-scene-renderer/internal/geom.identity"] (by kernel_rfl) (by kernel_rfl)
theorem lawS5210BPlainColor_row_tie : Rows.lawS5210BPlainColorRow.laidByTextAt .later Ybad.pinned [.data] true :=
  OpenClaim.laidByTextAt_later rfl rfl tie noOwnUnsafe
theorem lawS5210BPatternGradient_row_tie : Rows.lawS5210BPatternGradientRow.laidByTextAt .later Ybad.pinned [.data] true :=
  OpenClaim.laidByTextAt_later rfl rfl tie noOwnUnsafe
end Go.Proofs.YbulkdcwkDoor
