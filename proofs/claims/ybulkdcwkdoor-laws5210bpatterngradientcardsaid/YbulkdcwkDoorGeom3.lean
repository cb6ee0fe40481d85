/-
  OWN WORK. Walks of package geom over words: Undo; after, then, Scale from the identity.
-/
import Derived.Test.YbulkdcwkDoorGeom2
import Derived.Deep.LoopGhost
namespace Go.Proofs.YbulkdcwkDoor
open Go.RowKit
set_option linter.unusedVariables false
attribute [local go_sem] run_store_float run_equalIn_float

set_option maxRecDepth 100000 in
set_option maxHeartbeats 1000000 in
theorem undo_run (b o : Nat) (m : Nat → Nat) (x y z u v t u' v' t' : Nat) (w : World) (ha : Aff w b o m) (h0 : Row (m 0) (m 1) (m 2) x y z u) (h1 : Row (m 3) (m 4) (m 5) x y z v) (h2 : Row (m 6) (m 7) (m 8) x y z t)
    (a0 : D.add u 0 = some u') (a1 : D.add v 0 = some v') (a2 : D.add t 0 = some t') :
    Calls Ybad.prog 14 #[.pointer (some ⟨b, o, none⟩), .agg #[.float .f64 x, .float .f64 y, .float .f64 z]] w fun e w' => e = .returned (.agg #[.float .f64 u', .float .f64 v', .float .f64 t']) ∧ Below w.heap.size w w' := by
  have HA := hide ha
  have H0 := hide h0
  have H1 := hide h1
  have H2 := hide h2
  have HA0 := hide a0
  have HA1 := hide a1
  have HA2 := hide a2
  clear ha h0 h1 h2 a0 a1 a2
  go_enter Ybad.func14, Ybad.ntmps14
  go_wp2_with fail
  obtain ⟨w1, hw1⟩ : ∃ w1, w1 = (w.alloc (.cells #[.float .f64 x, .float .f64 y, .float .f64 z] 32)).alloc (.cells #[.float .f64 0, .float .f64 0, .float .f64 0] 32) := ⟨_, rfl⟩
  have hbel : Below w.heap.size w w1 := by rw [hw1]; exact ((Below.refl _ _).alloc (Nat.le_refl _) _).alloc (by simp) _
  have hres : w1.heap[w.heap.size + 1]? = some (.cells #[.float .f64 0, .float .f64 0, .float .f64 0] 32 (0, 0)) := by
    rw [hw1]
    have := heap_alloc_new (w.alloc (.cells #[.float .f64 x, .float .f64 y, .float .f64 z] 32)) (.cells #[.float .f64 0, .float .f64 0, .float .f64 0] 32)
    simpa using this
  have hv : w1.heap[w.heap.size]? = some (.cells #[.float .f64 x, .float .f64 y, .float .f64 z] 32 (0, 0)) := by
    rw [hw1, Below.heap_alloc _ _ _ (by simp)]
    exact heap_alloc_new w _
  have ha1 := HA.out.below hbel HA.out.lt
  rw [← hw1]
  generalize hB : w.heap.size = B at *
  have v0 := blk_cell (o := 0) hv rfl
  have v1 := blk_cell (o := 1) hv rfl
  have v2 := blk_cell (o := 2) hv rfl
  have HA1' := hide ha1
  have HR := hide hres
  have HBel := hide hbel
  have hlt1 := blk_lt hres
  have HhB := hide hB
  clear hw1 hbel hres hv ha1 hB
  go_region_with (go_at_call 23; refine (point_run b o m x y z u v t u' v' t' w1.drew (by exact HA1'.out.below ((Below.refl _ _).drew) HA1'.out.lt) H0.out H1.out H2.out HA0.out HA1.out HA2.out).mono ?_; rintro _ w3 ⟨rfl, hb3⟩; have hb3' : Below w1.heap.size w1 w3 := undrew hb3; have hr3 := Below.blk hb3' HR.out hlt1; have r0 := blk_cell (o := 0) hr3 rfl; have r1 := blk_cell (o := 1) hr3 rfl; have r2 := blk_cell (o := 2) hr3 rfl; have f0 := blk_frozen (o := 0) hr3; have f1 := blk_frozen (o := 1) hr3; have f2 := blk_frozen (o := 2) hr3; have HB3 := hide hb3'; clear hr3 hb3 hb3')
  all_goals
    go_wp2_with fail
    refine bodyPost_ret (v := .agg #[.float .f64 u', .float .f64 v', .float .f64 t']) (by simp [results, Ybad.results14, go_sem, r0, r1, r2]) rfl ⟨rfl, ?_⟩
    rw [HhB.out]
    exact ((HBel.out.trans (HB3.out.mono (by omega))).setCell (by simp) _).setCell (by simp) _ |>.setCell (by simp) _

end Go.Proofs.YbulkdcwkDoor
