/-
  OWN WORK. Pigment.At with a gradient, over words.
-/
import Derived.Test.YbulkdcwkDoorMap2
import Derived.Test.YbulkdcwkDoorScale
namespace Go.Proofs.YbulkdcwkDoor
open Go.RowKit
set_option linter.unusedVariables false
attribute [local go_sem] run_store_float run_equalIn_float

/-- The pigment's 21 cells. -/
def pigV (g0 g1 g2 mb : Nat) (m : Nat → Nat) : Array Value := #[.float .f64 4619567317775286272, .float .f64 4619567317775286272, .float .f64 4619567317775286272, .float .f64 0, .float .f64 0, .float .f64 g0, .float .f64 g1, .float .f64 g2, .slice (some ⟨mb, 0, none⟩) 2 2, .float .f64 (m 0), .float .f64 (m 1), .float .f64 (m 2), .float .f64 (m 3), .float .f64 (m 4), .float .f64 (m 5), .float .f64 (m 6), .float .f64 (m 7), .float .f64 (m 8), .float .f64 0, .float .f64 0, .float .f64 0]

theorem pig_aff {W : World} {pb g0 g1 g2 mb : Nat} {m : Nat → Nat} (h : W.heap[pb]? = some (.cells (pigV g0 g1 g2 mb m) 41 (0, 0))) : Aff W pb 9 m := by
  refine ⟨blk_lt h, fun j hj => ?_, blk_cell h rfl, blk_cell h rfl, blk_cell h rfl⟩
  have : j = 0 ∨ j = 1 ∨ j = 2 ∨ j = 3 ∨ j = 4 ∨ j = 5 ∨ j = 6 ∨ j = 7 ∨ j = 8 := by omega
  rcases this with rfl | rfl | rfl | rfl | rfl | rfl | rfl | rfl | rfl <;> exact blk_cell h rfl

/-- The blocks while the pigment is asked. -/
structure Pg (w W : World) (pb mb xb rb : Nat) (PC MC XC : Array Value) : Prop where
  p : W.heap[pb]? = some (.cells PC 41 (0, 0))
  m : W.heap[mb]? = some (.cells MC 29 (0, 0))
  x : W.heap[xb]? = some (.cells XC 32 (0, 0))
  r : W.heap[rb]? = some (.cells #[.float .f64 0, .float .f64 0, .float .f64 0] 27 (0, 0))
  bel : Below xb w W

theorem Pg.step {w W W' : World} {pb mb xb rb : Nat} {PC MC XC : Array Value} (h : Pg w W pb mb xb rb PC MC XC) (k : Below W.heap.size W W') : Pg w W' pb mb xb rb PC MC XC :=
  ⟨Below.blk k h.p (blk_lt h.p), Below.blk k h.m (blk_lt h.m), Below.blk k h.x (blk_lt h.x), Below.blk k h.r (blk_lt h.r), h.bel.trans (k.mono (Nat.le_of_lt (blk_lt h.x)))⟩
theorem Pg.drew {w W : World} {pb mb xb rb : Nat} {PC MC XC : Array Value} (h : Pg w W pb mb xb rb PC MC XC) : Pg w W.drew pb mb xb rb PC MC XC := ⟨h.p, h.m, h.x, h.r, h.bel.drew⟩

set_option maxRecDepth 100000 in
set_option maxHeartbeats 2000000 in
theorem pig_run (pb mb g0 g1 g2 : Nat) (m : Nat → Nat) (x y z u v t u' v' t' vv f K r g b r' g' b' cr cg cb : Nat) (w : World)
    (hp : w.heap[pb]? = some (.cells (pigV g0 g1 g2 mb m) 41 (0, 0))) (hm : w.heap[mb]? = some (.cells (ents r g b r' g' b') 29 (0, 0)))
    (hne : ∀ w, (binOp .eql 32 (.agg #[.float .f64 g0, .float .f64 g1, .float .f64 g2]) (.agg #[.float .f64 0, .float .f64 0, .float .f64 0])).run Ybad.prog w = .ok (.bool false) w)
    (h0 : Row (m 0) (m 1) (m 2) x y z u) (h1 : Row (m 3) (m 4) (m 5) x y z v) (h2 : Row (m 6) (m 7) (m 8) x y z t)
    (a0 : D.add u 0 = some u') (a1 : D.add v 0 = some v') (a2 : D.add t 0 = some t') (hd : Row u' v' t' g0 g1 g2 vv) (hv : Fb vv K) (hK : K ≤ 1000) (hf : frac vv = some f) (hff : Fb f 40)
    (x0 : Col f r r' cr) (x1 : Col f g g' cg) (x2 : Col f b b' cb) :
    Calls Ybad.prog 7 #[.pointer (some ⟨pb, 0, none⟩), .agg #[.float .f64 x, .float .f64 y, .float .f64 z]] w fun e w' => e = .returned (.agg #[.float .f64 cr, .float .f64 cg, .float .f64 cb]) ∧ Below w.heap.size w w' := by
  have F0 := ar (op := .sub) hf
  have HP := hide hp
  have HM := hide hm
  have HQ := hide (And.intro h0 (And.intro h1 (And.intro h2 (And.intro a0 (And.intro a1 (And.intro a2 hd))))))
  have HV := hide hv
  have HFF := hide hff
  have HX := hide (And.intro x0 (And.intro x1 x2))
  have c5 : w.cell? ⟨pb, 5, none⟩ = some (.float .f64 g0) := blk_cell hp rfl
  have c6 : w.cell? ⟨pb, 6, none⟩ = some (.float .f64 g1) := blk_cell hp rfl
  have c7 : w.cell? ⟨pb, 7, none⟩ = some (.float .f64 g2) := blk_cell hp rfl
  have hpl := blk_lt hp
  clear hp hm h0 h1 h2 a0 a1 a2 hd hv hf hff x0 x1 x2
  go_enter Ybad.func7, Ybad.ntmps7
  go_wp2_with fail
  obtain ⟨w1, hw1⟩ : ∃ w1, w1 = (w.alloc (.cells #[.float .f64 x, .float .f64 y, .float .f64 z] 32)).alloc (.cells #[.float .f64 0, .float .f64 0, .float .f64 0] 27) := ⟨_, rfl⟩
  obtain ⟨xb, hxb⟩ : ∃ n, n = w.heap.size := ⟨_, rfl⟩
  obtain ⟨rb, hrb⟩ : ∃ n, n = w.heap.size + 1 := ⟨_, rfl⟩
  have hP1 : Pg w w1 pb mb xb rb (pigV g0 g1 g2 mb m) (ents r g b r' g' b') #[.float .f64 x, .float .f64 y, .float .f64 z] := by
    have hbel : Below w.heap.size w w1 := by rw [hw1]; exact ((Below.refl _ _).alloc (Nat.le_refl _) _).alloc (by simp) _
    refine ⟨Below.blk hbel HP.out (blk_lt HP.out), Below.blk hbel HM.out (blk_lt HM.out), ?_, ?_, by rw [hxb]; exact hbel⟩
    · rw [hw1, hxb, Below.heap_alloc _ _ _ (by simp)]
      exact heap_alloc_new w _
    · rw [hw1, hrb]
      have := heap_alloc_new (w.alloc (.cells #[.float .f64 x, .float .f64 y, .float .f64 z] 32)) (.cells #[.float .f64 0, .float .f64 0, .float .f64 0] 27)
      simpa using this
  rw [← hw1, ← hrb, ← hxb]
  have hxr : xb ≤ rb := by omega
  have HXB := hide hxb
  have HPG := hide hP1
  clear hw1 hrb hxb hP1 c5 c6 c7 HP HM hpl
  have d5 : w1.cell? ⟨pb, 5, none⟩ = some (.float .f64 g0) := blk_cell HPG.out.p rfl
  have d6 : w1.cell? ⟨pb, 6, none⟩ = some (.float .f64 g1) := blk_cell HPG.out.p rfl
  have d7 : w1.cell? ⟨pb, 7, none⟩ = some (.float .f64 g2) := blk_cell HPG.out.p rfl
  have y0 : w1.cell? ⟨xb, 0, none⟩ = some (.float .f64 x) := blk_cell HPG.out.x rfl
  have y1 : w1.cell? ⟨xb, 1, none⟩ = some (.float .f64 y) := blk_cell HPG.out.x rfl
  have y2 : w1.cell? ⟨xb, 2, none⟩ = some (.float .f64 z) := blk_cell HPG.out.x rfl
  go_region_with (first
    | (go_at_call 14; refine (undo_run pb 9 m x y z u v t u' v' t' w1.drew (by exact pig_aff HPG.out.drew.p) HQ.out.1 HQ.out.2.1 HQ.out.2.2.1 HQ.out.2.2.2.1 HQ.out.2.2.2.2.1 HQ.out.2.2.2.2.2.1).mono ?_; rintro _ w2 ⟨rfl, hb2⟩; have HP2 := hide (HPG.out.drew.step hb2); have e5 : w2.cell? ⟨pb, 5, none⟩ = some (.float .f64 g0) := blk_cell HP2.out.p rfl; have e6 : w2.cell? ⟨pb, 6, none⟩ = some (.float .f64 g1) := blk_cell HP2.out.p rfl; have e7 : w2.cell? ⟨pb, 7, none⟩ = some (.float .f64 g2) := blk_cell HP2.out.p rfl; clear hb2)
    | (go_at_call 15; refine (dot_run u' v' t' g0 g1 g2 vv w2 HQ.out.2.2.2.2.2.2).mono ?_; rintro _ w3 ⟨rfl, hb3⟩; have HP3 := hide (HP2.out.step hb3); have s8 : w3.cell? ⟨pb, 8, none⟩ = some (.slice (some ⟨mb, 0, none⟩) 2 2) := blk_cell HP3.out.p rfl; clear hb3))
  all_goals
    go_wp2_with fail
    go_region_with (first
      | (go_at_call 11; refine (floor_run vv K _ HV.out hK).mono ?_; rintro _ wf ⟨rfl, hwf⟩; rw [hwf]; clear hwf wf)
      | (go_at_call 16; refine (map_run mb f r g b r' g' b' cr cg cb w3.drew (by exact HP3.out.drew.m) HFF.out HX.out.1 HX.out.2.1 HX.out.2.2).mono ?_; rintro _ w4 ⟨rfl, hb4⟩; have HP4 := hide (HP3.out.drew.step hb4); have r0 := blk_cell (o := 0) HP4.out.r rfl; have r1 := blk_cell (o := 1) HP4.out.r rfl; have r2 := blk_cell (o := 2) HP4.out.r rfl; have f0 := blk_frozen (o := 0) HP4.out.r; have f1 := blk_frozen (o := 1) HP4.out.r; have f2 := blk_frozen (o := 2) HP4.out.r; clear hb4))
    all_goals
      go_wp2_with fail
      refine bodyPost_ret (v := .agg #[.float .f64 cr, .float .f64 cg, .float .f64 cb]) (by simp [results, Ybad.results7, go_sem, r0, r1, r2]) rfl ⟨rfl, ?_⟩
      rw [← HXB.out]
      exact ((HP4.out.bel.setCell (by exact hxr) _).setCell (by exact hxr) _).setCell (by exact hxr) _

end Go.Proofs.YbulkdcwkDoor
