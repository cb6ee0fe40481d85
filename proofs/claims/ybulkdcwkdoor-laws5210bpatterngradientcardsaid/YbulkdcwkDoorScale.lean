/-
  OWN WORK. Walks of package geom over words: then, Scale.
-/
import Derived.Test.YbulkdcwkDoorAfter
namespace Go.Proofs.YbulkdcwkDoor
open Go.RowKit
set_option linter.unusedVariables false
attribute [local go_sem] run_store_float run_equalIn_float

/-- c is a after b, word for word. -/
structure AR (a b c : Nat → Nat) : Prop where
  rows : ∀ i j, i < 3 → j < 3 → Row (a (i * 3)) (a (i * 3 + 1)) (a (i * 3 + 2)) (b j) (b (3 + j)) (b (6 + j)) (c (i * 3 + j))
  z0 : Row (a 0) (a 1) (a 2) 0 0 0 0
  z1 : Row (a 3) (a 4) (a 5) 0 0 0 0
  z2 : Row (a 6) (a 7) (a 8) 0 0 0 0

theorem size38 : (Ybad.prog.info? 38).map (·.size) = some 12 := by kernel_rfl

set_option maxRecDepth 100000 in
set_option maxHeartbeats 1000000 in
theorem then_run (a b c : Nat → Nat) (w : World) (h : AR a b c) : Calls Ybad.prog 18 #[.agg (affV a), .agg (affV b)] w fun e w' => e = .returned (.agg (affV c)) ∧ Below w.heap.size w w' := by
  have HR := hide h
  clear h
  go_enter Ybad.func18, Ybad.ntmps18
  unfold affV
  go_wp2_with fail
  have key := after_run a b c
  unfold affV at key
  have hw1 : ∃ w1, w1 = ((w.alloc (.cells (affV a) 38)).alloc (.cells (affV b) 36)).alloc (.cells (affV fun _ => 0) 38) := ⟨_, rfl⟩
  unfold affV at hw1
  obtain ⟨w1, hw1⟩ := hw1
  rw [← hw1]
  have hRb : w1.heap[w.heap.size + 1 + 1]? = some (.cells (affV fun _ => 0) 38 (0, 0)) := by
    rw [hw1]
    have := heap_alloc_new ((w.alloc (.cells (affV a) 38)).alloc (.cells (affV b) 36)) (.cells (affV fun _ => 0) 38)
    simpa [affV] using this
  have hbel : Below w.heap.size w w1 := by
    rw [hw1]
    exact (((Below.refl _ _).alloc (Nat.le_refl _) _).alloc (by simp) _).alloc (by simp <;> omega) _
  refine (key w1 HR.out.rows HR.out.z0 HR.out.z1 HR.out.z2).mono ?_
  rintro _ w2 ⟨rfl, hb2⟩
  have hRb2 := Below.blk hb2 hRb (blk_lt hRb)
  have hbel2 := hbel.trans (hb2.mono hbel.size)
  obtain ⟨rb, hrb⟩ : ∃ x, x = w.heap.size + 1 + 1 := ⟨_, rfl⟩
  have l2 : w.heap.size ≤ rb := by omega
  rw [← hrb] at hRb2 ⊢
  have HRB2 := hide hRb2
  have HB2 := hide hbel2
  have HL2 := hide l2
  clear key hw1 hRb hbel hb2 hRb2 hbel2 hrb l2
  go_wp2_with (refine wpList_store_blk rfl 38 _ _ rfl 38 _ (affV c) rb (by exact HRB2.out) rfl rfl 12 size38 rfl rfl rfl ?_)
  have hfin := setRow_heap _ rb _ (affV c) 38 _ HRB2.out
  generalize hw3 : w2.setRow rb (affV c) = w3 at *
  have s0 := blk_cell (o := 0) hfin rfl
  have s1 := blk_cell (o := 1) hfin rfl
  have s2 := blk_cell (o := 2) hfin rfl
  have s3 := blk_cell (o := 3) hfin rfl
  have s4 := blk_cell (o := 4) hfin rfl
  have s5 := blk_cell (o := 5) hfin rfl
  have s6 := blk_cell (o := 6) hfin rfl
  have s7 := blk_cell (o := 7) hfin rfl
  have s8 := blk_cell (o := 8) hfin rfl
  have s9 := blk_cell (o := 9) hfin rfl
  have s10 := blk_cell (o := 10) hfin rfl
  have s11 := blk_cell (o := 11) hfin rfl
  have hbel3 : Below w.heap.size w w3 := by
    rw [← hw3]
    exact below_setRow HB2.out HL2.out _
  refine bodyPost_ret (v := .agg (affV c)) (by simp [results, Ybad.results18, go_sem, affV, s0, s1, s2, s3, s4, s5, s6, s7, s8, s9, s10, s11]) rfl ⟨rfl, hbel3⟩

/-- A diagonal's words. -/
def dgm (S j : Nat) : Nat := dg S (j / 3) (j % 3)

theorem ar_of {sc S : Nat} (h : Sca sc S) : AR (dgm 4607182418800017408) (dgm S) (dgm S) := by
  refine ⟨fun i j hi hj => ?_, Row.of (by decide +kernel), Row.of (by decide +kernel), Row.of (by decide +kernel)⟩
  have hr := Row.of (h.rows ⟨i, hi⟩ ⟨j, hj⟩)
  have e1 : dgm 4607182418800017408 (i * 3) = dg 4607182418800017408 i 0 := by unfold dgm; rw [show i * 3 / 3 = i by omega, show i * 3 % 3 = 0 by omega]
  have e2 : dgm 4607182418800017408 (i * 3 + 1) = dg 4607182418800017408 i 1 := by unfold dgm; rw [show (i * 3 + 1) / 3 = i by omega, show (i * 3 + 1) % 3 = 1 by omega]
  have e3 : dgm 4607182418800017408 (i * 3 + 2) = dg 4607182418800017408 i 2 := by unfold dgm; rw [show (i * 3 + 2) / 3 = i by omega, show (i * 3 + 2) % 3 = 2 by omega]
  have e4 : dgm S j = dg S 0 j := by unfold dgm; rw [show j / 3 = 0 by omega, show j % 3 = j by omega]
  have e5 : dgm S (3 + j) = dg S 1 j := by unfold dgm; rw [show (3 + j) / 3 = 1 by omega, show (3 + j) % 3 = j by omega]
  have e6 : dgm S (6 + j) = dg S 2 j := by unfold dgm; rw [show (6 + j) / 3 = 2 by omega, show (6 + j) % 3 = j by omega]
  have e7 : dgm S (i * 3 + j) = dg S i j := by unfold dgm; rw [show (i * 3 + j) / 3 = i by omega, show (i * 3 + j) % 3 = j by omega]
  rw [e1, e2, e3, e4, e5, e6, e7]
  exact hr

set_option maxRecDepth 100000 in
set_option maxHeartbeats 1000000 in
theorem scale_run (sc S : Nat) (w : World) (h : Sca sc S) : Calls Ybad.prog 10 #[.agg (affV (dgm 4607182418800017408)), .agg #[.float .f64 sc, .float .f64 sc, .float .f64 sc]] w fun e w' => e = .returned (.agg (affV (dgm S))) ∧ Below w.heap.size w w' := by
  have A0 := ar (op := .quo) h.inv
  have key := then_run (dgm 4607182418800017408) (dgm S) (dgm S)
  have HR := hide (ar_of h)
  clear h
  go_enter Ybad.func10, Ybad.ntmps10
  unfold affV
  go_wp2_with fail
  have hw1 : ∃ w1, w1 = ((w.alloc (.cells (affV (dgm 4607182418800017408)) 38)).alloc (.cells #[.float .f64 sc, .float .f64 sc, .float .f64 sc] 32)).alloc (.cells (affV fun _ => 0) 38) := ⟨_, rfl⟩
  unfold affV at hw1
  obtain ⟨w1, hw1⟩ := hw1
  rw [← hw1]
  have hRb : w1.heap[w.heap.size + 1 + 1]? = some (.cells (affV fun _ => 0) 38 (0, 0)) := by
    rw [hw1]
    have := heap_alloc_new ((w.alloc (.cells (affV (dgm 4607182418800017408)) 38)).alloc (.cells #[.float .f64 sc, .float .f64 sc, .float .f64 sc] 32)) (.cells (affV fun _ => 0) 38)
    simpa [affV] using this
  have hbel : Below w.heap.size w w1 := by
    rw [hw1]
    exact (((Below.refl _ _).alloc (Nat.le_refl _) _).alloc (by simp) _).alloc (by simp <;> omega) _
  refine (key w1 HR.out).mono ?_
  rintro _ w2 ⟨rfl, hb2⟩
  have hRb2 := Below.blk hb2 hRb (blk_lt hRb)
  have hbel2 := hbel.trans (hb2.mono hbel.size)
  obtain ⟨rb, hrb⟩ : ∃ x, x = w.heap.size + 1 + 1 := ⟨_, rfl⟩
  have l2 : w.heap.size ≤ rb := by omega
  rw [← hrb] at hRb2 ⊢
  have HRB2 := hide hRb2
  have HB2 := hide hbel2
  have HL2 := hide l2
  clear key hw1 hRb hbel hb2 hRb2 hbel2 hrb l2
  go_wp2_with (refine wpList_store_blk rfl 38 _ _ rfl 38 _ (affV (dgm S)) rb (by exact HRB2.out) rfl rfl 12 size38 rfl rfl rfl ?_)
  have hfin := setRow_heap _ rb _ (affV (dgm S)) 38 _ HRB2.out
  generalize hw3 : w2.setRow rb (affV (dgm S)) = w3 at *
  have s0 := blk_cell (o := 0) hfin rfl
  have s1 := blk_cell (o := 1) hfin rfl
  have s2 := blk_cell (o := 2) hfin rfl
  have s3 := blk_cell (o := 3) hfin rfl
  have s4 := blk_cell (o := 4) hfin rfl
  have s5 := blk_cell (o := 5) hfin rfl
  have s6 := blk_cell (o := 6) hfin rfl
  have s7 := blk_cell (o := 7) hfin rfl
  have s8 := blk_cell (o := 8) hfin rfl
  have s9 := blk_cell (o := 9) hfin rfl
  have s10 := blk_cell (o := 10) hfin rfl
  have s11 := blk_cell (o := 11) hfin rfl
  have hbel3 : Below w.heap.size w w3 := by
    rw [← hw3]
    exact below_setRow HB2.out HL2.out _
  refine bodyPost_ret (v := .agg (affV (dgm S))) (by simp [results, Ybad.results10, go_sem, affV, s0, s1, s2, s3, s4, s5, s6, s7, s8, s9, s10, s11]) rfl ⟨rfl, hbel3⟩

end Go.Proofs.YbulkdcwkDoor
