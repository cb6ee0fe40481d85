/-
  OWN WORK. Walks of package geom over words: Add, Dot, point, Undo.
-/
import Derived.Test.YbulkdcwkDoorGeom
namespace Go.Proofs.YbulkdcwkDoor
open Go.RowKit
set_option linter.unusedVariables false
attribute [local go_sem] run_store_float run_equalIn_float

set_option maxRecDepth 100000 in
set_option maxHeartbeats 1000000 in
theorem vadd_run (x y z x' y' z' u v t : Nat) (w : World) (h0 : D.add x x' = some u) (h1 : D.add y y' = some v) (h2 : D.add z z' = some t) :
    Calls Ybad.prog 31 #[.agg #[.float .f64 x, .float .f64 y, .float .f64 z], .agg #[.float .f64 x', .float .f64 y', .float .f64 z']] w fun e w' => e = .returned (.agg #[.float .f64 u, .float .f64 v, .float .f64 t]) ∧ Below w.heap.size w w' := by
  have A0 := ar (op := .add) h0
  have A1 := ar (op := .add) h1
  have A2 := ar (op := .add) h2
  clear h0 h1 h2
  go_enter Ybad.func31, Ybad.ntmps31
  go_wp2_with fail
  refine bodyPost_ret (v := .agg #[.float .f64 u, .float .f64 v, .float .f64 t]) (by simp [results, Ybad.results31, go_sem]) rfl ⟨rfl, ?_⟩
  exact ((((Below.refl _ _).alloc (Nat.le_refl _) _).alloc (by simp) _)).alloc (by simp; omega) _

set_option maxRecDepth 100000 in
set_option maxHeartbeats 1000000 in
theorem dot_run (x y z x' y' z' u : Nat) (w : World) (h0 : Row x y z x' y' z' u) :
    Calls Ybad.prog 15 #[.agg #[.float .f64 x, .float .f64 y, .float .f64 z], .agg #[.float .f64 x', .float .f64 y', .float .f64 z']] w fun e w' => e = .returned (.float .f64 u) ∧ Below w.heap.size w w' := by
  obtain ⟨p0, p1, p2, p3, a0, a1, a2, a3, a4⟩ := h0
  have A0 := ar (op := .mul) a0
  have A1 := ar (op := .mul) a1
  have A2 := ar (op := .mul) a2
  have A3 := ar (op := .add) a3
  have A4 := ar (op := .add) a4
  clear a0 a1 a2 a3 a4
  go_enter Ybad.func15, Ybad.ntmps15
  go_wp2_with fail
  go_ret
  exact ⟨rfl, ((Below.refl _ _).alloc (Nat.le_refl _) _).alloc (by simp) _⟩

theorem integral_run {P : Program} (n : String) (x : Nat) (s : Bool) (m : Nat) (i : Int) (e : FloatKind.f64.decode x = .number s m i) (w : World) : (Extern.MathFloor.toIntegral n .down #[.float .f64 x]).run P w = .ok (.float .f64 (FloatKind.f64.encode ((Ieee.Datum.number s m i).integral .down))) w := by
  have key : ∃ (A : Bool → Nat → Sem Value) (B : Ieee.Datum → Sem Value), Extern.MathFloor.toIntegral n .down #[.float .f64 x] = Extern.MathFloor.toIntegral.match_1 (motive := fun _ => Sem Value) (FloatKind.f64.decode x) A B ∧ B = fun d => pure (.float .f64 (FloatKind.f64.encode (d.integral .down))) := ⟨_, _, rfl, rfl⟩
  obtain ⟨A, B, h1, h2⟩ := key
  rw [h1, e]
  subst h2
  rfl

theorem ext19' (x : Nat) (w : World) : (callFunc 19 #[.float .f64 x]).run Ybad.prog w = ((Extern.MathFloor.toIntegral "math.archFloor" .down #[.float .f64 x]).run Ybad.prog w).andThen fun v w' => .ok (.value v) w' :=
  run_callFunc_extern Ybad.func19 (by kernel_rfl) (by kernel_rfl) (by kernel_rfl) (by kernel_rfl) _ w

theorem ext19 (x : Nat) (w : World) (K : Nat) (h : Fb x K) (hK : K ≤ 1000) : (callFunc 19 #[.float .f64 x]).run Ybad.prog w = .ok (.value (.float .f64 (flr x))) w := by
  obtain ⟨s, m, i, e, _, _⟩ := h.read hK
  rw [ext19', integral_run _ x s m i e]
  unfold flr
  rw [e]
  rfl

set_option maxHeartbeats 400000 in
theorem floor_run (x K : Nat) (w : World) (h : Fb x K) (hK : K ≤ 1000) : Calls Ybad.prog 11 #[.float .f64 x] w fun e w' => e = .returned (.float .f64 (flr x)) ∧ w' = w := by
  have h1 := fun w => ext19 x w K h hK
  go_enter Ybad.func11, Ybad.ntmps11
  go_wp2_with fail
  go_ret
  exact ⟨rfl, rfl⟩

theorem blk_cell {w : World} {b o : Nat} {C : Array Value} {t : TypeId} {v : Value} (h : w.heap[b]? = some (.cells C t (0, 0))) (hC : C[o]? = some v) : w.cell? ⟨b, o, none⟩ = some v := by
  rw [cell_of_row _ _ _ _ _ _ h]; exact hC
theorem blk_frozen {w : World} {b o : Nat} {C : Array Value} {t : TypeId} (h : w.heap[b]? = some (.cells C t (0, 0))) : w.frozen? ⟨b, o, none⟩ = false := by simp [World.frozen?, h]
theorem blk_lt {w : World} {b : Nat} {o : Obj} (h : w.heap[b]? = some o) : b < w.heap.size := (Array.getElem?_eq_some_iff.1 h).1

/-- An affine in memory: its matrix; its offset is zero. -/
structure Aff (w : World) (b o : Nat) (m : Nat → Nat) : Prop where
  lt : b < w.heap.size
  mat : Mat w b o m
  o0 : w.cell? ⟨b, o + 9, none⟩ = some (.float .f64 0)
  o1 : w.cell? ⟨b, o + 9 + 1, none⟩ = some (.float .f64 0)
  o2 : w.cell? ⟨b, o + 9 + 2, none⟩ = some (.float .f64 0)

theorem Aff.below {w w' : World} {b o B : Nat} {m : Nat → Nat} (h : Aff w b o m) (k : Below B w w') (hB : b < B) : Aff w' b o m :=
  ⟨Nat.lt_of_lt_of_le h.lt k.size, fun j hj => (k.cell (p := ⟨b, o + j, none⟩) hB).trans (h.mat j hj), (k.cell (p := ⟨b, o + 9, none⟩) hB).trans h.o0, (k.cell (p := ⟨b, o + 9 + 1, none⟩) hB).trans h.o1, (k.cell (p := ⟨b, o + 9 + 2, none⟩) hB).trans h.o2⟩

theorem Below.blk {w w' : World} {B b : Nat} {o : Obj} (k : Below B w w') (hb : w.heap[b]? = some o) (hB : b < B) : w'.heap[b]? = some o := (k.block b hB).trans hb

theorem undrew {B : Nat} {w w' : World} (h : Below B w.drew w') : Below B w w' := ⟨h.os, h.tape, h.output, h.size, h.block⟩

def z3 : Array Value := #[.float .f64 0, .float .f64 0, .float .f64 0]

set_option maxRecDepth 100000 in
set_option maxHeartbeats 1000000 in
theorem point_run (b o : Nat) (m : Nat → Nat) (x y z u v t u' v' t' : Nat) (w : World) (ha : Aff w b o m) (h0 : Row (m 0) (m 1) (m 2) x y z u) (h1 : Row (m 3) (m 4) (m 5) x y z v) (h2 : Row (m 6) (m 7) (m 8) x y z t)
    (a0 : D.add u 0 = some u') (a1 : D.add v 0 = some v') (a2 : D.add t 0 = some t') :
    Calls Ybad.prog 23 #[.pointer (some ⟨b, o, none⟩), .agg #[.float .f64 x, .float .f64 y, .float .f64 z]] w fun e w' => e = .returned (.agg #[.float .f64 u', .float .f64 v', .float .f64 t']) ∧ Below w.heap.size w w' := by
  have HA := hide ha
  have H0 := hide h0
  have H1 := hide h1
  have H2 := hide h2
  have HA0 := hide a0
  have HA1 := hide a1
  have HA2 := hide a2
  clear ha h0 h1 h2 a0 a1 a2
  go_enter Ybad.func23, Ybad.ntmps23
  go_wp2_with fail
  obtain ⟨w1, hw1⟩ : ∃ w1, w1 = (w.alloc (.cells #[.float .f64 x, .float .f64 y, .float .f64 z] 32)).alloc (.cells #[.float .f64 0, .float .f64 0, .float .f64 0] 32) := ⟨_, rfl⟩
  have hbel : Below w.heap.size w w1 := by rw [hw1]; exact ((Below.refl _ _).alloc (Nat.le_refl _) _).alloc (by simp) _
  have hres : w1.heap[w.heap.size + 1]? = some (.cells #[.float .f64 0, .float .f64 0, .float .f64 0] 32 (0, 0)) := by
    rw [hw1]
    have := heap_alloc_new (w.alloc (.cells #[.float .f64 x, .float .f64 y, .float .f64 z] 32)) (.cells #[.float .f64 0, .float .f64 0, .float .f64 0] 32)
    simpa using this
  have hv : w1.heap[w.heap.size]? = some (.cells #[.float .f64 x, .float .f64 y, .float .f64 z] 32 (0, 0)) := by
    rw [hw1, Below.heap_alloc _ _ _ (by simp)]
    exact heap_alloc_new w _
  have ha1 := HA.out.below hbel HA.out.lt
  rw [← hw1]
  generalize hB : w.heap.size = B at *
  have v0 := blk_cell (o := 0) hv rfl
  have v1 := blk_cell (o := 1) hv rfl
  have v2 := blk_cell (o := 2) hv rfl
  have q0 := ha1.o0
  have q1 := ha1.o1
  have q2 := ha1.o2
  have HA1' := hide ha1
  have HR := hide hres
  have HBel := hide hbel
  have hlt1 := blk_lt hres
  have HhB := hide hB
  clear hw1 hbel hres hv ha1 hB
  go_region_with (first
    | (go_at_call 30; refine (vec_run b o m x y z u v t w1.drew (by exact HA1'.out.lt) (by exact HA1'.out.mat) H0.out H1.out H2.out).mono ?_; rintro _ w2 ⟨rfl, hb2⟩; have hb2' : Below w1.heap.size w1 w2 := undrew hb2; have qq0 := (hb2'.cell (p := ⟨b, o + 9, none⟩) HA1'.out.lt).trans HA1'.out.o0; have qq1 := (hb2'.cell (p := ⟨b, o + 9 + 1, none⟩) HA1'.out.lt).trans HA1'.out.o1; have qq2 := (hb2'.cell (p := ⟨b, o + 9 + 2, none⟩) HA1'.out.lt).trans HA1'.out.o2; have HB2 := hide hb2'; clear hb2 hb2')
    | (go_at_call 31; refine (vadd_run u v t 0 0 0 u' v' t' _ HA0.out HA1.out HA2.out).mono ?_; rintro _ w3 ⟨rfl, hb3⟩; have hr3 := Below.blk hb3 (Below.blk HB2.out HR.out hlt1) (Nat.lt_of_lt_of_le hlt1 HB2.out.size); have r0 := blk_cell (o := 0) hr3 rfl; have r1 := blk_cell (o := 1) hr3 rfl; have r2 := blk_cell (o := 2) hr3 rfl; have f0 := blk_frozen (o := 0) hr3; have f1 := blk_frozen (o := 1) hr3; have f2 := blk_frozen (o := 2) hr3; have HB3 := hide hb3; clear hr3 hb3))
  all_goals
    go_wp2_with fail
    refine bodyPost_ret (v := .agg #[.float .f64 u', .float .f64 v', .float .f64 t']) (by simp [results, Ybad.results23, go_sem, r0, r1, r2]) rfl ⟨rfl, ?_⟩
    rw [HhB.out]
    exact (((HBel.out.trans (HB2.out.mono (by omega))).trans (HB3.out.mono (by have := HB2.out.size; omega))).setCell (by simp) _).setCell (by simp) _ |>.setCell (by simp) _

end Go.Proofs.YbulkdcwkDoor
