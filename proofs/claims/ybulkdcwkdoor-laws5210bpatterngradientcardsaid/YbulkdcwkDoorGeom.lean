/-
  OWN WORK. Walks of package geom over words: vector, Add, point, Undo, Dot.
-/
import Derived.Test.YbulkdcwkDoorParts
import Derived.Test.YbulkdcwkDoorFloat3
import Derived.Deep.RegionWith
import Derived.Deep.QuietTactic
import Derived.BigQuiet
import Derived.BigRegion
import Derived.StillTailTactics
namespace Go.Proofs.YbulkdcwkDoor
open Go.RowKit
set_option linter.unusedVariables false
attribute [local go_sem] run_store_float run_equalIn_float

theorem mixed : Ybad.prog.follows .mixedOrders = true := by kernel_rfl
theorem hide {p : Prop} (h : p) : Hid p := h

theorem ar {op : BinOp} {x y z : Nat} (h : floatBits op .f64 x y = some z) : ∀ (t : TypeId) (w : World), (binOp op t (.float .f64 x) (.float .f64 y)).run Ybad.prog w = .ok (.float .f64 z) w := fun t w => run_float_arith w op t .f64 x y z h

theorem still_of_quiet {P : Program} {ops : Array Oper} {w : World} {Q : Act → Prop} : ∀ (l : List Oper) (a : Act), wpQuiet P ops (fun w' => w' = w) Q l a → wpStill P ops w Q l a
  | [], _, h => h
  | o :: rest, a, h => by
    unfold wpQuiet at h
    unfold wpStill
    split at h
    · rename_i hw
      rw [if_pos hw]
      obtain ⟨v, h1, h2⟩ := h
      have h3 := h1 w rfl
      have ih := still_of_quiet rest _ h2
      unfold Oper.quietAt at h3
      unfold Oper.still
      generalize (execOp a.eval o).run P w = r at *
      cases r with
      | ok n w' =>
        cases n <;> simp only [Oper.quietUpon] at h3 <;> simp only [Oper.stillUpon]
        case value u =>
          obtain ⟨e1, e2⟩ := h3
          rw [e2]
          exact ⟨e1, ih⟩
        case skip =>
          obtain ⟨e1, e2⟩ := h3
          rw [← e2]
          exact ⟨e1, ih⟩
        case enter f args =>
          obtain ⟨e1, hc⟩ := h3
          exact ⟨e1, v, hc, ih⟩
      | halt x w' => simp only [Oper.quietUpon] at h3
    · rename_i hw
      rw [if_neg hw]
      exact still_of_quiet rest _ h

/-- A region that draws: its head only reads; its tail is forced. -/
theorem wp_region_tail {P : Program} {id : Nat} {Q : Exit → Act → World → Prop} {a : Act} {w : World} {l : List Oper} (n : Nat) (hm : P.follows .mixedOrders = true) (hB : Region.lexTailB .any l.toArray n = true)
    (h : wpQuiet P l.toArray (fun w' => w' = w.drew) (fun a' => wpList P l.toArray Q (l.drop n) a' w.drew) (l.take n) a) : (Code.region id l.toArray true).wp P Q a w :=
  wp_region_still_tail n hm hB (still_of_quiet _ _ h)

/-- The cells of an affine's matrix. -/
def Mat (w : World) (b o : Nat) (m : Nat → Nat) : Prop := ∀ j, j < 9 → w.cell? ⟨b, o + j, none⟩ = some (.float .f64 (m j))

set_option maxRecDepth 100000 in
set_option maxHeartbeats 1000000 in
theorem vec_run (b o : Nat) (m : Nat → Nat) (x y z u v t : Nat) (w : World) (hb : b < w.heap.size) (hm : Mat w b o m) (h0 : Row (m 0) (m 1) (m 2) x y z u) (h1 : Row (m 3) (m 4) (m 5) x y z v) (h2 : Row (m 6) (m 7) (m 8) x y z t) :
    Calls Ybad.prog 30 #[.pointer (some ⟨b, o, none⟩), .agg #[.float .f64 x, .float .f64 y, .float .f64 z]] w fun e w' => e = .returned (.agg #[.float .f64 u, .float .f64 v, .float .f64 t]) ∧ Below w.heap.size w w' := by
  have c0 : w.cell? ⟨b, o, none⟩ = some (.float .f64 (m 0)) := hm 0 (by decide)
  have c1 := hm 1 (by decide)
  have c2 := hm 2 (by decide)
  have c3 := hm 3 (by decide)
  have c4 := hm 4 (by decide)
  have c5 := hm 5 (by decide)
  have c6 := hm 6 (by decide)
  have c7 := hm 7 (by decide)
  have c8 := hm 8 (by decide)
  obtain ⟨p0, p1, p2, p3, a0, a1, a2, a3, a4⟩ := h0
  obtain ⟨q0, q1, q2, q3, b0, b1, b2, b3, b4⟩ := h1
  obtain ⟨r0, r1, r2, r3, d0, d1, d2, d3, d4⟩ := h2
  have A0 := ar (op := .mul) a0
  have A1 := ar (op := .mul) a1
  have A2 := ar (op := .mul) a2
  have A3 := ar (op := .add) a3
  have A4 := ar (op := .add) a4
  have B0 := ar (op := .mul) b0
  have B1 := ar (op := .mul) b1
  have B2 := ar (op := .mul) b2
  have B3 := ar (op := .add) b3
  have B4 := ar (op := .add) b4
  have D0 := ar (op := .mul) d0
  have D1 := ar (op := .mul) d1
  have D2 := ar (op := .mul) d2
  have D3 := ar (op := .add) d3
  have D4 := ar (op := .add) d4
  clear a0 a1 a2 a3 a4 b0 b1 b2 b3 b4 d0 d1 d2 d3 d4 hm
  generalize m 0 = m0 at *
  generalize m 1 = m1 at *
  generalize m 2 = m2 at *
  generalize m 3 = m3 at *
  generalize m 4 = m4 at *
  generalize m 5 = m5 at *
  generalize m 6 = m6 at *
  generalize m 7 = m7 at *
  generalize m 8 = m8 at *
  go_enter Ybad.func30, Ybad.ntmps30
  go_wp2_with fail
  simp only [List.append_eq, List.cons_append, List.nil_append]
  refine wp_region_tail 79 mixed (by kernel_rfl) ?_
  simp only [List.take_succ_cons, List.take_zero, List.drop_succ_cons, List.drop_zero]
  repeat (go_big_quiet_step (fail))
  refine wpQuiet_nil ?_
  go_wp2_with fail
  refine bodyPost_ret (v := .agg #[.float .f64 u, .float .f64 v, .float .f64 t]) (by simp [results, Ybad.results30, go_sem]) rfl ⟨rfl, ?_⟩
  exact ((((Below.refl _ _).alloc (Nat.le_refl _) _).alloc (by simp) _)).drew

end Go.Proofs.YbulkdcwkDoor
