/-
  OWN WORK. The listed variable 'geom.identity' opened and read again; a slice of floats opened.
-/
import Derived.Test.YbulkdcwkDoorParts
import Derived.ProofKit
import Derived.OpenShut
import Derived.LaidMore
import Derived.WalkSmall
import Derived.Carry
import Derived.Deep.Slices
import Derived.Stop.Joined
namespace Go.Proofs.YbulkdcwkDoor
open Go.ChangeShapes Go.WideShapes Go.ChangeAt Go.RowKit

theorem own : ownKnob Ybad.prog.godebug = none := by kernel_rfl
theorem laidOut : laidOutB Ybad.pinned.checked.prog = true := by kernel_rfl
/-- The variable's name. -/
def idName : String := Rows.lawS5210BPlainColorRow.named.headD ""
theorem gId : Ybad.prog.globalNamed idName = some 0 := by kernel_rfl
theorem tId : (Ybad.prog.globals[0]?).map (·.type) = some 34 := by kernel_rfl
theorem cells34 : Ybad.prog.cellsOf 34 = 9 := by kernel_rfl
theorem cells33 : Ybad.prog.cellsOf 33 = 3 := by kernel_rfl
theorem cells22 : Ybad.prog.cellsOf 22 = 1 := by kernel_rfl

section
variable {H : Type} {enc : TypeId × Value → H} {w : World} {base : Nat} {sp : Nat → Bool} {held : Bool}

theorem float_of_trod {fuel : Nat} {cs : List Value} {x : DataW H × List MemPlace} (h : DataW.trod enc Ybad.prog w base sp held fuel 22 cs = some x) :
    ∃ m, cs = [.float .f64 m] ∧ x = (.lit (.float .f64 m), []) ∧ (Lit.float .f64 m).wf = true := by
  cases fuel with
  | zero => simp [DataW.trod] at h
  | succ n =>
    unfold DataW.trod at h
    rw [Ybad.underlying22] at h
    split at h <;> simp_all

theorem row_of_trod {fuel : Nat} {cs : List Value} {x : DataW H × List MemPlace} (h : DataW.trod enc Ybad.prog w base sp held fuel 33 cs = some x) :
    ∃ a b c, cs = [.float .f64 a, .float .f64 b, .float .f64 c] ∧ x = (.agg [.lit (.float .f64 a), .lit (.float .f64 b), .lit (.float .f64 c)], []) ∧ (Lit.float .f64 a).wf = true ∧ (Lit.float .f64 b).wf = true ∧ (Lit.float .f64 c).wf = true := by
  obtain ⟨xs, m, rfl, hx, hl, hn, hel⟩ := DataW.trod_array Ybad.underlying33 h
  rw [cells33] at hl
  rw [cells22] at hel
  match xs, hn, cs, hl with
  | [y0, y1, y2], _, [v0, v1, v2], _ =>
    have g0 := hel 0 (by omega)
    have g1 := hel 1 (by omega)
    have g2 := hel 2 (by omega)
    simp at g0 g1 g2
    obtain ⟨a, e0, rfl, w0⟩ := float_of_trod g0
    obtain ⟨b, e1, rfl, w1⟩ := float_of_trod g1
    obtain ⟨c, e2, rfl, w2⟩ := float_of_trod g2
    simp at e0 e1 e2
    exact ⟨a, b, c, by rw [e0, e1, e2], by simpa using hx, w0, w1, w2⟩

/-- The 3 by 3 matrix: nine floats. -/
theorem mat_of_trod {fuel : Nat} {cs : List Value} {x : DataW H × List MemPlace} (h : DataW.trod enc Ybad.prog w base sp held fuel 34 cs = some x) :
    ∃ m0 m1 m2 m3 m4 m5 m6 m7 m8, cs = [.float .f64 m0, .float .f64 m1, .float .f64 m2, .float .f64 m3, .float .f64 m4, .float .f64 m5, .float .f64 m6, .float .f64 m7, .float .f64 m8] ∧
      x = (.agg [.agg [.lit (.float .f64 m0), .lit (.float .f64 m1), .lit (.float .f64 m2)], .agg [.lit (.float .f64 m3), .lit (.float .f64 m4), .lit (.float .f64 m5)], .agg [.lit (.float .f64 m6), .lit (.float .f64 m7), .lit (.float .f64 m8)]], []) ∧
      ((Lit.float .f64 m0).wf = true ∧ (Lit.float .f64 m1).wf = true ∧ (Lit.float .f64 m2).wf = true) ∧ ((Lit.float .f64 m3).wf = true ∧ (Lit.float .f64 m4).wf = true ∧ (Lit.float .f64 m5).wf = true) ∧ (Lit.float .f64 m6).wf = true ∧ (Lit.float .f64 m7).wf = true ∧ (Lit.float .f64 m8).wf = true := by
  obtain ⟨xs, m, rfl, hx, hl, hn, hel⟩ := DataW.trod_array Ybad.underlying34 h
  rw [cells34] at hl
  rw [cells33] at hel
  match xs, hn, cs, hl with
  | [y0, y1, y2], _, [v0, v1, v2, v3, v4, v5, v6, v7, v8], _ =>
    have g0 := hel 0 (by omega)
    have g1 := hel 1 (by omega)
    have g2 := hel 2 (by omega)
    simp at g0 g1 g2
    obtain ⟨a0, b0, c0, e0, rfl, w0⟩ := row_of_trod g0
    obtain ⟨a1, b1, c1, e1, rfl, w1⟩ := row_of_trod g1
    obtain ⟨a2, b2, c2, e2, rfl, w2⟩ := row_of_trod g2
    simp at e0 e1 e2
    obtain ⟨rfl, rfl, rfl⟩ := e0
    obtain ⟨rfl, rfl, rfl⟩ := e1
    obtain ⟨rfl, rfl, rfl⟩ := e2
    exact ⟨a0, b0, c0, a1, b1, c1, a2, b2, c2, rfl, by simpa using hx, w0, w1, w2⟩

/-- .. and read again, in whatever world. -/
theorem mat_reads {m0 m1 m2 m3 m4 m5 m6 m7 m8 : Nat} (w0 : (Lit.float .f64 m0).wf = true ∧ (Lit.float .f64 m1).wf = true ∧ (Lit.float .f64 m2).wf = true) (w1 : (Lit.float .f64 m3).wf = true ∧ (Lit.float .f64 m4).wf = true ∧ (Lit.float .f64 m5).wf = true)
    (w2 : (Lit.float .f64 m6).wf = true ∧ (Lit.float .f64 m7).wf = true ∧ (Lit.float .f64 m8).wf = true) :
    DataW.trod enc Ybad.prog w base sp held 3 34 [.float .f64 m0, .float .f64 m1, .float .f64 m2, .float .f64 m3, .float .f64 m4, .float .f64 m5, .float .f64 m6, .float .f64 m7, .float .f64 m8] =
      some (.agg [.agg [.lit (.float .f64 m0), .lit (.float .f64 m1), .lit (.float .f64 m2)], .agg [.lit (.float .f64 m3), .lit (.float .f64 m4), .lit (.float .f64 m5)], .agg [.lit (.float .f64 m6), .lit (.float .f64 m7), .lit (.float .f64 m8)]], []) := by
  have e : List.range 3 = [0, 1, 2] := rfl
  simp [DataW.trod, Ybad.underlying34, Ybad.underlying33, Ybad.underlying22, cells34, cells33, cells22, e, w0.1, w0.2.1, w0.2.2, w1.1, w1.2.1, w1.2.2, w2.1, w2.2.1, w2.2.2]

/-- The variable's cells, out of its reading. -/
theorem ident_of_var {W : World} {cs : Array Value} {m0 m1 m2 m3 m4 m5 m6 m7 m8 : Nat} (hv : W.var? Ybad.prog idName = some cs) (hc : cs.toList = [.float .f64 m0, .float .f64 m1, .float .f64 m2, .float .f64 m3, .float .f64 m4, .float .f64 m5, .float .f64 m6, .float .f64 m7, .float .f64 m8]) :
    Ident W m0 m1 m2 m3 m4 m5 m6 m7 m8 := by
  obtain ⟨l⟩ := cs
  simp at hc
  subst hc
  exact ⟨World.var?_cell gId hv 0, World.var?_cell gId hv 1, World.var?_cell gId hv 2, World.var?_cell gId hv 3, World.var?_cell gId hv 4, World.var?_cell gId hv 5, World.var?_cell gId hv 6, World.var?_cell gId hv 7, World.var?_cell gId hv 8⟩

/-- A slice of floats: nil, or its cells. -/
theorem open_floats {W : World} {fuel len cap : Nat} {ao : Option Addr} {x : DataW H × List MemPlace} (h : DataW.trod enc Ybad.prog W 0 (fun _ => true) true fuel 23 [.slice ao len cap] = some x) :
    (ao = none ∧ len = 0 ∧ cap = 0) ∨ ∃ (a : Addr) (z : Nat → Nat), ao = some a ∧ ∀ k, k < len → W.cell? (a.add k) = some (.float .f64 (z k)) := by
  rcases Deep.open_slice1 Ybad.underlying23 cells22 h with ⟨hcs, _⟩ | ⟨a, len', cap', m, n, V, D, Pl, hcs, _, hl, _, hm, _, hx⟩
  · simp at hcs
    exact .inl hcs
  · right
    simp only [List.cons.injEq, Value.slice.injEq, and_true] at hcs
    obtain ⟨rfl, rfl, rfl⟩ := hcs
    simp only [if_pos] at hm
    subst hm
    refine ⟨a, fun k => match V k with | .float _ b => b | _ => 0, rfl, fun k hk => ?_⟩
    obtain ⟨h1, h2⟩ := hx k (by omega)
    obtain ⟨b, hb, _⟩ := float_of_trod h2
    simp at hb
    simp only [h1, hb]
end
end Go.Proofs.YbulkdcwkDoor
