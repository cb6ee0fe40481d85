/-
  OWN WORK. The plain law of the gradient, in one.
-/
import Derived.Test.YbulkdcwkDoorScale
namespace Go.Proofs.YbulkdcwkDoor

/-- What the road computes, and that the law computes the same fraction. -/
def Plain (sgn g0 g1 g2 X px py pz sc S : Nat) : Prop := ∃ u v t u' v' t' vv f q vw,
  Row (dgm S 0) (dgm S 1) (dgm S 2) px py pz u ∧ Row (dgm S 3) (dgm S 4) (dgm S 5) px py pz v ∧ Row (dgm S 6) (dgm S 7) (dgm S 8) px py pz t ∧
  D.add u 0 = some u' ∧ D.add v 0 = some v' ∧ D.add t 0 = some t' ∧ Row u' v' t' g0 g1 g2 vv ∧ Fb vv 33 ∧ frac vv = some f ∧ Fb f 40 ∧
  D.div X sc = some q ∧ D.mul sgn q = some vw ∧ Fb vw 33 ∧ frac vw = some f

theorem point_ok {px py pz sc S : Nat} (hs : Sca sc S) (hx : Fb px 30) (hy : Fb py 30) (hz : Fb pz 30) :
    ∃ u v t u' v' t' qx qy qz, Row (dgm S 0) (dgm S 1) (dgm S 2) px py pz u ∧ Row (dgm S 3) (dgm S 4) (dgm S 5) px py pz v ∧ Row (dgm S 6) (dgm S 7) (dgm S 8) px py pz t ∧
      D.add u 0 = some u' ∧ D.add v 0 = some v' ∧ D.add t 0 = some t' ∧ D.div px sc = some qx ∧ D.div py sc = some qy ∧ D.div pz sc = some qz ∧ Fb qx 33 ∧ Fb qy 33 ∧ Fb qz 33 ∧ Ag u' qx ∧ Ag v' qy ∧ Ag t' qz := by
  obtain ⟨qx, a1, a2, a3⟩ := hs.same px 30 hx (by decide)
  obtain ⟨qy, b1, b2, b3⟩ := hs.same py 30 hy (by decide)
  obtain ⟨qz, c1, c2, c3⟩ := hs.same pz 30 hz (by decide)
  have hx' := hx.mono (show 30 ≤ 33 by decide)
  have hy' := hy.mono (show 30 ≤ 33 by decide)
  have hz' := hz.mono (show 30 ≤ 33 by decide)
  obtain ⟨u, r0, g0⟩ := row0 a1 a3 hy' hz' (by decide)
  obtain ⟨v, r1, g1⟩ := row1 b1 b3 hx' hz' (by decide)
  obtain ⟨t, r2, g2⟩ := row2 c1 c3 hx' hy' (by decide)
  obtain ⟨u', d0, k0⟩ := g0.add_zero false
  obtain ⟨v', d1, k1⟩ := g1.add_zero false
  obtain ⟨t', d2, k2⟩ := g2.add_zero false
  exact ⟨u, v, t, u', v', t', qx, qy, qz, r0, r1, r2, d0, d1, d2, a2, b2, c2, a3, b3, c3, k0, k1, k2⟩

theorem plain0 {px py pz sc S : Nat} (hs : Sca sc S) (hx : Fb px 30) (hy : Fb py 30) (hz : Fb pz 30) (t : Bool) : Plain (D.word t ONE) (D.word t ONE) 0 0 px px py pz sc S := by
  obtain ⟨u, v, q, u', v', t', qx, qy, qz, r0, r1, r2, d0, d1, d2, a2, b2, c2, a3, b3, c3, k0, k1, k2⟩ := point_ok hs hx hy hz
  obtain ⟨vv, vw, e1, e2, e3, e4⟩ := dot0 k0 a3 (k1.fb b3) (k2.fb c3) (by decide) t
  obtain ⟨f, e5, e6⟩ := frac_fb (e3.fb e4) (by decide)
  exact ⟨u, v, q, u', v', t', vv, f, qx, vw, r0, r1, r2, d0, d1, d2, e1, e3.fb e4, e5, e6.mono (by decide), a2, e2, e4, e3.frac ▸ e5⟩

theorem plain1 {px py pz sc S : Nat} (hs : Sca sc S) (hx : Fb px 30) (hy : Fb py 30) (hz : Fb pz 30) (t : Bool) : Plain (D.word t ONE) 0 (D.word t ONE) 0 py px py pz sc S := by
  obtain ⟨u, v, q, u', v', t', qx, qy, qz, r0, r1, r2, d0, d1, d2, a2, b2, c2, a3, b3, c3, k0, k1, k2⟩ := point_ok hs hx hy hz
  obtain ⟨vv, vw, e1, e2, e3, e4⟩ := dot1 k1 b3 (k0.fb a3) (k2.fb c3) (by decide) t
  obtain ⟨f, e5, e6⟩ := frac_fb (e3.fb e4) (by decide)
  exact ⟨u, v, q, u', v', t', vv, f, qy, vw, r0, r1, r2, d0, d1, d2, e1, e3.fb e4, e5, e6.mono (by decide), b2, e2, e4, e3.frac ▸ e5⟩

theorem plain2 {px py pz sc S : Nat} (hs : Sca sc S) (hx : Fb px 30) (hy : Fb py 30) (hz : Fb pz 30) (t : Bool) : Plain (D.word t ONE) 0 0 (D.word t ONE) pz px py pz sc S := by
  obtain ⟨u, v, q, u', v', t', qx, qy, qz, r0, r1, r2, d0, d1, d2, a2, b2, c2, a3, b3, c3, k0, k1, k2⟩ := point_ok hs hx hy hz
  obtain ⟨vv, vw, e1, e2, e3, e4⟩ := dot2 k2 c3 (k0.fb a3) (k1.fb b3) (by decide) t
  obtain ⟨f, e5, e6⟩ := frac_fb (e3.fb e4) (by decide)
  exact ⟨u, v, q, u', v', t', vv, f, qz, vw, r0, r1, r2, d0, d1, d2, e1, e3.fb e4, e5, e6.mono (by decide), c2, e2, e4, e3.frac ▸ e5⟩

/-- The gradient is not zero. -/
def NotZero (g0 g1 g2 : Nat) : Prop := ∀ w, (binOp .eql 32 (.agg #[.float .f64 g0, .float .f64 g1, .float .f64 g2]) (.agg #[.float .f64 0, .float .f64 0, .float .f64 0])).run Ybad.prog w = .ok (.bool false) w

theorem nz (t : Bool) : NotZero (D.word t ONE) 0 0 ∧ NotZero 0 (D.word t ONE) 0 ∧ NotZero 0 0 (D.word t ONE) := by
  cases t
  · exact ⟨fun w => by kernel_rfl, fun w => by kernel_rfl, fun w => by kernel_rfl⟩
  · exact ⟨fun w => by kernel_rfl, fun w => by kernel_rfl, fun w => by kernel_rfl⟩

end Go.Proofs.YbulkdcwkDoor
