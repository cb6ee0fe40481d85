/-
  OWN WORK. The plain law of the gradient: what the road computes is what the law wants, word for word.
-/
import Derived.Test.YbulkdcwkDoorFloat2
namespace Go.Proofs.YbulkdcwkDoor
open Ieee

/-- a*x + b*y + c*z = v, no NaN on the way. -/
def Row (a b c x y z v : Nat) : Prop := ∃ p q r s, D.mul a x = some p ∧ D.mul b y = some q ∧ D.mul c z = some r ∧ D.add p q = some s ∧ D.add s r = some v

theorem Fb.word {x K : Nat} (h : Fb x K) (hK : K ≤ 1000) : ∃ s r, x = D.word s r ∧ r < 2047 * 2 ^ 52 := by
  obtain ⟨s, r, e, hr⟩ := h
  exact ⟨s, r, e, rung_lt hr hK⟩

theorem zero_mul_fb {x K : Nat} (h : Fb x K) (hK : K ≤ 1000) : ∃ t, D.mul 0 x = some (D.word t 0) := by
  obtain ⟨s, r, rfl, hr⟩ := h.word hK
  exact ⟨_, zero_mul s false hr⟩

theorem mul_zero_fb {x K : Nat} (h : Fb x K) (hK : K ≤ 1000) : ∃ t, D.mul x 0 = some (D.word t 0) := by
  obtain ⟨s, r, rfl, hr⟩ := h.word hK
  exact ⟨_, mul_zero s false hr⟩

theorem row0 {a x y z p K : Nat} (ha : D.mul a x = some p) (hp : Fb p K) (hy : Fb y K) (hz : Fb z K) (hK : K ≤ 1000) : ∃ v, Row a 0 0 x y z v ∧ Ag v p := by
  obtain ⟨t1, e1⟩ := zero_mul_fb hy hK
  obtain ⟨t2, e2⟩ := zero_mul_fb hz hK
  obtain ⟨s, e3, g3⟩ := (Ag.refl hp hK).add_zero t1
  obtain ⟨v, e4, g4⟩ := g3.add_zero t2
  exact ⟨v, ⟨p, _, _, s, ha, e1, e2, e3, e4⟩, g4⟩

theorem row1 {b x y z p K : Nat} (hb : D.mul b y = some p) (hp : Fb p K) (hx : Fb x K) (hz : Fb z K) (hK : K ≤ 1000) : ∃ v, Row 0 b 0 x y z v ∧ Ag v p := by
  obtain ⟨t1, e1⟩ := zero_mul_fb hx hK
  obtain ⟨t2, e2⟩ := zero_mul_fb hz hK
  obtain ⟨s, e3, g3⟩ := (Ag.refl hp hK).zero_add t1
  obtain ⟨v, e4, g4⟩ := g3.add_zero t2
  exact ⟨v, ⟨_, p, _, s, e1, hb, e2, e3, e4⟩, g4⟩

theorem row2 {c x y z p K : Nat} (hc : D.mul c z = some p) (hp : Fb p K) (hx : Fb x K) (hy : Fb y K) (hK : K ≤ 1000) : ∃ v, Row 0 0 c x y z v ∧ Ag v p := by
  obtain ⟨t1, e1⟩ := zero_mul_fb hx hK
  obtain ⟨t2, e2⟩ := zero_mul_fb hy hK
  obtain ⟨v, e4, g4⟩ := (Ag.refl hp hK).zero_add (t1 && t2)
  exact ⟨v, ⟨_, _, p, _, e1, e2, hc, add_zero_zero t1 t2, e4⟩, g4⟩

theorem dot0 {u0 u1 u2 p K : Nat} (h0 : Ag u0 p) (hp : Fb p K) (h1 : Fb u1 K) (h2 : Fb u2 K) (hK : K ≤ 1000) (t : Bool) : ∃ v p', Row u0 u1 u2 (D.word t ONE) 0 0 v ∧ D.mul (D.word t ONE) p = some p' ∧ Ag v p' ∧ Fb p' K := by
  obtain ⟨z, p', e1, e2, g1, f1⟩ := h0.mul_one hp hK t
  obtain ⟨t1, e3⟩ := mul_zero_fb h1 hK
  obtain ⟨t2, e4⟩ := mul_zero_fb h2 hK
  obtain ⟨s, e5, g5⟩ := g1.add_zero t1
  obtain ⟨v, e6, g6⟩ := g5.add_zero t2
  exact ⟨v, p', ⟨z, _, _, s, e1, e3, e4, e5, e6⟩, e2, g6, f1⟩

theorem dot1 {u0 u1 u2 p K : Nat} (h1 : Ag u1 p) (hp : Fb p K) (h0 : Fb u0 K) (h2 : Fb u2 K) (hK : K ≤ 1000) (t : Bool) : ∃ v p', Row u0 u1 u2 0 (D.word t ONE) 0 v ∧ D.mul (D.word t ONE) p = some p' ∧ Ag v p' ∧ Fb p' K := by
  obtain ⟨z, p', e1, e2, g1, f1⟩ := h1.mul_one hp hK t
  obtain ⟨t1, e3⟩ := mul_zero_fb h0 hK
  obtain ⟨t2, e4⟩ := mul_zero_fb h2 hK
  obtain ⟨s, e5, g5⟩ := g1.zero_add t1
  obtain ⟨v, e6, g6⟩ := g5.add_zero t2
  exact ⟨v, p', ⟨_, z, _, s, e3, e1, e4, e5, e6⟩, e2, g6, f1⟩

theorem dot2 {u0 u1 u2 p K : Nat} (h2 : Ag u2 p) (hp : Fb p K) (h0 : Fb u0 K) (h1 : Fb u1 K) (hK : K ≤ 1000) (t : Bool) : ∃ v p', Row u0 u1 u2 0 0 (D.word t ONE) v ∧ D.mul (D.word t ONE) p = some p' ∧ Ag v p' ∧ Fb p' K := by
  obtain ⟨z, p', e1, e2, g1, f1⟩ := h2.mul_one hp hK t
  obtain ⟨t1, e3⟩ := mul_zero_fb h0 hK
  obtain ⟨t2, e4⟩ := mul_zero_fb h1 hK
  obtain ⟨v, e6, g6⟩ := g1.zero_add (t1 && t2)
  exact ⟨v, p', ⟨_, _, z, _, e3, e4, e1, add_zero_zero t1 t2, e6⟩, e2, g6, f1⟩

def rowV (a b c x y z : Nat) : Option Nat := (D.mul a x).bind fun p => (D.mul b y).bind fun q => (D.mul c z).bind fun r => (D.add p q).bind fun s => D.add s r

theorem Row.of {a b c x y z v : Nat} (h : rowV a b c x y z = some v) : Row a b c x y z v := by
  unfold rowV at h
  simp only [Option.bind_eq_some_iff] at h
  obtain ⟨p, h1, q, h2, r, h3, s, h4, h5⟩ := h
  exact ⟨p, q, r, s, h1, h2, h3, h4, h5⟩

/-- The identity's and the diagonal's words. -/
def dg (S i k : Nat) : Nat := if i = k then S else 0

/-- The scale's word, its inverse's word. -/
structure Sca (sc S : Nat) : Prop where
  inv : D.div 4607182418800017408 sc = some S
  rows : ∀ i j : Fin 3, rowV (dg 4607182418800017408 i 0) (dg 4607182418800017408 i 1) (dg 4607182418800017408 i 2) (dg S 0 j) (dg S 1 j) (dg S 2 j) = some (dg S i j)
  same : ∀ x K, Fb x K → K + 3 ≤ 1000 → ∃ p, D.mul S x = some p ∧ D.div x sc = some p ∧ Fb p (K + 3)

theorem same_of {E : Nat} (h1 : 1021 ≤ E) (h2 : E ≤ 1025) (x K : Nat) (hx : Fb x K) (hK : K + 3 ≤ 1000) (hE : E ≤ 1024) : ∃ p, D.mul (D.word false (E * 2 ^ 52)) x = some p ∧ D.div x (D.word false ((2046 - E) * 2 ^ 52)) = some p ∧ Fb p (K + 3) := by
  have hS : Fb (D.word false (E * 2 ^ 52)) 1 := ⟨false, _, rfl, Nat.mul_le_mul_right _ (by omega)⟩
  obtain ⟨z, e, hz⟩ := mul_fb hS hx (by omega)
  obtain ⟨s, r, rfl, hr⟩ := hx.word (by omega)
  have e2 := pow_mul s false (E := E) hr (by omega) (by omega)
  have e3 := div_pow s (E := 2046 - E) hr (by omega) (by omega)
  rw [e2] at e
  refine ⟨z, ?_, ?_, hz.mono (by omega)⟩
  · rw [e2]; exact e
  · rw [e3]
    rw [← e]
    congr 2
    · simp
    · omega

theorem sca1 : Sca 4607182418800017408 4607182418800017408 :=
  ⟨by decide +kernel, by decide +kernel, fun x K h1 h2 => same_of (E := 1023) (by decide) (by decide) x K h1 h2 (by decide)⟩
theorem sca2 : Sca 4611686018427387904 4602678819172646912 :=
  ⟨by decide +kernel, by decide +kernel, fun x K h1 h2 => same_of (E := 1022) (by decide) (by decide) x K h1 h2 (by decide)⟩
theorem sca4 : Sca 4616189618054758400 4598175219545276416 :=
  ⟨by decide +kernel, by decide +kernel, fun x K h1 h2 => same_of (E := 1021) (by decide) (by decide) x K h1 h2 (by decide)⟩
theorem scah : Sca 4602678819172646912 4611686018427387904 :=
  ⟨by decide +kernel, by decide +kernel, fun x K h1 h2 => same_of (E := 1024) (by decide) (by decide) x K h1 h2 (by decide)⟩

/-! ### the colours -/

/-- f <= 0, f < 1. -/
def le0 (f : Nat) : Bool := D.order f 0 == some .lt || D.order f 0 == some .eq
def lt1 (f : Nat) : Bool := D.order f 4607182418800017408 == some .lt

/-- a*(1-f) + b*f = c. -/
def Mix (f a b c : Nat) : Prop := ∃ g p q, D.sub 4607182418800017408 f = some g ∧ D.mul a g = some p ∧ D.mul b f = some q ∧ D.add p q = some c

theorem mix_ok {f a b : Nat} (hf : Fb f 40) (ha : Fb a 20) (hb : Fb b 20) : ∃ c, Mix f a b c ∧ Fb c 66 := by
  have h1 : Fb 4607182418800017408 40 := ⟨false, 1023 * 2 ^ 52, rfl, by decide⟩
  obtain ⟨g, e1, f1⟩ := sub_fb h1 hf (by decide)
  obtain ⟨p, e2, f2⟩ := mul_fb ha f1 (by decide)
  obtain ⟨q, e3, f3⟩ := mul_fb hb hf (by decide)
  obtain ⟨c, e4, f4⟩ := add_fb f2 (f3.mono (by decide)) (by decide)
  exact ⟨c, ⟨g, p, q, e1, e2, e3, e4⟩, f4⟩

/-- Where f is above 0: (f - 0) / (1 - 0) is f. -/
theorem ratio {f : Nat} (hf : Fb f 40) (h : le0 f = false) : D.sub f 0 = some f ∧ D.sub 4607182418800017408 0 = some 4607182418800017408 ∧ D.div f 4607182418800017408 = some f := by
  obtain ⟨s, r, rfl, hr⟩ := hf.word (by decide)
  have h0 : r ≠ 0 := by
    rintro rfl
    cases s <;> exact absurd h (by decide)
  refine ⟨sub_zero s false hr h0, by decide +kernel, ?_⟩
  have e := div_pow s (E := 1023) hr (by decide) (by decide)
  rw [show (1023 : Int) - ((1023 : Nat) : Int) = 0 by decide, scaled_zero s hr] at e
  exact e

/-- The law's colour. -/
def Col (f a b c : Nat) : Prop := (le0 f = true ∧ c = a) ∨ (le0 f = false ∧ lt1 f = true ∧ Mix f a b c) ∨ (le0 f = false ∧ lt1 f = false ∧ c = b)

/-! ### the law's last test -/

/-- |a| of the word a. -/
def absW (a : Nat) : Nat := a % 2 ^ 63

theorem absW_le {a K : Nat} (h : Fb a K) (hK : K ≤ 1000) : absW a ≤ (K + 1023) * 2 ^ 52 := by
  obtain ⟨s, r, rfl, hr⟩ := h
  have h63 : r < 2 ^ 63 := Nat.lt_trans (rung_lt hr hK) (by decide)
  have : absW (D.word s r) = r := by
    unfold absW Format.word
    rw [D_sign]
    cases s
    · simp [Nat.mod_eq_of_lt h63]
    · simp only [if_true]
      rw [Nat.add_mod_left, Nat.mod_eq_of_lt h63]
  rw [this]
  exact hr

theorem close_ok {a b : Nat} (ha : Fb a 20) (hb : Fb b 20) : ∃ s t, D.add (absW a) (absW b) = some s ∧ D.mul 4472406533629990549 s = some t ∧ (D.order 0 t == some .lt || D.order 0 t == some .eq) = true := by
  obtain ⟨s, e1, h1⟩ := add_pos (absW_le ha (by decide)) (absW_le hb (by decide)) (by decide)
  obtain ⟨r, e2, h2⟩ := mul_pos (x := 4472406533629990549) (K := 0) (by decide) h1 (by decide)
  exact ⟨s, _, e1, e2, order_zero h2⟩

theorem diff_ok {c K : Nat} (h : Fb c K) (hK : K ≤ 1000) : D.sub c c = some 0 := by
  obtain ⟨s, r, rfl, hr⟩ := h.word hK
  exact sub_self s hr

end Go.Proofs.YbulkdcwkDoor
