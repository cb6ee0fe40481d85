/-
  OWN WORK. Floor; words that agree up to the sign of zero; the bounds that a comparison gives.
-/
import Derived.Test.YbulkdcwkDoorFloat
namespace Go.Proofs.YbulkdcwkDoor
open Ieee

/-! ### floor -/

theorem down_le (s : Bool) (n d N : Nat) (h : n ≤ N * 2 ^ d) : Toward.down.cut s n d ≤ N := by
  unfold Toward.cut
  simp only [Nat.one_shiftLeft]
  have hb : ∀ b : Bool, b.toNat ≤ 1 := fun b => by cases b <;> simp
  by_cases hd : d ≤ n.log2 + 2
  · rw [Nat.min_eq_left hd]
    have hlow : n / 2 ^ d ≤ N := Nat.div_le_of_le_mul (by rw [Nat.mul_comm]; exact h)
    by_cases he : n / 2 ^ d = N
    · have hr : n % 2 ^ d = 0 := by
        have := Nat.div_add_mod n (2 ^ d)
        rw [he] at this
        have h2 : 2 ^ d * N = N * 2 ^ d := Nat.mul_comm _ _
        omega
      rw [hr, he]
      simp
    · have hlt : n / 2 ^ d < N := Nat.lt_of_le_of_ne hlow he
      exact Nat.le_trans (Nat.add_le_add_left (hb _) _) hlt
  · rw [Nat.min_eq_right (by omega)]
    by_cases hn0 : n = 0
    · subst hn0
      simp
    · have hn : n < 2 ^ (n.log2 + 1) := Nat.lt_log2_self
      have hp : 2 ^ (n.log2 + 2) = 2 * 2 ^ (n.log2 + 1) := by rw [Nat.pow_succ]; omega
      have h1 : n / 2 ^ (n.log2 + 2) = 0 := Nat.div_eq_of_lt (by omega)
      rw [h1, Nat.zero_add]
      refine Nat.le_trans (hb _) ?_
      rcases Nat.eq_zero_or_pos N with hN | hN
      · subst hN
        omega
      · exact hN

def flr (x : Nat) : Nat := D.write ((D.read x).integral .down)

theorem flr_fb {x K : Nat} (hx : Fb x K) (h : K + 2 ≤ 1000) : Fb (flr x) (K + 2) := by
  obtain ⟨s, m, i, e, hm, hi⟩ := hx.read (by omega)
  unfold flr
  rw [e]
  refine write_fb _ _ (K + 2) _ _ ?_ (by omega) h
  have hle : Toward.down.cut s (m <<< i.toNat) (-i).toNat ≤ 2 ^ (K + 1) := by
    apply down_le
    rw [Nat.shiftLeft_eq, ← Nat.pow_add]
    refine Nat.le_trans (Nat.mul_le_mul_right _ (Nat.le_of_lt hm)) ?_
    rw [← Nat.pow_add]
    exact Nat.pow_le_pow_right (by decide) (by omega)
  refine Nat.lt_of_le_of_lt hle ?_
  exact Nat.pow_lt_pow_right (by decide) (by omega)

theorem flr_zero (s : Bool) : flr (D.word s 0) = D.word s 0 := by cases s <;> decide

/-- v - floor v. -/
def frac (x : Nat) : Option Nat := D.sub x (flr x)

theorem frac_fb {x K : Nat} (hx : Fb x K) (h : K + 4 ≤ 1000) : ∃ z, frac x = some z ∧ Fb z (K + 4) :=
  sub_fb (hx.mono (by omega)) (flr_fb hx (by omega)) (by omega)

theorem frac_zero (s : Bool) : frac (D.word s 0) = some (D.word false 0) := by cases s <;> decide

/-! ### up to the sign of zero -/

/-- x is y, or both are zeros; y is finite. -/
def Ag (x y : Nat) : Prop := (∃ s t, x = D.word s 0 ∧ y = D.word t 0) ∨ (x = y ∧ ∃ s r, r ≠ 0 ∧ r < 2047 * 2 ^ 52 ∧ y = D.word s r)

theorem Ag.refl {x K : Nat} (h : Fb x K) (hK : K ≤ 1000) : Ag x x := by
  obtain ⟨s, r, rfl, hr⟩ := h
  by_cases h0 : r = 0
  · subst h0; exact .inl ⟨s, s, rfl, rfl⟩
  · exact .inr ⟨rfl, s, r, h0, rung_lt hr hK, rfl⟩

theorem Ag.fb {x y K : Nat} (h : Ag x y) (hy : Fb y K) : Fb x K := by
  rcases h with ⟨s, t, rfl, rfl⟩ | ⟨rfl, _⟩
  · exact ⟨s, 0, rfl, Nat.zero_le _⟩
  · exact hy

theorem Ag.add_zero {x y : Nat} (h : Ag x y) (t : Bool) : ∃ z, D.add x (D.word t 0) = some z ∧ Ag z y := by
  rcases h with ⟨s, t', rfl, rfl⟩ | ⟨rfl, s, r, h0, hr, rfl⟩
  · exact ⟨_, add_zero_zero s t, .inl ⟨_, _, rfl, rfl⟩⟩
  · exact ⟨_, YbulkdcwkDoor.add_zero s t hr h0, .inr ⟨rfl, s, r, h0, hr, rfl⟩⟩

theorem Ag.zero_add {x y : Nat} (h : Ag x y) (t : Bool) : ∃ z, D.add (D.word t 0) x = some z ∧ Ag z y := by
  rcases h with ⟨s, t', rfl, rfl⟩ | ⟨rfl, s, r, h0, hr, rfl⟩
  · exact ⟨_, add_zero_zero t s, .inl ⟨_, _, rfl, rfl⟩⟩
  · exact ⟨_, YbulkdcwkDoor.zero_add s t hr h0, .inr ⟨rfl, s, r, h0, hr, rfl⟩⟩

/-- The words 1 and -1. -/
def ONE : Nat := 1023 * 2 ^ 52

theorem mul_one' (s t : Bool) {r : Nat} (hr : r < 2047 * 2 ^ 52) : D.mul (D.word s r) (D.word t ONE) = some (D.word (s ^^ t) r) := by
  have := mul_pow s t (E := 1023) hr (by decide) (by decide)
  rw [show ((1023 : Nat) : Int) - 1023 = 0 by decide, scaled_zero _ hr] at this
  exact this

theorem one_mul' (s t : Bool) {r : Nat} (hr : r < 2047 * 2 ^ 52) : D.mul (D.word t ONE) (D.word s r) = some (D.word (t ^^ s) r) := by
  have := pow_mul s t (E := 1023) hr (by decide) (by decide)
  rw [show ((1023 : Nat) : Int) - 1023 = 0 by decide, scaled_zero _ hr] at this
  exact this

theorem word_inj {s s' : Bool} {r r' : Nat} (hr : r < 2 ^ 63) (hr' : r' < 2 ^ 63) (h : D.word s r = D.word s' r') : r = r' := by
  have g : ∀ (s : Bool) (r : Nat), r < 2 ^ 63 → D.word s r % 2 ^ 63 = r := by
    intro s r h63
    unfold Format.word
    rw [D_sign]
    cases s
    · simp [Nat.mod_eq_of_lt h63]
    · simp only [if_true]
      rw [Nat.add_mod_left, Nat.mod_eq_of_lt h63]
  rw [← g s r hr, ← g s' r' hr', h]

theorem Ag.mul_one {x y K : Nat} (h : Ag x y) (hK : Fb y K) (hK2 : K ≤ 1000) (t : Bool) : ∃ z y', D.mul x (D.word t ONE) = some z ∧ D.mul (D.word t ONE) y = some y' ∧ Ag z y' ∧ Fb y' K := by
  have h0' : 0 < 2047 * 2 ^ 52 := by decide
  rcases h with ⟨s, t', rfl, rfl⟩ | ⟨rfl, s, r, h0, hr, rfl⟩
  · exact ⟨_, _, mul_one' s t h0', one_mul' t' t h0', .inl ⟨_, _, rfl, rfl⟩, ⟨_, 0, rfl, Nat.zero_le _⟩⟩
  · refine ⟨_, _, mul_one' s t hr, one_mul' s t hr, .inr ⟨by rw [Bool.xor_comm], _, r, h0, hr, rfl⟩, ?_⟩
    obtain ⟨s', r', e, hr'⟩ := hK
    refine ⟨_, r, rfl, ?_⟩
    rw [word_inj (Nat.lt_trans hr (by decide)) (Nat.lt_trans (rung_lt hr' hK2) (by decide)) e]
    exact hr'

theorem Ag.frac {x y : Nat} (h : Ag x y) : frac x = YbulkdcwkDoor.frac y := by
  rcases h with ⟨s, t, rfl, rfl⟩ | ⟨rfl, _⟩
  · rw [frac_zero, frac_zero]
  · rfl

/-! ### comparisons -/

def val (r : Nat) : Nat := mg r * 2 ^ (pl r + 1074).toNat

theorem pl_ge (r : Nat) : -1074 ≤ pl r := by
  unfold pl
  split <;> omega

theorem val_ge {r E : Nat} (h : E * 2 ^ 52 ≤ r) (hE : 1 ≤ E) : 2 ^ 52 * 2 ^ (E - 1) ≤ val r := by
  have h52 : ¬ r < 2 ^ 52 := by
    have := Nat.mul_le_mul_right (2 ^ 52) hE
    omega
  have hd : E ≤ r / 2 ^ 52 := (Nat.le_div_iff_mul_le (Nat.two_pow_pos 52)).2 h
  unfold val mg pl
  rw [if_neg h52, if_neg h52]
  refine Nat.mul_le_mul (Nat.le_add_right _ _) (Nat.pow_le_pow_right (by decide) ?_)
  omega

theorem val_lt {r E : Nat} (h : r < E * 2 ^ 52) (hE : 2 ≤ E) : val r < 2 ^ 52 * 2 ^ (E - 1) := by
  have hm := mg_lt r
  have hd : r / 2 ^ 52 < E := (Nat.div_lt_iff_lt_mul (Nat.two_pow_pos 52)).2 h
  have hp : (pl r + 1074).toNat ≤ E - 2 := by
    unfold pl
    split <;> omega
  unfold val
  refine Nat.lt_of_lt_of_le (Nat.mul_lt_mul_of_pos_right hm (Nat.two_pow_pos _)) ?_
  refine Nat.le_trans (Nat.mul_le_mul_left _ (Nat.pow_le_pow_right (by decide) hp)) ?_
  rw [← Nat.pow_add, ← Nat.pow_add]
  exact Nat.pow_le_pow_right (by decide) (by omega)

theorem signed_val (r : Nat) {base : Int} (hb : base ≤ pl r) (hb2 : -1074 ≤ base) : val r = mg r * 2 ^ (pl r - base).toNat * 2 ^ (base + 1074).toNat := by
  unfold val
  rw [Nat.mul_assoc, ← Nat.pow_add]
  congr 2
  omega

/-- Of two finite words of one sign the greater magnitude is told by 'order'. -/
theorem order_gt (s : Bool) {r l : Nat} (hr : r < 2047 * 2 ^ 52) (hl : l < 2047 * 2 ^ 52) (h : val l < val r) : D.order (D.word s r) (D.word s l) = some (if s then .lt else .gt) := by
  unfold Format.order
  rw [read_word s hr, read_word s hl]
  simp only [Datum.order]
  generalize hb : min (pl r) (pl l) = base
  have h1 := pl_ge r
  have h2 := pl_ge l
  rw [signed_val r (base := base) (by omega) (by omega), signed_val l (base := base) (by omega) (by omega)] at h
  have h3 : mg l * 2 ^ (pl l - base).toNat < mg r * 2 ^ (pl r - base).toNat := Nat.lt_of_mul_lt_mul_right h
  have hr' : signed s (mg r) (pl r - base).toNat = if s then -((mg r * 2 ^ (pl r - base).toNat : Nat) : Int) else ((mg r * 2 ^ (pl r - base).toNat : Nat) : Int) := by
    unfold signed; rw [Nat.shiftLeft_eq]
  have hl' : signed s (mg l) (pl l - base).toNat = if s then -((mg l * 2 ^ (pl l - base).toNat : Nat) : Int) else ((mg l * 2 ^ (pl l - base).toNat : Nat) : Int) := by
    unfold signed; rw [Nat.shiftLeft_eq]
  rw [hr', hl']
  generalize mg r * 2 ^ (pl r - base).toNat = a at h3
  generalize mg l * 2 ^ (pl l - base).toNat = b at h3
  cases s
  · simp only [Bool.false_eq_true, if_false]
    rw [Int.compare_eq_gt.2 (by omega)]
  · simp only [if_true]
    rw [Int.compare_eq_lt.2 (by omega)]

/-- A word is a sign and a rung. -/
theorem word_of {x : Nat} (h : x < 2 ^ 64) : ∃ s r, x = D.word s r ∧ r < 2 ^ 63 := by
  by_cases hx : x < 2 ^ 63
  · exact ⟨false, x, rfl, hx⟩
  · refine ⟨true, x - 2 ^ 63, ?_, by omega⟩
    unfold Format.word
    rw [D_sign]
    simp only [if_true]
    omega

theorem read_big (s : Bool) {r : Nat} (h63 : r < 2 ^ 63) (hr : 2047 * 2 ^ 52 ≤ r) : D.read (D.word s r) = .infinity s ∨ ∃ t, D.read (D.word s r) = .nan s t := by
  have h1 : D.word s r / 2 ^ 63 % 2 = s.toNat := by
    unfold Format.word
    rw [D_sign]
    cases s
    · simp [Nat.div_eq_of_lt h63]
    · simp only [if_true]
      rw [Nat.add_div_left _ (Nat.two_pow_pos 63), Nat.div_eq_of_lt h63]
      rfl
  have h2 : D.word s r % 2 ^ 63 = r := by
    unfold Format.word
    rw [D_sign]
    cases s
    · simp [Nat.mod_eq_of_lt h63]
    · simp only [if_true]
      rw [Nat.add_mod_left, Nat.mod_eq_of_lt h63]
  have hs : (s.toNat == 1) = s := by cases s <;> rfl
  unfold Format.read
  rw [D_sign, D_binade, D_inf, D_least, h1, h2]
  dsimp only
  rw [hs, if_neg (Nat.not_lt.2 (Nat.le_trans (by decide) hr)), if_neg (Nat.not_lt.2 hr)]
  by_cases he : r = 2047 * 2 ^ 52
  · rw [if_pos he]; exact .inl rfl
  · rw [if_neg he]; exact .inr ⟨_, rfl⟩

/-- 'x >= -lim && x <= lim'. -/
def inB (x lim : Nat) : Bool := (D.order x (2 ^ 63 + lim) == some .gt || D.order x (2 ^ 63 + lim) == some .eq) && (D.order x lim == some .lt || D.order x lim == some .eq)

theorem in_fb {x lim K : Nat} (hx : x < 2 ^ 64) (hl : lim < (K + 1023) * 2 ^ 52) (hK : K ≤ 1000) (h : inB x lim = true) : Fb x K := by
  obtain ⟨s, r, rfl, h63⟩ := word_of hx
  have hlr : lim < 2047 * 2 ^ 52 := rung_lt (Nat.le_of_lt hl) hK
  have e1 : (2 ^ 63 + lim) = D.word true lim := rfl
  have e2 : lim = D.word false lim := rfl
  by_cases hb : r < (K + 1023) * 2 ^ 52
  · exact ⟨s, r, rfl, Nat.le_of_lt hb⟩
  · exfalso
    unfold inB at h
    have hrl : ∀ s, D.read (D.word s lim) = .number s (mg lim) (pl lim) := fun s => read_word s hlr
    by_cases hf : r < 2047 * 2 ^ 52
    · have hv : val lim < val r := Nat.lt_of_lt_of_le (val_lt hl (by omega)) (val_ge (Nat.not_lt.1 hb) (by omega))
      have ho := order_gt s hf hlr hv
      cases s
      · rw [← e2] at ho
        rw [ho] at h
        simp at h
      · rw [← e1] at ho
        rw [ho] at h
        simp at h
    · rcases read_big s h63 (Nat.not_lt.1 hf) with hi | ⟨t, hn⟩
      · cases s
        · have : D.order (D.word false r) lim = some .gt := by
            rw [e2]; unfold Format.order; rw [hi, hrl]; rfl
          rw [this] at h
          simp at h
        · have : D.order (D.word true r) (2 ^ 63 + lim) = some .lt := by
            rw [e1]; unfold Format.order; rw [hi, hrl]; rfl
          rw [this] at h
          simp at h
      · have : D.order (D.word s r) lim = none := by
          unfold Format.order; rw [hn]; rfl
        rw [this] at h
        simp at h

/-! ### the colours' closeness -/

theorem mul_pos {x y K L : Nat} (hx : x ≤ (K + 1023) * 2 ^ 52) (hy : y ≤ (L + 1023) * 2 ^ 52) (h : K + L + 2 ≤ 1000) : ∃ r, D.mul x y = some (D.word false r) ∧ r < 2047 * 2 ^ 52 := by
  have e1 : D.read x = .number false (mg x) (pl x) := read_word false (rung_lt hx (by omega))
  have e2 : D.read y = .number false (mg y) (pl y) := read_word false (rung_lt hy (by omega))
  have p1 := pl_le hx
  have p2 := pl_le hy
  obtain ⟨r, e, hr⟩ := nearest_bound false (mg x * mg y) 106 (pl x + pl y) (K + L + 2) (Nat.lt_of_lt_of_le (Nat.mul_lt_mul'' (mg_lt x) (mg_lt y)) (by decide)) (by omega) h
  exact ⟨r, by simp only [Format.mul, e1, e2, Datum.product, Option.map_some, Format.write, Bool.xor_self, e], rung_lt hr h⟩

theorem add_pos {x y K : Nat} (hx : x ≤ (K + 1023) * 2 ^ 52) (hy : y ≤ (K + 1023) * 2 ^ 52) (h : K + 2 ≤ 1000) : ∃ r, D.add x y = some r ∧ r ≤ (K + 2 + 1023) * 2 ^ 52 := by
  have e1 : D.read x = .number false (mg x) (pl x) := read_word false (rung_lt hx (by omega))
  have e2 : D.read y = .number false (mg y) (pl y) := read_word false (rung_lt hy (by omega))
  have p1 := pl_le hx
  have p2 := pl_le hy
  generalize hb : min (pl x) (pl y) = base
  obtain ⟨a, ha⟩ : ∃ a : Nat, a = max (pl x - base).toNat (pl y - base).toNat := ⟨_, rfl⟩
  have hsx : signed false (mg x) (pl x - base).toNat = ((mg x * 2 ^ (pl x - base).toNat : Nat) : Int) := by
    show ((mg x <<< (pl x - base).toNat : Nat) : Int) = _
    rw [Nat.shiftLeft_eq]
  have hsy : signed false (mg y) (pl y - base).toNat = ((mg y * 2 ^ (pl y - base).toNat : Nat) : Int) := by
    show ((mg y <<< (pl y - base).toNat : Nat) : Int) = _
    rw [Nat.shiftLeft_eq]
  have h1 : mg x * 2 ^ (pl x - base).toNat < 2 ^ (53 + a) := by
    rw [Nat.pow_add]
    exact Nat.lt_of_lt_of_le (Nat.mul_lt_mul_of_pos_right (mg_lt x) (Nat.two_pow_pos _)) (Nat.mul_le_mul_left _ (Nat.pow_le_pow_right (by decide) (by omega)))
  have h2 : mg y * 2 ^ (pl y - base).toNat < 2 ^ (53 + a) := by
    rw [Nat.pow_add]
    exact Nat.lt_of_lt_of_le (Nat.mul_lt_mul_of_pos_right (mg_lt y) (Nat.two_pow_pos _)) (Nat.mul_le_mul_left _ (Nat.pow_le_pow_right (by decide) (by omega)))
  have h3 : 2 ^ (54 + a) = 2 ^ (53 + a) + 2 ^ (53 + a) := by
    rw [show 54 + a = (53 + a) + 1 by omega, Nat.pow_succ]
    omega
  generalize mg x * 2 ^ (pl x - base).toNat = u at *
  generalize mg y * 2 ^ (pl y - base).toNat = v at *
  obtain ⟨r, e, hr⟩ := nearest_bound false (u + v) (54 + a) base (K + 2) (by omega) (by omega) h
  refine ⟨r, ?_, hr⟩
  simp only [Format.add, e1, e2, Datum.sum, Option.map_some, hb, hsx, hsy, Format.write]
  have hneg : (if (u : Int) + (v : Int) = 0 then (false && false) else decide ((u : Int) + (v : Int) < 0)) = false := by
    split
    · rfl
    · exact decide_eq_false (by omega)
  rw [hneg, show ((u : Int) + (v : Int)).natAbs = u + v by omega, e]
  rfl

theorem order_zero {r : Nat} (hr : r < 2047 * 2 ^ 52) : (D.order 0 (D.word false r) == some .lt || D.order 0 (D.word false r) == some .eq) = true := by
  have e0 : D.read 0 = .number false 0 (-1074) := by decide
  unfold Format.order
  rw [e0, read_word false hr]
  simp only [Datum.order]
  generalize hb : min (-1074) (pl r) = base
  have h1 : signed false 0 (-1074 - base).toNat = 0 := by unfold signed; simp
  have h2 : signed false (mg r) (pl r - base).toNat = ((mg r <<< (pl r - base).toNat : Nat) : Int) := rfl
  rw [h1, h2]
  generalize mg r <<< (pl r - base).toNat = u
  rcases Nat.eq_zero_or_pos u with h | h
  · subst h; rfl
  · rw [Int.compare_eq_lt.2 (by omega)]; rfl

end Go.Proofs.YbulkdcwkDoor
