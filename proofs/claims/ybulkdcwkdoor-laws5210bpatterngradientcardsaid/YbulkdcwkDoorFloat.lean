/-
  OWN WORK. Words of float64: what the operations give, as far as the gradient needs it.
-/
import Derived.Laws.FloatArith
namespace Go.Proofs.YbulkdcwkDoor
open Ieee

abbrev D : Format := Ieee.double

theorem D_frac : D.fractionBits = 52 := rfl
theorem D_binade : D.binade = 2 ^ 52 := rfl
theorem D_inf : D.infRung = 2047 * 2 ^ 52 := by decide
theorem D_sign : D.signWeight = 2 ^ 63 := rfl
theorem D_least : D.leastPlace = -1074 := by decide

/-! ### cutting -/

theorem cut_zero (s : Bool) (n : Nat) : Toward.even.cut s n 0 = n := by
  unfold Toward.cut
  simp [Nat.mod_one]

/-- Even cutting of a number that is at most N units gives at most N. -/
theorem cut_le (s : Bool) (n d N : Nat) (h : n ≤ N * 2 ^ d) : Toward.even.cut s n d ≤ N := by
  unfold Toward.cut
  simp only [Nat.one_shiftLeft]
  by_cases hd : d ≤ n.log2 + 2
  · rw [Nat.min_eq_left hd]
    have hpos : 0 < 2 ^ d := Nat.two_pow_pos d
    have hlow : n / 2 ^ d ≤ N := Nat.div_le_of_le_mul (by rw [Nat.mul_comm]; exact h)
    by_cases he : n / 2 ^ d = N
    · have hr : n % 2 ^ d = 0 := by
        have := Nat.div_add_mod n (2 ^ d)
        rw [he] at this
        have h2 : 2 ^ d * N = N * 2 ^ d := Nat.mul_comm _ _
        omega
      rw [hr, he]
      have hb : (2 ^ d == 2 * 0) = false := beq_eq_false_iff_ne.2 (by omega)
      have hl : decide (2 ^ d < 2 * 0) = false := decide_eq_false (by omega)
      rw [hb, hl]
      simp
    · have hlt : n / 2 ^ d < N := Nat.lt_of_le_of_ne hlow he
      have : ∀ b : Bool, b.toNat ≤ 1 := fun b => by cases b <;> simp
      exact Nat.le_trans (Nat.add_le_add_left (this _) _) hlt
  · rw [Nat.min_eq_right (by omega)]
    have hn : n < 2 ^ (n.log2 + 1) := Nat.lt_log2_self
    have hp : 2 ^ (n.log2 + 2) = 2 * 2 ^ (n.log2 + 1) := by rw [Nat.pow_succ]; omega
    have h1 : n / 2 ^ (n.log2 + 2) = 0 := Nat.div_eq_of_lt (by omega)
    have h2 : n % 2 ^ (n.log2 + 2) = n := Nat.mod_eq_of_lt (by omega)
    rw [h1, h2]
    have h3 : ¬ 2 ^ (n.log2 + 2) < 2 * n := by omega
    have h4 : ¬ 2 ^ (n.log2 + 2) = 2 * n := by omega
    simp [h3]

theorem log2_mul_pow {m : Nat} (hm : m ≠ 0) (a : Nat) : (m * 2 ^ a).log2 = m.log2 + a := by
  induction a with
  | zero => simp
  | succ a ih =>
    rw [Nat.pow_succ, ← Nat.mul_assoc, Nat.mul_comm _ 2, Nat.log2_two_mul (by
      intro h
      rcases Nat.mul_eq_zero.1 h with h | h
      · exact hm h
      · exact absurd h (Nat.ne_of_gt (Nat.two_pow_pos a))), ih]
    omega

theorem cut_scale (s : Bool) {n : Nat} (hn : n ≠ 0) (d c : Nat) : Toward.even.cut s (n * 2 ^ c) (d + c) = Toward.even.cut s n d := by
  unfold Toward.cut
  simp only [Nat.one_shiftLeft]
  rw [log2_mul_pow hn]
  have hg : 2 ^ min (d + c) (n.log2 + c + 2) = 2 ^ min d (n.log2 + 2) * 2 ^ c := by
    rw [← Nat.pow_add]
    congr 1
    omega
  rw [hg]
  have hc : 0 < 2 ^ c := Nat.two_pow_pos c
  generalize 2 ^ min d (n.log2 + 2) = g
  rw [Nat.mul_div_mul_right _ _ hc, Nat.mul_mod_mul_right]
  generalize n % g = r
  generalize 2 ^ c = e at *
  have h1 : (g * e < 2 * (r * e)) ↔ (g < 2 * r) := by
    rw [← Nat.mul_assoc]
    exact Nat.mul_lt_mul_right hc
  have h2 : (g * e = 2 * (r * e)) ↔ (g = 2 * r) := by
    rw [← Nat.mul_assoc]
    exact Nat.mul_left_inj (Nat.ne_of_gt hc)
  have hb : (g * e == 2 * (r * e)) = (g == 2 * r) := by rw [Bool.eq_iff_iff]; simp [h2]
  simp [h1, hb]

/-! ### rounding -/

theorem nearest_zero (s : Bool) (p : Int) : D.nearest s 0 p = D.word s 0 := by simp [Format.nearest]

theorem nearest_scale (s : Bool) (m a : Nat) (p : Int) : D.nearest s (m * 2 ^ a) p = D.nearest s m (p + a) := by
  by_cases hm : m = 0
  · subst hm; simp [Format.nearest]
  · have hm' : m * 2 ^ a ≠ 0 := fun h => by
      rcases Nat.mul_eq_zero.1 h with h | h
      · exact hm h
      · exact absurd h (Nat.ne_of_gt (Nat.two_pow_pos a))
    unfold Format.nearest
    rw [if_neg hm, if_neg hm', log2_mul_pow hm, D_least, D_frac]
    have hl : max (p + ((m.log2 + a : Nat) : Int) - ((52 : Nat) : Int)) (-1074) = max (p + (a : Int) + (m.log2 : Int) - ((52 : Nat) : Int)) (-1074) := by
      congr 1
      omega
    rw [hl]
    generalize max (p + (a : Int) + (m.log2 : Int) - ((52 : Nat) : Int)) (-1074) = last
    dsimp only
    congr 2
    congr 1
    rw [Nat.shiftLeft_eq, Nat.shiftLeft_eq]
    by_cases h0 : last - p ≤ 0
    · have e1 : (last - p).toNat = 0 := by omega
      have e2 : (last - (p + a)).toNat = 0 := by omega
      rw [e1, e2, cut_zero, cut_zero, Nat.mul_assoc, ← Nat.pow_add]
      congr 2
      omega
    · by_cases h1 : last - p ≤ a
      · have e2 : (last - (p + a)).toNat = 0 := by omega
        have e3 : (p - last).toNat = 0 := by omega
        rw [e2, e3, cut_zero, Nat.pow_zero, Nat.mul_one]
        have : m * 2 ^ a = (m * 2 ^ (p + a - last).toNat) * 2 ^ (last - p).toNat := by
          rw [Nat.mul_assoc, ← Nat.pow_add]
          congr 2
          omega
        rw [this]
        have hne : m * 2 ^ (p + a - last).toNat ≠ 0 := fun h => by
          rcases Nat.mul_eq_zero.1 h with h | h
          · exact hm h
          · exact absurd h (Nat.ne_of_gt (Nat.two_pow_pos _))
        have := cut_scale s hne 0 (last - p).toNat
        rw [Nat.zero_add, cut_zero] at this
        exact this
      · have e3 : (p - last).toNat = 0 := by omega
        have e4 : (p + a - last).toNat = 0 := by omega
        rw [e3, e4, Nat.pow_zero, Nat.mul_one, Nat.mul_one]
        have := cut_scale s hm (last - (p + a)).toNat a
        rw [← this]
        congr 1
        omega

/-- The rung of a number below 2 ^ b units. -/
theorem nearest_bound (s : Bool) (m b : Nat) (p : Int) (K : Nat) (hm : m < 2 ^ b) (hK : p + b ≤ K) (hK2 : K ≤ 1000) : ∃ r, D.nearest s m p = D.word s r ∧ r ≤ (K + 1023) * 2 ^ 52 := by
  by_cases h0 : m = 0
  · subst h0
    exact ⟨0, nearest_zero s p, Nat.zero_le _⟩
  · unfold Format.nearest
    rw [if_neg h0, D_least, D_frac, D_binade, D_inf]
    have hlog : m.log2 < b := (Nat.log2_lt h0).2 hm
    have hself : m < 2 ^ (m.log2 + 1) := Nat.lt_log2_self
    generalize hlast : max (p + (m.log2 : Int) - ((52 : Nat) : Int)) (-1074) = last
    refine ⟨_, rfl, Nat.le_trans (Nat.min_le_left _ _) ?_⟩
    rw [Nat.shiftLeft_eq]
    have hkept : ∀ N e : Nat, (m.log2 : Int) + 1 + p - last ≤ e → N = 2 ^ e → Toward.even.cut s (m * 2 ^ (p - last).toNat) (last - p).toNat ≤ N := by
      intro N e he hN
      apply cut_le
      rw [hN, ← Nat.pow_add]
      refine Nat.le_trans (Nat.mul_le_mul_right _ (Nat.le_of_lt hself)) ?_
      rw [← Nat.pow_add]
      exact Nat.pow_le_pow_right (by decide) (by omega)
    by_cases hc : -1074 ≤ p + (m.log2 : Int) - 52
    · have hl : last = p + (m.log2 : Int) - 52 := by omega
      have hk := hkept (2 ^ 53) 53 (by omega) rfl
      have h1 : (last - (-1074)).toNat + 2 ≤ K + 1023 := by omega
      have h2 : ((last - (-1074)).toNat + 2) * 2 ^ 52 ≤ (K + 1023) * 2 ^ 52 := Nat.mul_le_mul_right _ h1
      have h3 : ((last - (-1074)).toNat + 2) * 2 ^ 52 = (last - (-1074)).toNat * 2 ^ 52 + 2 ^ 53 := by rw [Nat.add_mul]
      rw [h3] at h2
      exact Nat.le_trans (Nat.add_le_add_left hk _) h2
    · have hl : last = -1074 := by omega
      have hk := hkept (2 ^ 52) 52 (by omega) rfl
      rw [hl] at hk ⊢
      have h2 : 1 * 2 ^ 52 ≤ (K + 1023) * 2 ^ 52 := Nat.mul_le_mul_right _ (by omega)
      simp only [Int.sub_self, Int.toNat_zero, Nat.zero_mul, Nat.zero_add]
      rw [Nat.one_mul] at h2
      exact Nat.le_trans hk h2

/-! ### words -/

def mg (r : Nat) : Nat := if r < 2 ^ 52 then r else 2 ^ 52 + r % 2 ^ 52
def pl (r : Nat) : Int := if r < 2 ^ 52 then -1074 else -1074 + ((r / 2 ^ 52 - 1 : Nat) : Int)

theorem mg_lt (r : Nat) : mg r < 2 ^ 53 := by
  unfold mg
  have := Nat.mod_lt r (Nat.two_pow_pos 52)
  split <;> omega

theorem mg_zero : mg 0 = 0 := rfl

theorem mg_ne {r : Nat} (h : r ≠ 0) : mg r ≠ 0 := by
  unfold mg
  split <;> omega

theorem pl_le {r K : Nat} (h : r ≤ (K + 1023) * 2 ^ 52) : pl r + 53 ≤ K + 1 := by
  unfold pl
  split
  · omega
  · have : r / 2 ^ 52 ≤ K + 1023 := Nat.div_le_of_le_mul (by rw [Nat.mul_comm]; exact h)
    omega

theorem read_word (s : Bool) {r : Nat} (hr : r < 2047 * 2 ^ 52) : D.read (D.word s r) = .number s (mg r) (pl r) := by
  have h63 : r < 2 ^ 63 := Nat.lt_trans hr (by decide)
  have h1 : D.word s r / 2 ^ 63 % 2 = s.toNat := by
    unfold Format.word
    rw [D_sign]
    cases s
    · simp [Nat.div_eq_of_lt h63]
    · simp only [if_true]
      rw [Nat.add_div_left _ (Nat.two_pow_pos 63), Nat.div_eq_of_lt h63]
      rfl
  have h2 : D.word s r % 2 ^ 63 = r := by
    unfold Format.word
    rw [D_sign]
    cases s
    · simp [Nat.mod_eq_of_lt h63]
    · simp only [if_true]
      rw [Nat.add_mod_left, Nat.mod_eq_of_lt h63]
  unfold Format.read
  rw [D_sign, D_binade, D_inf, D_least, h1, h2]
  dsimp only
  have hs : (s.toNat == 1) = s := by cases s <;> rfl
  rw [hs]
  unfold mg pl
  by_cases h : r < 2 ^ 52
  · rw [if_pos h, if_pos h, if_pos h]
  · rw [if_neg h, if_neg h, if_neg h, if_pos hr]

theorem log2_eq {n k : Nat} (h1 : 2 ^ k ≤ n) (h2 : n < 2 ^ (k + 1)) : n.log2 = k := by
  have h0 : n ≠ 0 := by
    have := Nat.two_pow_pos k
    omega
  have a : k ≤ n.log2 := (Nat.le_log2 h0).2 h1
  have b : n.log2 < k + 1 := (Nat.log2_lt h0).2 h2
  omega

/-- A word's own number gives the word back. -/
theorem nearest_self (s : Bool) {r : Nat} (hr : r < 2047 * 2 ^ 52) : D.nearest s (mg r) (pl r) = D.word s r := by
  by_cases h0 : r = 0
  · subst h0; exact nearest_zero s _
  · unfold Format.nearest
    rw [if_neg (mg_ne h0), D_least, D_frac, D_binade, D_inf]
    by_cases h : r < 2 ^ 52
    · have e1 : mg r = r := if_pos h
      have e2 : pl r = -1074 := if_pos h
      rw [e1, e2]
      have hl : r.log2 < 52 := (Nat.log2_lt h0).2 h
      have hm : max (-1074 + (r.log2 : Int) - ((52 : Nat) : Int)) (-1074) = -1074 := by omega
      rw [hm]
      simp only [Int.sub_self, Int.toNat_zero, Nat.shiftLeft_zero, cut_zero, Nat.zero_mul, Nat.zero_add]
      rw [Nat.min_eq_left (Nat.le_of_lt hr)]
    · have e1 : mg r = 2 ^ 52 + r % 2 ^ 52 := if_neg h
      have e2 : pl r = -1074 + ((r / 2 ^ 52 - 1 : Nat) : Int) := if_neg h
      have hlt := Nat.mod_lt r (Nat.two_pow_pos 52)
      have hl : (mg r).log2 = 52 := log2_eq (by rw [e1]; exact Nat.le_add_right _ _) (mg_lt r)
      have hm : max (pl r + ((mg r).log2 : Int) - ((52 : Nat) : Int)) (-1074) = pl r := by rw [hl]; omega
      rw [hm]
      simp only [Int.sub_self, Int.toNat_zero, Nat.shiftLeft_zero, cut_zero]
      have hp : (pl r - -1074).toNat = r / 2 ^ 52 - 1 := by omega
      have hd : 1 ≤ r / 2 ^ 52 := (Nat.le_div_iff_mul_le (Nat.two_pow_pos 52)).2 (by omega)
      have hsum : (r / 2 ^ 52 - 1) * 2 ^ 52 + (2 ^ 52 + r % 2 ^ 52) = r := by
        have h3 := Nat.div_add_mod r (2 ^ 52)
        have h4 : (r / 2 ^ 52 - 1) * 2 ^ 52 + 2 ^ 52 = 2 ^ 52 * (r / 2 ^ 52) := by
          have : (r / 2 ^ 52 - 1 + 1) * 2 ^ 52 = (r / 2 ^ 52) * 2 ^ 52 := by rw [Nat.sub_add_cancel hd]
          rw [Nat.add_mul, Nat.one_mul] at this
          rw [this, Nat.mul_comm]
        rw [← Nat.add_assoc, h4]
        exact h3
      rw [hp, e1, hsum, Nat.min_eq_left (Nat.le_of_lt hr)]

/-- A word of at most 2 ^ K. -/
def Fb (x K : Nat) : Prop := ∃ s r, x = D.word s r ∧ r ≤ (K + 1023) * 2 ^ 52

theorem rung_lt {r K : Nat} (h : r ≤ (K + 1023) * 2 ^ 52) (hK : K ≤ 1000) : r < 2047 * 2 ^ 52 :=
  Nat.lt_of_le_of_lt (Nat.le_trans h (Nat.mul_le_mul_right _ (show K + 1023 ≤ 2023 by omega))) (by decide)

theorem Fb.mono {x K L : Nat} (h : Fb x K) (hKL : K ≤ L) : Fb x L := by
  obtain ⟨s, r, e, hr⟩ := h
  exact ⟨s, r, e, Nat.le_trans hr (Nat.mul_le_mul_right _ (by omega))⟩

theorem Fb.read {x K : Nat} (h : Fb x K) (hK : K ≤ 1000) : ∃ s m p, D.read x = .number s m p ∧ m < 2 ^ 53 ∧ p + 53 ≤ K + 1 := by
  obtain ⟨s, r, rfl, hr⟩ := h
  exact ⟨s, mg r, pl r, read_word s (rung_lt hr hK), mg_lt r, pl_le hr⟩

theorem write_fb (s : Bool) (m b : Nat) (p : Int) (K : Nat) (hm : m < 2 ^ b) (hK : p + b ≤ K) (hK2 : K ≤ 1000) : Fb (D.write (.number s m p)) K := by
  obtain ⟨r, e, hr⟩ := nearest_bound s m b p K hm hK hK2
  exact ⟨s, r, e, hr⟩

theorem mul_fb {x y K L : Nat} (hx : Fb x K) (hy : Fb y L) (h : K + L + 2 ≤ 1000) : ∃ z, D.mul x y = some z ∧ Fb z (K + L + 2) := by
  obtain ⟨s, m, i, e1, hm, hi⟩ := hx.read (by omega)
  obtain ⟨t, n, j, e2, hn, hj⟩ := hy.read (by omega)
  refine ⟨D.write (.number (s ^^ t) (m * n) (i + j)), by simp only [Format.mul, e1, e2, Datum.product, Option.map_some], write_fb _ _ 106 _ _ ?_ (by omega) h⟩
  exact Nat.lt_of_lt_of_le (Nat.mul_lt_mul'' hm hn) (by decide)

theorem natAbs_signed (s : Bool) (m a : Nat) : (signed s m a).natAbs = m * 2 ^ a := by
  cases s
  · show (((m <<< a : Nat) : Int)).natAbs = m * 2 ^ a
    rw [Int.natAbs_natCast, Nat.shiftLeft_eq]
  · show (-((m <<< a : Nat) : Int)).natAbs = m * 2 ^ a
    rw [Int.natAbs_neg, Int.natAbs_natCast, Nat.shiftLeft_eq]

theorem sum_fb (s t : Bool) (m n : Nat) (i j : Int) (K : Nat) (hm : m < 2 ^ 53) (hn : n < 2 ^ 53) (hi : i + 53 ≤ K + 1) (hj : j + 53 ≤ K + 1) (h : K + 2 ≤ 1000) :
    ∃ d, (Datum.number s m i).sum (.number t n j) = some d ∧ Fb (D.write d) (K + 2) := by
  refine ⟨_, rfl, ?_⟩
  generalize hb : min i j = base
  obtain ⟨a, ha⟩ : ∃ a : Nat, a = max (i - base).toNat (j - base).toNat := ⟨_, rfl⟩
  refine write_fb _ _ (54 + a) _ _ ?_ (by omega) h
  refine Nat.lt_of_le_of_lt (Int.natAbs_add_le _ _) ?_
  rw [natAbs_signed, natAbs_signed]
  have h1 : m * 2 ^ (i - base).toNat < 2 ^ (53 + a) := by
    rw [Nat.pow_add]
    exact Nat.lt_of_lt_of_le (Nat.mul_lt_mul_of_pos_right hm (Nat.two_pow_pos _)) (Nat.mul_le_mul_left _ (Nat.pow_le_pow_right (by decide) (by omega)))
  have h2 : n * 2 ^ (j - base).toNat < 2 ^ (53 + a) := by
    rw [Nat.pow_add]
    exact Nat.lt_of_lt_of_le (Nat.mul_lt_mul_of_pos_right hn (Nat.two_pow_pos _)) (Nat.mul_le_mul_left _ (Nat.pow_le_pow_right (by decide) (by omega)))
  have h3 : 2 ^ (54 + a) = 2 ^ (53 + a) + 2 ^ (53 + a) := by
    rw [show 54 + a = (53 + a) + 1 by omega, Nat.pow_succ]
    omega
  omega

theorem add_fb {x y K : Nat} (hx : Fb x K) (hy : Fb y K) (h : K + 2 ≤ 1000) : ∃ z, D.add x y = some z ∧ Fb z (K + 2) := by
  obtain ⟨s, m, i, e1, hm, hi⟩ := hx.read (by omega)
  obtain ⟨t, n, j, e2, hn, hj⟩ := hy.read (by omega)
  obtain ⟨d, hd, hf⟩ := sum_fb s t m n i j K hm hn hi hj h
  exact ⟨_, by simp only [Format.add, e1, e2, hd, Option.map_some], hf⟩

theorem sub_fb {x y K : Nat} (hx : Fb x K) (hy : Fb y K) (h : K + 2 ≤ 1000) : ∃ z, D.sub x y = some z ∧ Fb z (K + 2) := by
  obtain ⟨s, m, i, e1, hm, hi⟩ := hx.read (by omega)
  obtain ⟨t, n, j, e2, hn, hj⟩ := hy.read (by omega)
  obtain ⟨d, hd, hf⟩ := sum_fb s (!t) m n i j K hm hn hi hj h
  exact ⟨_, by simp only [Format.sub, e1, e2, Datum.opposite, hd, Option.map_some], hf⟩

/-! ### what is exact -/

theorem mul_zero (s t : Bool) {r : Nat} (hr : r < 2047 * 2 ^ 52) : D.mul (D.word s r) (D.word t 0) = some (D.word (s ^^ t) 0) := by
  simp only [Format.mul, read_word s hr, read_word t (show 0 < 2047 * 2 ^ 52 by decide), Datum.product, Option.map_some, mg_zero, Nat.mul_zero, Format.write, nearest_zero]

theorem zero_mul (s t : Bool) {r : Nat} (hr : r < 2047 * 2 ^ 52) : D.mul (D.word t 0) (D.word s r) = some (D.word (t ^^ s) 0) := by
  simp only [Format.mul, read_word s hr, read_word t (show 0 < 2047 * 2 ^ 52 by decide), Datum.product, Option.map_some, mg_zero, Nat.zero_mul, Format.write, nearest_zero]

theorem add_zero_zero (s t : Bool) : D.add (D.word s 0) (D.word t 0) = some (D.word (s && t) 0) := by
  cases s <;> cases t <;> decide

/-- The power of two 2 ^ e, e + 1023 being E. -/
theorem mg_pow {E : Nat} (h : 1 ≤ E) : mg (E * 2 ^ 52) = 2 ^ 52 := by
  unfold mg
  rw [if_neg (by have := Nat.mul_le_mul_right (2 ^ 52) h; omega), Nat.mul_mod_left]
theorem pl_pow {E : Nat} (h : 1 ≤ E) : pl (E * 2 ^ 52) = -1074 + ((E - 1 : Nat) : Int) := by
  unfold pl
  rw [if_neg (by have := Nat.mul_le_mul_right (2 ^ 52) h; omega), Nat.mul_div_left _ (Nat.two_pow_pos 52)]

/-- A word, scaled by 2 ^ e. -/
def scaled (s : Bool) (r : Nat) (e : Int) : Nat := D.nearest s (mg r) (pl r + e)

theorem scaled_zero (s : Bool) {r : Nat} (hr : r < 2047 * 2 ^ 52) : scaled s r 0 = D.word s r := by
  unfold scaled
  rw [Int.add_zero, nearest_self s hr]

theorem mul_pow (s t : Bool) {r E : Nat} (hr : r < 2047 * 2 ^ 52) (h1 : 1 ≤ E) (h2 : E ≤ 2046) : D.mul (D.word s r) (D.word t (E * 2 ^ 52)) = some (scaled (s ^^ t) r ((E : Int) - 1023)) := by
  have hE : E * 2 ^ 52 < 2047 * 2 ^ 52 := Nat.mul_lt_mul_of_pos_right (by omega) (Nat.two_pow_pos 52)
  simp only [Format.mul, read_word s hr, read_word t hE, Datum.product, Option.map_some, mg_pow h1, pl_pow h1, Format.write]
  rw [nearest_scale]
  unfold scaled
  congr 2
  omega

theorem pow_mul (s t : Bool) {r E : Nat} (hr : r < 2047 * 2 ^ 52) (h1 : 1 ≤ E) (h2 : E ≤ 2046) : D.mul (D.word t (E * 2 ^ 52)) (D.word s r) = some (scaled (t ^^ s) r ((E : Int) - 1023)) := by
  have hE : E * 2 ^ 52 < 2047 * 2 ^ 52 := Nat.mul_lt_mul_of_pos_right (by omega) (Nat.two_pow_pos 52)
  simp only [Format.mul, read_word s hr, read_word t hE, Datum.product, Option.map_some, mg_pow h1, pl_pow h1, Format.write]
  rw [Nat.mul_comm, nearest_scale]
  unfold scaled
  congr 2
  omega

theorem quot_gen (s : Bool) (m q dg : Nat) (i j : Int) (hm : m.log2 ≤ dg) : ∃ d, (Datum.number s m i).quotient dg (.number false (2 ^ q) j) = some d ∧ D.write d = D.nearest s m (i - j - q) := by
  have hlog : (2 ^ q : Nat).log2 = q := Nat.log2_two_pow
  have hp := Nat.two_pow_pos q
  have hne : (2 ^ q : Nat) ≠ 0 := Nat.ne_of_gt hp
  obtain ⟨c, hc⟩ : ∃ c, dg + q - m.log2 = c + q := ⟨dg - m.log2, by omega⟩
  have hdiv : m * 2 ^ (c + q) = (m * 2 ^ c) * 2 ^ q := by rw [Nat.pow_add, Nat.mul_assoc]
  refine ⟨.number (s ^^ false) (2 * (m <<< (dg + (2 ^ q).log2 - m.log2) / 2 ^ q) + (m <<< (dg + (2 ^ q).log2 - m.log2) % 2 ^ q != 0).toNat) (i - j - ((dg + (2 ^ q).log2 - m.log2 : Nat) : Int) - 1), by simp only [Datum.quotient, if_neg hne], ?_⟩
  rw [hlog, hc, Nat.shiftLeft_eq, hdiv, Nat.mul_div_left _ hp, Nat.mul_mod_left]
  have hm : 2 * (m * 2 ^ c) + (0 != 0).toNat = m * 2 ^ (c + 1) := by
    rw [Nat.pow_succ, show ((0 : Nat) != 0).toNat = 0 from rfl, Nat.add_zero, Nat.mul_comm 2, Nat.mul_assoc]
  rw [hm]
  simp only [Format.write, Bool.xor_false]
  rw [nearest_scale]
  congr 1
  omega

theorem quot_pow (s : Bool) (m : Nat) (i j : Int) (hm : m < 2 ^ 53) : ∃ d, (Datum.number s m i).quotient 54 (.number false (2 ^ 52) j) = some d ∧ D.write d = D.nearest s m (i - j - 52) := by
  have hml : m.log2 ≤ 54 := by
    by_cases h0 : m = 0
    · rw [h0]; decide
    · have := (Nat.log2_lt h0).2 hm
      omega
  exact quot_gen s m 52 54 i j hml

theorem div_pow (s : Bool) {r E : Nat} (hr : r < 2047 * 2 ^ 52) (h1 : 1 ≤ E) (h2 : E ≤ 2046) : D.div (D.word s r) (D.word false (E * 2 ^ 52)) = some (scaled s r (1023 - (E : Int))) := by
  have hE : E * 2 ^ 52 < 2047 * 2 ^ 52 := Nat.mul_lt_mul_of_pos_right (by omega) (Nat.two_pow_pos 52)
  obtain ⟨d, e1, e2⟩ := quot_pow s (mg r) (pl r) (-1074 + ((E - 1 : Nat) : Int)) (mg_lt r)
  have hq : D.div (D.word s r) (D.word false (E * 2 ^ 52)) = ((D.read (D.word s r)).quotient 54 (D.read (D.word false (E * 2 ^ 52)))).map D.write := rfl
  rw [hq, read_word s hr, read_word false hE, mg_pow h1, pl_pow h1, e1, Option.map_some, e2]
  unfold scaled
  congr 2
  omega

theorem sub_self (s : Bool) {r : Nat} (hr : r < 2047 * 2 ^ 52) : D.sub (D.word s r) (D.word s r) = some (D.word false 0) := by
  simp only [Format.sub, read_word s hr, Datum.opposite, Datum.sum, Int.min_self, Int.sub_self, Int.toNat_zero, Option.map_some]
  have h : signed s (mg r) 0 + signed (!s) (mg r) 0 = 0 := by
    unfold signed
    cases s <;> simp <;> omega
  rw [h]
  cases s <;> simp [Format.write, nearest_zero]

theorem sum_zero_right (s t : Bool) {r : Nat} (hr : r < 2047 * 2 ^ 52) (h0 : r ≠ 0) : ((Datum.number s (mg r) (pl r)).sum (.number t 0 (pl 0))).map D.write = some (D.word s r) := by
  have hp : pl 0 = -1074 := rfl
  have hle : -1074 ≤ pl r := by
    unfold pl
    split <;> omega
  have hmin : min (pl r) (pl 0) = pl 0 := by omega
  simp only [Datum.sum, Option.map_some, hmin]
  have hz : signed t 0 (pl 0 - pl 0).toNat = 0 := by
    unfold signed
    simp
  rw [hz, Int.add_zero]
  have hab := natAbs_signed s (mg r) (pl r - pl 0).toNat
  have hm : mg r * 2 ^ (pl r - pl 0).toNat ≠ 0 := fun h => by
    rcases Nat.mul_eq_zero.1 h with h | h
    · exact mg_ne h0 h
    · exact absurd h (Nat.ne_of_gt (Nat.two_pow_pos _))
  have hne : signed s (mg r) (pl r - pl 0).toNat ≠ 0 := fun h => by rw [h] at hab; exact hm hab.symm
  rw [if_neg hne, hab]
  have hs : decide (signed s (mg r) (pl r - pl 0).toNat < 0) = s := by
    cases s
    · show decide (((mg r <<< (pl r - pl 0).toNat : Nat) : Int) < 0) = false
      exact decide_eq_false (Int.not_lt.2 (Int.natCast_nonneg _))
    · show decide (-((mg r <<< (pl r - pl 0).toNat : Nat) : Int) < 0) = true
      have hx : mg r <<< (pl r - pl 0).toNat ≠ 0 := by rw [Nat.shiftLeft_eq]; exact hm
      generalize mg r <<< (pl r - pl 0).toNat = x at hx
      exact decide_eq_true (by omega)
  rw [hs]
  simp only [Format.write]
  rw [nearest_scale, show pl 0 + ((pl r - pl 0).toNat : Int) = pl r by omega, nearest_self s hr]

theorem add_zero (s t : Bool) {r : Nat} (hr : r < 2047 * 2 ^ 52) (h0 : r ≠ 0) : D.add (D.word s r) (D.word t 0) = some (D.word s r) := by
  simp only [Format.add, read_word s hr, read_word t (show 0 < 2047 * 2 ^ 52 by decide), mg_zero]
  exact sum_zero_right s t hr h0

theorem sub_zero (s t : Bool) {r : Nat} (hr : r < 2047 * 2 ^ 52) (h0 : r ≠ 0) : D.sub (D.word s r) (D.word t 0) = some (D.word s r) := by
  simp only [Format.sub, read_word s hr, read_word t (show 0 < 2047 * 2 ^ 52 by decide), mg_zero, Datum.opposite]
  exact sum_zero_right s (!t) hr h0

theorem sum_comm (s t : Bool) (m n : Nat) (i j : Int) : (Datum.number s m i).sum (.number t n j) = (Datum.number t n j).sum (.number s m i) := by
  simp only [Datum.sum]
  rw [Int.min_comm, Int.add_comm, Bool.and_comm]

theorem zero_add (s t : Bool) {r : Nat} (hr : r < 2047 * 2 ^ 52) (h0 : r ≠ 0) : D.add (D.word t 0) (D.word s r) = some (D.word s r) := by
  simp only [Format.add, read_word s hr, read_word t (show 0 < 2047 * 2 ^ 52 by decide), mg_zero]
  rw [sum_comm]
  exact sum_zero_right s t hr h0

end Go.Proofs.YbulkdcwkDoor
