/-
  OWN WORK. Rows of integers by an index function; the law's own 'entry'; the matrix in memory; 'get'.
-/
import Derived.Test.YbulkdcyaRows
import Derived.WalkKit
import Derived.WalkSpells
import Derived.Deep.LoopGhost
import Derived.Deep.QuietTactic
import Derived.BigQuiet
import Derived.WalkSmall
namespace Go.Proofs.Ybulkdcya
open Go.RowKit

theorem hid_of {p : Prop} (h : p) : Hid p := h

/-- Block b is a row of N (or more) integers of the kind k, the i-th being f i. -/
def RowI (w : World) (b : Nat) (t : TypeId) (k : IntKind) (N : Nat) (f : Nat → Int) : Prop :=
  ∃ cur : Array Value, w.heap[b]? = some (.cells cur t (0, 0)) ∧ N ≤ cur.size ∧ ∀ i, i < N → cur[i]? = some (.int k (f i))

section
variable {w w' : World} {b : Nat} {t : TypeId} {k : IntKind} {N : Nat} {f g : Nat → Int}

theorem RowI.lt (h : RowI w b t k N f) : b < w.heap.size := by
  obtain ⟨cur, hb, _⟩ := h
  exact (Array.getElem?_eq_some_iff.1 hb).1

theorem RowI.cell (h : RowI w b t k N f) {i : Nat} (hi : i < N) : w.cell? ⟨b, i, none⟩ = some (.int k (f i)) := by
  obtain ⟨cur, hb, _, hc⟩ := h
  rw [cell_of_row w b i cur t (0, 0) hb]
  exact hc i hi

theorem RowI.frozen (h : RowI w b t k N f) (i : Nat) : w.frozen? ⟨b, i, none⟩ = false := by
  obtain ⟨cur, hb, _, hc⟩ := h
  simp only [World.frozen?, hb]
  simp

theorem RowI.kept (h : RowI w b t k N f) (e : w'.heap[b]? = w.heap[b]?) : RowI w' b t k N f := by
  obtain ⟨cur, hb, hs, hc⟩ := h
  exact ⟨cur, e.trans hb, hs, hc⟩

theorem RowI.congr (h : RowI w b t k N f) (e : ∀ i, i < N → f i = g i) : RowI w b t k N g := by
  obtain ⟨cur, hb, hs, hc⟩ := h
  exact ⟨cur, hb, hs, fun i hi => by rw [hc i hi, e i hi]⟩

theorem RowI.set (h : RowI w b t k N f) (i : Nat) (v : Int) : RowI (w.setCell ⟨b, i, none⟩ (.int k v)) b t k N (fun j => if j = i then v else f j) := by
  obtain ⟨cur, hb, hs, hc⟩ := h
  refine ⟨cur.setIfInBounds i (.int k v), ?_, by simpa using hs, fun j hj => ?_⟩
  · have hlt := (Array.getElem?_eq_some_iff.1 hb).1
    have hv := (Array.getElem?_eq_some_iff.1 hb).2
    simp only [World.setCell]
    rw [Array.getElem?_eq_getElem (by simpa using hlt), Array.getElem_modify]
    simp [hv]
  · by_cases e : j = i
    · subst e
      have : j < cur.size := by omega
      simp [this]
    · have e' : ¬ i = j := fun h => e h.symm
      rw [Array.getElem?_setIfInBounds]
      simp only [e', e, if_false]
      exact hc j hj
end

/-! ### the law's entries -/

/-- 'zzs5213centry'. -/
def ent (len : Nat) (z : Nat → Int) (k : Nat) : Int := if len = 0 then 0 else z (k % len)

set_option maxHeartbeats 400000 in
theorem entry_zero (ao : Option Addr) (cap k : Nat) (z : Nat → Int) (w : World) : Calls Yba.prog 5 #[.slice ao 0 cap, .int .i64 k] w fun e w' => e = .returned (.int .i64 (ent 0 z k)) ∧ w' = w := by
  go_enter Yba.func5, Yba.ntmps5
  go_wp2
  go_ret
  exact ⟨rfl, rfl⟩

set_option maxHeartbeats 400000 in
theorem entry_pos (b off len cap k : Nat) (z : Nat → Int) (w : World) (hlen : 0 < len) (hl : len ≤ 4096) (hk : k ≤ 100000) (hc : ∀ i, i < len → w.cell? ⟨b, off + i, none⟩ = some (.int .u16 (z i))) (hz : ∀ i, i < len → 0 ≤ z i ∧ z i ≤ 65535) :
    Calls Yba.prog 5 #[.slice (some ⟨b, off, none⟩) len cap, .int .i64 k] w fun e w' => e = .returned (.int .i64 (ent len z k)) ∧ w' = w := by
  have hm : k % len < len := Nat.mod_lt _ hlen
  have h0 := hc (k % len) hm
  obtain ⟨h1, h2⟩ := hz (k % len) hm
  have hne : ((len : Int) == 0) = false := beq_eq_false_iff_ne.2 (by omega)
  clear hc hz
  go_enter Yba.func5, Yba.ntmps5
  go_wp2
  go_ret
  have he : ent len z k = z (k % len) := by unfold ent; rw [if_neg (by omega)]
  rw [he]
  exact ⟨rfl, rfl⟩

/-! ### the matrix -/

/-- The matrix at block mb: n, the bytes at block lb, the entries e (at most 65535); 'whole' is the value in its third field. -/
structure Kn0 (w : World) (B mb n lb : Nat) (e : Nat → Int) : Prop where
  c0 : w.cell? ⟨mb, 0, none⟩ = some (.int .i64 n)
  c1 : w.cell? ⟨mb, 1, none⟩ = some (.slice (some ⟨lb, 0, none⟩) (n * n) (n * n))
  f2 : w.frozen? ⟨mb, 2, none⟩ = false
  low : RowI w lb 5 .u8 (n * n) (fun i => min (e i) 127)
  rng : ∀ i, 0 ≤ e i ∧ e i ≤ 65535
  ne : lb ≠ mb
  hn : n ≤ 40
  Bm : B ≤ mb
  Bl : B ≤ lb

structure KnL (w : World) (B mb n lb : Nat) (e : Nat → Int) : Prop extends Kn0 w B mb n lb e where
  c2 : w.cell? ⟨mb, 2, none⟩ = some (.slice none 0 0)
  small : ∀ i, i < n * n → e i ≤ 127

structure KnW (w : World) (B mb n lb wb : Nat) (e : Nat → Int) : Prop extends Kn0 w B mb n lb e where
  c2 : w.cell? ⟨mb, 2, none⟩ = some (.slice (some ⟨wb, 0, none⟩) (n * n) (n * n))
  pos : 0 < n * n
  whole : RowI w wb 3 .i64 (n * n) e
  new : wb ≠ mb
  nel : wb ≠ lb
  Bw : B ≤ wb

def Kn (w : World) (B mb n lb : Nat) (e : Nat → Int) : Prop := KnL w B mb n lb e ∨ ∃ wb, KnW w B mb n lb wb e

theorem sq_le {n : Nat} (h : n ≤ 40) : n * n ≤ 1600 := by
  have := Nat.mul_le_mul h h
  omega

set_option maxHeartbeats 400000 in
theorem get_L (B mb n lb k : Nat) (e : Nat → Int) (w : World) (h : KnL w B mb n lb e) (hk : k < n * n) :
    Calls Yba.prog 12 #[.pointer (some ⟨mb, 0, none⟩), .int .i64 k] w fun r w' => r = .returned (.int .i64 (e k)) ∧ w' = w := by
  have c1 := h.c1
  have c2 := h.c2
  have g := h.low.cell hk
  have hs := h.small k hk
  have hr := (h.rng k).1
  have hN := sq_le h.hn
  have em : min (e k) 127 = e k := by omega
  rw [em] at g
  clear h em
  generalize n * n = N at *
  go_enter Yba.func12, Yba.ntmps12
  go_wp2
  go_ret
  exact ⟨rfl, rfl⟩

set_option maxHeartbeats 400000 in
theorem get_W (B mb n lb wb k : Nat) (e : Nat → Int) (w : World) (h : KnW w B mb n lb wb e) (hk : k < n * n) :
    Calls Yba.prog 12 #[.pointer (some ⟨mb, 0, none⟩), .int .i64 k] w fun r w' => r = .returned (.int .i64 (e k)) ∧ w' = w := by
  have c2 := h.c2
  have g := h.whole.cell hk
  have hp := h.pos
  have hN := sq_le h.hn
  clear h
  generalize n * n = N at *
  go_enter Yba.func12, Yba.ntmps12
  go_wp2
  go_ret
  exact ⟨rfl, rfl⟩

theorem get_any (B mb n lb k : Nat) (e : Nat → Int) (w : World) (h : Kn w B mb n lb e) (hk : k < n * n) :
    Calls Yba.prog 12 #[.pointer (some ⟨mb, 0, none⟩), .int .i64 k] w fun r w' => r = .returned (.int .i64 (e k)) ∧ w' = w := by
  rcases h with h | ⟨wb, h⟩
  · exact get_L B mb n lb k e w h hk
  · exact get_W B mb n lb wb k e w h hk

end Go.Proofs.Ybulkdcya
