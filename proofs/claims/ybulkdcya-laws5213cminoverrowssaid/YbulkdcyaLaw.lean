/-
  OWN WORK. The parts of the law's own walk.
-/
import Derived.Test.YbulkdcyaHeld
import Derived.Laws.CopyOwn
namespace Go.Proofs.Ybulkdcya
open Go.RowKit

/-! ### the numbers that came in -/

def Src (w : World) (ao : Option Addr) (len : Nat) (z : Nat → Int) : Prop :=
  len = 0 ∨ ∃ b off, ao = some ⟨b, off, none⟩ ∧ 0 < len ∧ b < w.heap.size ∧ ∀ i, i < len → w.cell? ⟨b, off + i, none⟩ = some (.int .u16 (z i)) ∧ 0 ≤ z i ∧ z i ≤ 65535

theorem Src.kept {w W : World} {ao : Option Addr} {len B : Nat} {z : Nat → Int} (h : Src w ao len z) (hB : B = w.heap.size) (k : Below B w W) : Src W ao len z := by
  subst hB
  rcases h with h | ⟨b, off, h1, h2, h3, h4⟩
  · exact .inl h
  · exact .inr ⟨b, off, h1, h2, Nat.lt_of_lt_of_le h3 k.size, fun i hi => ⟨(World.cell?_of_block (a := ⟨b, off + i, none⟩) (k.block b h3)).trans (h4 i hi).1, (h4 i hi).2⟩⟩

theorem ent_rng {w : World} {ao : Option Addr} {len : Nat} {z : Nat → Int} (h : Src w ao len z) (k : Nat) : 0 ≤ ent len z k ∧ ent len z k ≤ 65535 := by
  unfold ent
  rcases h with h | ⟨b, off, h1, h2, h3, h4⟩
  · rw [if_pos h]; omega
  · rw [if_neg (by omega)]; exact (h4 _ (Nat.mod_lt _ h2)).2

theorem entry_any (ao : Option Addr) (len cap k : Nat) (z : Nat → Int) (q : Int) (w : World) (h : Src w ao len z) (hl : len ≤ 4096) (hq : q = (k : Int)) (hk : k ≤ 100000) :
    Calls Yba.prog 5 #[.slice ao len cap, .int .i64 q] w fun e w' => e = .returned (.int .i64 (ent len z k)) ∧ w' = w := by
  subst hq
  rcases h with rfl | ⟨b, off, rfl, h2, h3, h4⟩
  · exact entry_zero ao cap k z w
  · exact entry_pos b off len cap k z w h2 hl hk (fun i hi => (h4 i hi).1) (fun i hi => (h4 i hi).2)

/-- The matrix's entries behind k rounds. -/
def part (E : Nat → Int) (k : Nat) : Nat → Int := fun i => if i < k then E i else 0

theorem part_upd {E : Nat → Int} {k : Nat} : upd (part E k) k (E k) = part E (k + 1) := by
  funext i
  unfold upd part
  by_cases h : i = k
  · subst h; simp
  · by_cases h2 : i < k
    · simp [h, h2, show i < k + 1 by omega]
    · simp [h, h2, show ¬ i < k + 1 by omega]

theorem part_zero {E : Nat → Int} {k : Nat} (h : E k = 0) : part E k = part E (k + 1) := by
  funext i
  unfold part
  by_cases h1 : i = k
  · subst h1; simp [h]
  · by_cases h2 : i < k
    · simp [h2, show i < k + 1 by omega]
    · simp [h2, show ¬ i < k + 1 by omega]

theorem least_congr {e E : Nat → Int} {n i : Nat} (h : ∀ k, k < n * n → e k = E k) (hi : i < n) : ∀ r, r < n → least e n i r = least E n i r
  | 0, hr => h i (by have := Nat.le_mul_of_pos_right n (by omega : 0 < n); omega)
  | r + 1, hr => by
    have h1 : (r + 1 + 1) * n ≤ n * n := Nat.mul_le_mul_right _ hr
    have h2 : (r + 1 + 1) * n = (r + 1) * n + n := Nat.succ_mul _ _
    unfold least
    rw [least_congr h hi r (by omega), h _ (by omega)]

/-! ### 'whole' and its copy -/

def Twin (w : World) (N : Nat) (vo : Option Addr) (vl vc : Nat) (co : Option Addr) (cl cc : Nat) : Prop :=
  (vo = none ∧ vl = 0 ∧ vc = 0 ∧ co = none ∧ cl = 0 ∧ cc = 0) ∨ ∃ b cb f, vo = some ⟨b, 0, none⟩ ∧ vl = N ∧ co = some ⟨cb, 0, none⟩ ∧ cl = N ∧ RowI w b 3 .i64 N f ∧ RowI w cb 3 .i64 N f

/-- The third field as the matrix has it. -/
def Whole (w : World) (N : Nat) (vo : Option Addr) (vl vc : Nat) : Prop := (vo = none ∧ vl = 0 ∧ vc = 0) ∨ ∃ b f, vo = some ⟨b, 0, none⟩ ∧ vl = N ∧ RowI w b 3 .i64 N f

theorem Kn.whole {w : World} {B mb n lb : Nat} {e : Nat → Int} (h : Kn w B mb n lb e) : ∃ vo vl vc, w.cell? ⟨mb, 2, none⟩ = some (.slice vo vl vc) ∧ Whole w (n * n) vo vl vc := by
  rcases h with h | ⟨wb, h⟩
  · exact ⟨none, 0, 0, h.c2, .inl ⟨rfl, rfl, rfl⟩⟩
  · exact ⟨some ⟨wb, 0, none⟩, _, _, h.c2, .inr ⟨wb, e, rfl, rfl, h.whole⟩⟩

theorem clone_any (w : World) (N : Nat) (vo : Option Addr) (vl vc : Nat) (h : Whole w N vo vl vc) (hN : N ≤ 1600) :
    Calls Yba.prog 8 #[.slice vo vl vc] w fun r w' => ∃ co cl cc, r = .returned (.slice co cl cc) ∧ Twin w' N vo vl vc co cl cc ∧ w.grownBy w' none := by
  rcases h with ⟨rfl, rfl, rfl⟩ | ⟨b, f, rfl, rfl, hr⟩
  · refine (clone_nil w).mono ?_
    rintro _ w' ⟨rfl, rfl⟩
    exact ⟨none, 0, 0, rfl, .inl ⟨rfl, rfl, rfl, rfl, rfl, rfl⟩, World.grownBy.refl _ _⟩
  · refine (clone_int b vl vc f w hr hN).mono ?_
    rintro _ w' ⟨cb, cap', rfl, _, hr', hg⟩
    exact ⟨_, _, _, rfl, .inr ⟨b, cb, f, rfl, rfl, rfl, rfl, hr.kept (hg.block b hr.lt (by simp)), hr'⟩, hg⟩

theorem Twin.kept {w w' : World} {N : Nat} {vo : Option Addr} {vl vc : Nat} {co : Option Addr} {cl cc : Nat} (h : Twin w N vo vl vc co cl cc) (k : ∀ b, b < w.heap.size → w'.heap[b]? = w.heap[b]?) : Twin w' N vo vl vc co cl cc := by
  rcases h with h | ⟨b, cb, f, h1, h2, h3, h4, h5, h6⟩
  · exact .inl h
  · exact .inr ⟨b, cb, f, h1, h2, h3, h4, h5.kept (k b h5.lt), h6.kept (k cb h6.lt)⟩

theorem equal_any (w : World) (N : Nat) (vo : Option Addr) (vl vc : Nat) (co : Option Addr) (cl cc : Nat) (h : Twin w N vo vl vc co cl cc) (hN : N ≤ 1600) :
    Calls Yba.prog 11 #[.slice vo vl vc, .slice co cl cc] w fun r w' => r = .returned (.bool true) ∧ ∃ d, w' = w.drewN d := by
  rcases h with ⟨rfl, rfl, rfl, rfl, rfl, rfl⟩ | ⟨b, cb, f, rfl, rfl, rfl, rfl, h5, h6⟩
  · exact equal_nil w
  · exact equal_int b cb cl vc cc f w h5 h6 hN

end Go.Proofs.Ybulkdcya
