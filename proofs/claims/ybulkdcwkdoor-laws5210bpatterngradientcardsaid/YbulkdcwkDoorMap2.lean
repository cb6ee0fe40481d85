/-
  OWN WORK. ColorMap.At over words: beyond the last entry.
-/
import Derived.Test.YbulkdcwkDoorMap
namespace Go.Proofs.YbulkdcwkDoor
open Go.RowKit
set_option linter.unusedVariables false
attribute [local go_sem] run_store_float run_equalIn_float

set_option maxRecDepth 100000 in
set_option maxHeartbeats 2000000 in
theorem map_hi (mb f r g b r' g' b' : Nat) (w : World) (hm : w.heap[mb]? = some (.cells (ents r g b r' g' b') 29 (0, 0))) (h : le0 f = false) (h1 : lt1 f = false) :
    Calls Ybad.prog 16 #[.slice (some ⟨mb, 0, none⟩) 2 2, .float .f64 f] w fun e w' => e = .returned (.agg #[.float .f64 r', .float .f64 g', .float .f64 b']) ∧ Below w.heap.size w w' := by
  have h' : (FloatKind.f64.format.order f 0 == some Ordering.lt || FloatKind.f64.format.order f 0 == some Ordering.eq) = false := h
  have h1' : (FloatKind.f64.format.order f 4607182418800017408 == some Ordering.lt) = false := h1
  have m0 : w.cell? ⟨mb, 0, none⟩ = some (.float .f64 0) := blk_cell hm rfl
  have hl := blk_lt hm
  have HM := hide hm
  clear hm h h1
  go_enter Ybad.func16, Ybad.ntmps16
  go_wp2_with fail
  obtain ⟨w1, hw1⟩ : ∃ w1, w1 = w.alloc (.cells #[.float .f64 0, .float .f64 0, .float .f64 0] 27) := ⟨_, rfl⟩
  obtain ⟨rb, hrb⟩ : ∃ x, x = w.heap.size := ⟨_, rfl⟩
  have hm1 : w1.heap[mb]? = some (.cells (ents r g b r' g' b') 29 (0, 0)) := by rw [hw1, Below.heap_alloc _ _ _ hl]; exact HM.out
  have hres : w1.heap[rb]? = some (.cells #[.float .f64 0, .float .f64 0, .float .f64 0] 27 (0, 0)) := by rw [hw1, hrb]; exact heap_alloc_new w _
  have hbel : Below rb w w1 := by rw [hw1, hrb]; exact (Below.refl _ _).alloc (Nat.le_refl _) _
  rw [← hw1, ← hrb]
  have HM1 := hide hm1
  have HRES := hide hres
  have HBEL := hide hbel
  have HRB := hide hrb
  have hrl := blk_lt hres
  have hl1 := blk_lt hm1
  clear HM hw1 m0 hl hm1 hres hbel hrb
  go_loopg [5] 1 (fun gk v5 W => (gk = 1 ∧ v5 = .int .i64 1 ∧ W = w1) ∨ (gk = 0 ∧ v5 = .int .i64 2 ∧ Hid (Below w1.heap.size w1 W)))
  case atStart => exact .inl ⟨rfl, rfl, rfl⟩
  case round =>
    rcases hrel with ⟨hgk, rfl, hwr⟩ | ⟨hgk, rfl, HW⟩
    · rw [hwr]
      clear hwr
      have q0 : w1.cell? ⟨mb, 0, none⟩ = some (.float .f64 0) := blk_cell HM1.out rfl
      have q1 : w1.cell? ⟨mb, 1, none⟩ = some (.float .f64 r) := blk_cell HM1.out rfl
      have q2 : w1.cell? ⟨mb, 2, none⟩ = some (.float .f64 g) := blk_cell HM1.out rfl
      have q3 : w1.cell? ⟨mb, 3, none⟩ = some (.float .f64 b) := blk_cell HM1.out rfl
      have q4 : w1.cell? ⟨mb, 4, none⟩ = some (.float .f64 4607182418800017408) := blk_cell HM1.out rfl
      have q5 : w1.cell? ⟨mb, 5, none⟩ = some (.float .f64 r') := blk_cell HM1.out rfl
      have q6 : w1.cell? ⟨mb, 6, none⟩ = some (.float .f64 g') := blk_cell HM1.out rfl
      have q7 : w1.cell? ⟨mb, 7, none⟩ = some (.float .f64 b') := blk_cell HM1.out rfl
      go_wp2_with fail
      go_region
      all_goals
        go_wp2_with fail
        go_roundg 0
        · exact .inr ⟨rfl, rfl, (((Below.refl _ _).alloc (Nat.le_refl _) _).alloc (by simp) _).drew⟩
        · omega
    · have hm2 := Below.blk HW.out HM1.out hl1
      have hr2 := Below.blk HW.out HRES.out hrl
      have q5 : wr.cell? ⟨mb, 5, none⟩ = some (.float .f64 r') := blk_cell hm2 rfl
      have q6 : wr.cell? ⟨mb, 6, none⟩ = some (.float .f64 g') := blk_cell hm2 rfl
      have q7 : wr.cell? ⟨mb, 7, none⟩ = some (.float .f64 b') := blk_cell hm2 rfl
      have r0 := blk_cell (o := 0) hr2 rfl
      have r1 := blk_cell (o := 1) hr2 rfl
      have r2 := blk_cell (o := 2) hr2 rfl
      have f0 := blk_frozen (o := 0) hr2
      have f1 := blk_frozen (o := 1) hr2
      have f2 := blk_frozen (o := 2) hr2
      clear hm2 hr2
      go_wp2_with fail
      refine bodyPost_ret (v := .agg #[.float .f64 r', .float .f64 g', .float .f64 b']) (by simp [results, Ybad.results16, go_sem, r0, r1, r2]) rfl ⟨rfl, ?_⟩
      rw [← HRB.out]
      exact (((HBEL.out.trans (HW.out.mono (Nat.le_of_lt hrl))).setCell (by simp) _).setCell (by simp) _).setCell (by simp) _

/-- At, whatever the place. -/
theorem map_run (mb f r g b r' g' b' cr cg cb : Nat) (w : World) (hm : w.heap[mb]? = some (.cells (ents r g b r' g' b') 29 (0, 0))) (hf : Fb f 40) (x0 : Col f r r' cr) (x1 : Col f g g' cg) (x2 : Col f b b' cb) :
    Calls Ybad.prog 16 #[.slice (some ⟨mb, 0, none⟩) 2 2, .float .f64 f] w fun e w' => e = .returned (.agg #[.float .f64 cr, .float .f64 cg, .float .f64 cb]) ∧ Below w.heap.size w w' := by
  cases hl : le0 f with
  | true =>
    have e : ∀ {a b c}, Col f a b c → c = a := fun h => by
      rcases h with ⟨_, h⟩ | ⟨h, _⟩ | ⟨h, _⟩
      · exact h
      · rw [hl] at h; cases h
      · rw [hl] at h; cases h
    rw [e x0, e x1, e x2]
    exact map_lo mb f r g b r' g' b' w hm hl
  | false =>
    cases ht : lt1 f with
    | true =>
      have e : ∀ {a b c}, Col f a b c → Mix f a b c := fun h => by
        rcases h with ⟨h, _⟩ | ⟨_, _, h⟩ | ⟨_, h, _⟩
        · rw [hl] at h; cases h
        · exact h
        · rw [ht] at h; cases h
      exact map_mid mb f r g b r' g' b' cr cg cb w hm hl ht hf (e x0) (e x1) (e x2)
    | false =>
      have e : ∀ {a b c}, Col f a b c → c = b := fun h => by
        rcases h with ⟨h, _⟩ | ⟨_, h, _⟩ | ⟨_, _, h⟩
        · rw [hl] at h; cases h
        · rw [ht] at h; cases h
        · exact h
      rw [e x0, e x1, e x2]
      exact map_hi mb f r g b r' g' b' w hm hl ht

theorem col_ok {f a b : Nat} (hf : Fb f 40) (ha : Fb a 20) (hb : Fb b 20) : ∃ c, Col f a b c ∧ Fb c 66 := by
  cases hl : le0 f with
  | true => exact ⟨a, .inl ⟨hl, rfl⟩, ha.mono (by decide)⟩
  | false =>
    cases ht : lt1 f with
    | true =>
      obtain ⟨c, h1, h2⟩ := mix_ok hf ha hb
      exact ⟨c, .inr (.inl ⟨hl, ht, h1⟩), h2⟩
    | false => exact ⟨b, .inr (.inr ⟨hl, ht, rfl⟩), hb.mono (by decide)⟩

end Go.Proofs.YbulkdcwkDoor
