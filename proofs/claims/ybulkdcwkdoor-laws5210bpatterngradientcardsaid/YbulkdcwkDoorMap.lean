/-
  OWN WORK. ColorMap.At over words.
-/
import Derived.Test.YbulkdcwkDoorCol
import Derived.Deep.LoopGhost
namespace Go.Proofs.YbulkdcwkDoor
open Go.RowKit
set_option linter.unusedVariables false
attribute [local go_sem] run_store_float run_equalIn_float

/-- The two entries. -/
def ents (ar ag ab br bg bb : Nat) : Array Value := #[.float .f64 0, .float .f64 ar, .float .f64 ag, .float .f64 ab, .float .f64 4607182418800017408, .float .f64 br, .float .f64 bg, .float .f64 bb]

set_option maxRecDepth 100000 in
set_option maxHeartbeats 1000000 in
theorem map_lo (mb f r g b r' g' b' : Nat) (w : World) (hm : w.heap[mb]? = some (.cells (ents r g b r' g' b') 29 (0, 0))) (h : le0 f = true) :
    Calls Ybad.prog 16 #[.slice (some ⟨mb, 0, none⟩) 2 2, .float .f64 f] w fun e w' => e = .returned (.agg #[.float .f64 r, .float .f64 g, .float .f64 b]) ∧ Below w.heap.size w w' := by
  have h' : (FloatKind.f64.format.order f 0 == some Ordering.lt || FloatKind.f64.format.order f 0 == some Ordering.eq) = true := h
  have m0 : w.cell? ⟨mb, 0, none⟩ = some (.float .f64 0) := blk_cell hm rfl
  have m1 : w.cell? ⟨mb, 1, none⟩ = some (.float .f64 r) := blk_cell hm rfl
  have m2 : w.cell? ⟨mb, 2, none⟩ = some (.float .f64 g) := blk_cell hm rfl
  have m3 : w.cell? ⟨mb, 3, none⟩ = some (.float .f64 b) := blk_cell hm rfl
  have hl := blk_lt hm
  clear hm h
  go_enter Ybad.func16, Ybad.ntmps16
  go_wp2_with fail
  refine bodyPost_ret (v := .agg #[.float .f64 r, .float .f64 g, .float .f64 b]) (by simp [results, Ybad.results16, go_sem]) rfl ⟨rfl, ?_⟩
  exact (Below.refl _ _).alloc (Nat.le_refl _) _

/-- The blocks while the two colours are mixed. -/
structure Mp (w W : World) (rb n1 n2 : Nat) (A B : Array Value) : Prop where
  a : W.heap[n1]? = some (.cells A 29 (0, 0))
  b : W.heap[n2]? = some (.cells B 29 (0, 0))
  r : W.heap[rb]? = some (.cells #[.float .f64 0, .float .f64 0, .float .f64 0] 27 (0, 0))
  bel : Below rb w W

theorem Mp.step {w W W' : World} {rb n1 n2 : Nat} {A B : Array Value} (h : Mp w W rb n1 n2 A B) (k : Below W.heap.size W W') : Mp w W' rb n1 n2 A B :=
  ⟨Below.blk k h.a (blk_lt h.a), Below.blk k h.b (blk_lt h.b), Below.blk k h.r (blk_lt h.r), h.bel.trans (k.mono (Nat.le_of_lt (blk_lt h.r)))⟩
theorem Mp.drew {w W : World} {rb n1 n2 : Nat} {A B : Array Value} (h : Mp w W rb n1 n2 A B) : Mp w W.drew rb n1 n2 A B := ⟨h.a, h.b, h.r, h.bel.drew⟩

set_option maxRecDepth 100000 in
set_option maxHeartbeats 4000000 in
theorem map_mid (mb f r g b r' g' b' cr cg cb : Nat) (w : World) (hm : w.heap[mb]? = some (.cells (ents r g b r' g' b') 29 (0, 0))) (h : le0 f = false) (h1 : lt1 f = true) (hf : Fb f 40) (x0 : Mix f r r' cr) (x1 : Mix f g g' cg) (x2 : Mix f b b' cb) :
    Calls Ybad.prog 16 #[.slice (some ⟨mb, 0, none⟩) 2 2, .float .f64 f] w fun e w' => e = .returned (.agg #[.float .f64 cr, .float .f64 cg, .float .f64 cb]) ∧ Below w.heap.size w w' := by
  have h' : (FloatKind.f64.format.order f 0 == some Ordering.lt || FloatKind.f64.format.order f 0 == some Ordering.eq) = false := h
  have h1' : (FloatKind.f64.format.order f 4607182418800017408 == some Ordering.lt) = true := h1
  obtain ⟨d1, d2, d3⟩ := ratio hf h
  have D1 := ar (op := .sub) d1
  have D2 := ar (op := .sub) d2
  have D3 := ar (op := .quo) d3
  have m0 : w.cell? ⟨mb, 0, none⟩ = some (.float .f64 0) := blk_cell hm rfl
  have m1 : w.cell? ⟨mb, 1, none⟩ = some (.float .f64 r) := blk_cell hm rfl
  have m2 : w.cell? ⟨mb, 2, none⟩ = some (.float .f64 g) := blk_cell hm rfl
  have m3 : w.cell? ⟨mb, 3, none⟩ = some (.float .f64 b) := blk_cell hm rfl
  have m4 : w.cell? ⟨mb, 4, none⟩ = some (.float .f64 4607182418800017408) := blk_cell hm rfl
  have m5 : w.cell? ⟨mb, 5, none⟩ = some (.float .f64 r') := blk_cell hm rfl
  have m6 : w.cell? ⟨mb, 6, none⟩ = some (.float .f64 g') := blk_cell hm rfl
  have m7 : w.cell? ⟨mb, 7, none⟩ = some (.float .f64 b') := blk_cell hm rfl
  have hl := blk_lt hm
  have HM := hide hm
  obtain ⟨gg, p0, p0', e0, e1, e2, e3⟩ := x0
  obtain ⟨g1, p1, p1', e4, e5, e6, e7⟩ := x1
  obtain ⟨g2, p2, p2', e8, e9, e10, e11⟩ := x2
  obtain rfl : g1 = gg := Option.some.inj (e4.symm.trans e0)
  obtain rfl : g2 = g1 := Option.some.inj (e8.symm.trans e0)
  have D4 := ar (op := .sub) e0
  have E1 := hide e1
  have E2 := hide e2
  have E3 := hide e3
  have E5 := hide e5
  have E6 := hide e6
  have E7 := hide e7
  have E9 := hide e9
  have E10 := hide e10
  have E11 := hide e11
  clear hm h h1 d1 d2 d3 e0 e1 e2 e3 e4 e5 e6 e7 e8 e9 e10 e11
  go_enter Ybad.func16, Ybad.ntmps16
  go_wp2_with fail
  obtain ⟨w1, hw1⟩ : ∃ w1, w1 = w.alloc (.cells #[.float .f64 0, .float .f64 0, .float .f64 0] 27) := ⟨_, rfl⟩
  obtain ⟨rb, hrb⟩ : ∃ x, x = w.heap.size := ⟨_, rfl⟩
  have hm1 : w1.heap[mb]? = some (.cells (ents r g b r' g' b') 29 (0, 0)) := by rw [hw1, Below.heap_alloc _ _ _ hl]; exact HM.out
  have q0 : w1.cell? ⟨mb, 0, none⟩ = some (.float .f64 0) := blk_cell hm1 rfl
  have q1 : w1.cell? ⟨mb, 1, none⟩ = some (.float .f64 r) := blk_cell hm1 rfl
  have q2 : w1.cell? ⟨mb, 2, none⟩ = some (.float .f64 g) := blk_cell hm1 rfl
  have q3 : w1.cell? ⟨mb, 3, none⟩ = some (.float .f64 b) := blk_cell hm1 rfl
  have q4 : w1.cell? ⟨mb, 4, none⟩ = some (.float .f64 4607182418800017408) := blk_cell hm1 rfl
  have q5 : w1.cell? ⟨mb, 5, none⟩ = some (.float .f64 r') := blk_cell hm1 rfl
  have q6 : w1.cell? ⟨mb, 6, none⟩ = some (.float .f64 g') := blk_cell hm1 rfl
  have q7 : w1.cell? ⟨mb, 7, none⟩ = some (.float .f64 b') := blk_cell hm1 rfl
  have hl1 : mb < w1.heap.size := by rw [hw1]; simp; omega
  have hres : w1.heap[rb]? = some (.cells #[.float .f64 0, .float .f64 0, .float .f64 0] 27 (0, 0)) := by rw [hw1, hrb]; exact heap_alloc_new w _
  have hbel : Below rb w w1 := by rw [hw1, hrb]; exact (Below.refl _ _).alloc (Nat.le_refl _) _
  rw [← hw1, ← hrb]
  have HRES := hide hres
  have HBEL := hide hbel
  have HRB := hide hrb
  have hrl := blk_lt hres
  clear hm1 HM hw1 m0 m1 m2 m3 m4 m5 m6 m7 hl hres hbel hrb
  go_loopg [5] 1 (fun gk v5 W => gk = 1 ∧ v5 = .int .i64 1 ∧ W = w1)
  case atStart => exact ⟨rfl, rfl, rfl⟩
  case round =>
    obtain ⟨hgk, rfl, hwr⟩ := hrel
    rw [hwr]
    clear hwr
    go_wp2_with fail
    go_region
    · go_wp2_with fail
      obtain ⟨w2, hw2⟩ : ∃ w2, w2 = (w1.alloc (.cells #[Value.float .f64 0, Value.float .f64 r, Value.float .f64 g, Value.float .f64 b] 29)).alloc (.cells #[Value.float .f64 4607182418800017408, Value.float .f64 r', Value.float .f64 g', Value.float .f64 b'] 29) := ⟨_, rfl⟩
      have hbel2 : Below w1.heap.size w1 w2 := by rw [hw2]; exact ((Below.refl _ _).alloc (Nat.le_refl _) _).alloc (by simp) _
      have hA : w2.heap[w1.heap.size]? = some (.cells #[Value.float .f64 0, Value.float .f64 r, Value.float .f64 g, Value.float .f64 b] 29 (0, 0)) := by
        rw [hw2, Below.heap_alloc _ _ _ (by simp)]
        exact heap_alloc_new w1 _
      have hB : w2.heap[w1.heap.size + 1]? = some (.cells #[Value.float .f64 4607182418800017408, Value.float .f64 r', Value.float .f64 g', Value.float .f64 b'] 29 (0, 0)) := by
        rw [hw2]
        have := heap_alloc_new (w1.alloc (.cells #[Value.float .f64 0, Value.float .f64 r, Value.float .f64 g, Value.float .f64 b] 29)) (.cells #[Value.float .f64 4607182418800017408, Value.float .f64 r', Value.float .f64 g', Value.float .f64 b'] 29)
        simpa using this
      rw [← hw2]
      have hres2 := Below.blk hbel2 HRES.out hrl
      have a0 := blk_cell (o := 0) hA rfl
      have a1 := blk_cell (o := 1) hA rfl
      have a2 := blk_cell (o := 2) hA rfl
      have a3 := blk_cell (o := 3) hA rfl
      have b0 := blk_cell (o := 0) hB rfl
      have b1 := blk_cell (o := 1) hB rfl
      have b2 := blk_cell (o := 2) hB rfl
      have b3 := blk_cell (o := 3) hB rfl
      have HA2 := hide hA
      have HB2 := hide hB
      have hAl := blk_lt hA
      have hBl := blk_lt hB
      have HRES2 := hide hres2
      have hrl2 := blk_lt hres2
      have HBEL2 := hide (HBEL.out.trans (hbel2.mono (Nat.le_of_lt hrl)))
      clear hw2 hbel2 hA hB hres2 q0 q1 q2 q3 q4 q5 q6 q7
      generalize w1.heap.size + 1 = n2 at *
      generalize w1.heap.size = n1 at *
      have HM0 : Hid (Mp w w2 rb n1 n2 #[Value.float .f64 0, Value.float .f64 r, Value.float .f64 g, Value.float .f64 b] #[Value.float .f64 4607182418800017408, Value.float .f64 r', Value.float .f64 g', Value.float .f64 b']) := ⟨HA2.out, HB2.out, HRES2.out, HBEL2.out⟩
      clear HA2 HB2 HRES2 HBEL2
      go_region_with (first
        | (go_at_call_of 24 r; refine (cscale_run r g b g2 p0 p1 p2 _ E1.out E5.out E9.out).mono ?_; rintro _ wA ⟨rfl, hbA⟩; (first | have HMA := hide (HMB.out.step hbA) | have HMA := hide (HM0.out.drew.drew.step hbA) | have HMA := hide (HM0.out.drew.step hbA)); have ca1 := blk_cell (o := 1) HMA.out.a rfl; have ca2 := blk_cell (o := 2) HMA.out.a rfl; have ca3 := blk_cell (o := 3) HMA.out.a rfl; have cb1 := blk_cell (o := 1) HMA.out.b rfl; have cb2 := blk_cell (o := 2) HMA.out.b rfl; have cb3 := blk_cell (o := 3) HMA.out.b rfl; clear hbA)
        | (go_at_call_of 24 r'; refine (cscale_run r' g' b' f p0' p1' p2' _ E2.out E6.out E10.out).mono ?_; rintro _ wB ⟨rfl, hbB⟩; (first | have HMB := hide (HMA.out.step hbB) | have HMB := hide (HM0.out.drew.drew.step hbB) | have HMB := hide (HM0.out.drew.step hbB)); have da1 := blk_cell (o := 1) HMB.out.a rfl; have da2 := blk_cell (o := 2) HMB.out.a rfl; have da3 := blk_cell (o := 3) HMB.out.a rfl; have db1 := blk_cell (o := 1) HMB.out.b rfl; have db2 := blk_cell (o := 2) HMB.out.b rfl; have db3 := blk_cell (o := 3) HMB.out.b rfl; clear hbB)
        | (go_at_call 25; refine (cadd_run p0 p1 p2 p0' p1' p2' cr cg cb _ E3.out E7.out E11.out).mono ?_; rintro _ wC ⟨rfl, hbC⟩; (first | have HMC := hide (HMB.out.step hbC) | have HMC := hide (HMA.out.step hbC)); have r0 := blk_cell (o := 0) HMC.out.r rfl; have r1 := blk_cell (o := 1) HMC.out.r rfl; have r2 := blk_cell (o := 2) HMC.out.r rfl; have f0 := blk_frozen (o := 0) HMC.out.r; have f1 := blk_frozen (o := 1) HMC.out.r; have f2 := blk_frozen (o := 2) HMC.out.r; clear hbC))
      all_goals
        go_wp2_with fail
        refine bodyPost_ret (v := .agg #[.float .f64 cr, .float .f64 cg, .float .f64 cb]) (by simp [results, Ybad.results16, go_sem, r0, r1, r2]) rfl ⟨rfl, ?_⟩
        rw [← HRB.out]
        exact ((HMC.out.bel.setCell (by simp) _).setCell (by simp) _).setCell (by simp) _
    · go_wp2_with fail
      obtain ⟨w2, hw2⟩ : ∃ w2, w2 = (w1.alloc (.cells #[Value.float .f64 4607182418800017408, Value.float .f64 r', Value.float .f64 g', Value.float .f64 b'] 29)).alloc (.cells #[Value.float .f64 0, Value.float .f64 r, Value.float .f64 g, Value.float .f64 b] 29) := ⟨_, rfl⟩
      have hbel2 : Below w1.heap.size w1 w2 := by rw [hw2]; exact ((Below.refl _ _).alloc (Nat.le_refl _) _).alloc (by simp) _
      have hA : w2.heap[w1.heap.size]? = some (.cells #[Value.float .f64 4607182418800017408, Value.float .f64 r', Value.float .f64 g', Value.float .f64 b'] 29 (0, 0)) := by
        rw [hw2, Below.heap_alloc _ _ _ (by simp)]
        exact heap_alloc_new w1 _
      have hB : w2.heap[w1.heap.size + 1]? = some (.cells #[Value.float .f64 0, Value.float .f64 r, Value.float .f64 g, Value.float .f64 b] 29 (0, 0)) := by
        rw [hw2]
        have := heap_alloc_new (w1.alloc (.cells #[Value.float .f64 4607182418800017408, Value.float .f64 r', Value.float .f64 g', Value.float .f64 b'] 29)) (.cells #[Value.float .f64 0, Value.float .f64 r, Value.float .f64 g, Value.float .f64 b] 29)
        simpa using this
      rw [← hw2]
      have hres2 := Below.blk hbel2 HRES.out hrl
      have a0 := blk_cell (o := 0) hA rfl
      have a1 := blk_cell (o := 1) hA rfl
      have a2 := blk_cell (o := 2) hA rfl
      have a3 := blk_cell (o := 3) hA rfl
      have b0 := blk_cell (o := 0) hB rfl
      have b1 := blk_cell (o := 1) hB rfl
      have b2 := blk_cell (o := 2) hB rfl
      have b3 := blk_cell (o := 3) hB rfl
      have HA2 := hide hA
      have HB2 := hide hB
      have hAl := blk_lt hA
      have hBl := blk_lt hB
      have HRES2 := hide hres2
      have hrl2 := blk_lt hres2
      have HBEL2 := hide (HBEL.out.trans (hbel2.mono (Nat.le_of_lt hrl)))
      clear hw2 hbel2 hA hB hres2 q0 q1 q2 q3 q4 q5 q6 q7
      generalize w1.heap.size + 1 = n2 at *
      generalize w1.heap.size = n1 at *
      have HM0 : Hid (Mp w w2 rb n1 n2 #[Value.float .f64 4607182418800017408, Value.float .f64 r', Value.float .f64 g', Value.float .f64 b'] #[Value.float .f64 0, Value.float .f64 r, Value.float .f64 g, Value.float .f64 b]) := ⟨HA2.out, HB2.out, HRES2.out, HBEL2.out⟩
      clear HA2 HB2 HRES2 HBEL2
      go_region_with (first
        | (go_at_call_of 24 r; refine (cscale_run r g b g2 p0 p1 p2 _ E1.out E5.out E9.out).mono ?_; rintro _ wA ⟨rfl, hbA⟩; (first | have HMA := hide (HMB.out.step hbA) | have HMA := hide (HM0.out.drew.drew.step hbA) | have HMA := hide (HM0.out.drew.step hbA)); have ca1 := blk_cell (o := 1) HMA.out.a rfl; have ca2 := blk_cell (o := 2) HMA.out.a rfl; have ca3 := blk_cell (o := 3) HMA.out.a rfl; have cb1 := blk_cell (o := 1) HMA.out.b rfl; have cb2 := blk_cell (o := 2) HMA.out.b rfl; have cb3 := blk_cell (o := 3) HMA.out.b rfl; clear hbA)
        | (go_at_call_of 24 r'; refine (cscale_run r' g' b' f p0' p1' p2' _ E2.out E6.out E10.out).mono ?_; rintro _ wB ⟨rfl, hbB⟩; (first | have HMB := hide (HMA.out.step hbB) | have HMB := hide (HM0.out.drew.drew.step hbB) | have HMB := hide (HM0.out.drew.step hbB)); have da1 := blk_cell (o := 1) HMB.out.a rfl; have da2 := blk_cell (o := 2) HMB.out.a rfl; have da3 := blk_cell (o := 3) HMB.out.a rfl; have db1 := blk_cell (o := 1) HMB.out.b rfl; have db2 := blk_cell (o := 2) HMB.out.b rfl; have db3 := blk_cell (o := 3) HMB.out.b rfl; clear hbB)
        | (go_at_call 25; refine (cadd_run p0 p1 p2 p0' p1' p2' cr cg cb _ E3.out E7.out E11.out).mono ?_; rintro _ wC ⟨rfl, hbC⟩; (first | have HMC := hide (HMB.out.step hbC) | have HMC := hide (HMA.out.step hbC)); have r0 := blk_cell (o := 0) HMC.out.r rfl; have r1 := blk_cell (o := 1) HMC.out.r rfl; have r2 := blk_cell (o := 2) HMC.out.r rfl; have f0 := blk_frozen (o := 0) HMC.out.r; have f1 := blk_frozen (o := 1) HMC.out.r; have f2 := blk_frozen (o := 2) HMC.out.r; clear hbC))
      all_goals
        go_wp2_with fail
        refine bodyPost_ret (v := .agg #[.float .f64 cr, .float .f64 cg, .float .f64 cb]) (by simp [results, Ybad.results16, go_sem, r0, r1, r2]) rfl ⟨rfl, ?_⟩
        rw [← HRB.out]
        exact ((HMC.out.bel.setCell (by simp) _).setCell (by simp) _).setCell (by simp) _

end Go.Proofs.YbulkdcwkDoor
