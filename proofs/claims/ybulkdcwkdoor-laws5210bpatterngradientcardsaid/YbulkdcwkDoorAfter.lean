/-
  OWN WORK. Walks of package geom over words: after, then, Scale.
-/
import Derived.Test.YbulkdcwkDoorGeom3
import Derived.Deep.LoopGhost
import Derived.Laws.CopyOwn
namespace Go.Proofs.YbulkdcwkDoor
open Go.RowKit
set_option linter.unusedVariables false
attribute [local go_sem] run_store_float run_equalIn_float

/-- The twelve numbers of an affine. -/
def affV (m : Nat → Nat) : Array Value := #[.float .f64 (m 0), .float .f64 (m 1), .float .f64 (m 2), .float .f64 (m 3), .float .f64 (m 4), .float .f64 (m 5), .float .f64 (m 6), .float .f64 (m 7), .float .f64 (m 8), .float .f64 0, .float .f64 0, .float .f64 0]

theorem affV_at (m : Nat → Nat) {j : Nat} (h : j < 9) : (affV m)[j]? = some (.float .f64 (m j)) := by
  unfold affV
  have : j = 0 ∨ j = 1 ∨ j = 2 ∨ j = 3 ∨ j = 4 ∨ j = 5 ∨ j = 6 ∨ j = 7 ∨ j = 8 := by omega
  rcases this with rfl | rfl | rfl | rfl | rfl | rfl | rfl | rfl | rfl <;> rfl

/-- The matrix that is being filled. -/
def Fill (W : World) (cb : Nat) (c : Nat → Nat) (p : Nat) : Prop := ∃ cur : Array Value, W.heap[cb]? = some (.cells cur 36 (0, 0)) ∧ cur.size = 12 ∧ (∀ k, k < 9 → cur[k]? = some (.float .f64 (if k < p then c k else 0))) ∧ cur[9]? = some (.float .f64 0) ∧ cur[10]? = some (.float .f64 0) ∧ cur[11]? = some (.float .f64 0)

theorem Fill.kept {W W' : World} {cb p : Nat} {c : Nat → Nat} (h : Fill W cb c p) (e : W'.heap[cb]? = W.heap[cb]?) : Fill W' cb c p := by
  obtain ⟨cur, hb, r⟩ := h
  exact ⟨cur, e.trans hb, r⟩

theorem Fill.set {W : World} {cb p : Nat} {c : Nat → Nat} (h : Fill W cb c p) (hp : p < 9) : Fill (W.setCell ⟨cb, p, none⟩ (.float .f64 (c p))) cb c (p + 1) := by
  obtain ⟨cur, hb, hs, hk, h9, h10, h11⟩ := h
  have hset : (W.setCell ⟨cb, p, none⟩ (.float .f64 (c p))).heap[cb]? = some (.cells (cur.setIfInBounds p (.float .f64 (c p))) 36 (0, 0)) := by
    have hlt := (Array.getElem?_eq_some_iff.1 hb).1
    have hv := (Array.getElem?_eq_some_iff.1 hb).2
    simp only [World.setCell]
    rw [Array.getElem?_eq_getElem (by simpa using hlt), Array.getElem_modify]
    simp [hv]
  refine ⟨_, hset, by simpa using hs, fun k hk9 => ?_, ?_, ?_, ?_⟩
  · by_cases e : k = p
    · subst e
      have : k < cur.size := by omega
      simp [this]
    · rw [Array.getElem?_setIfInBounds, if_neg (fun h => e h.symm), hk k hk9]
      by_cases hlt : k < p
      · simp [hlt, show k < p + 1 by omega]
      · simp [hlt, show ¬ k < p + 1 by omega]
  · rw [Array.getElem?_setIfInBounds, if_neg (by omega)]; exact h9
  · rw [Array.getElem?_setIfInBounds, if_neg (by omega)]; exact h10
  · rw [Array.getElem?_setIfInBounds, if_neg (by omega)]; exact h11

theorem grown_cellSet (W : World) (b o : Nat) (v : Value) : W.grownBy (W.setCell ⟨b, o, none⟩ v) (some b) :=
  ⟨rfl, rfl, rfl, by simp [World.setCell], fun k _ hk => Below.heap_setCell _ _ _ k (fun e => hk (by rw [e]))⟩
theorem grown_draw {w w' : World} {r : Option Nat} (h : w.grownBy w' r) : w.grownBy w'.drew r := ⟨h.os, h.tape, h.output, h.size, h.block⟩

/-- A whole struct stored into a block that is known whole. -/
theorem wpList_store_blk {P : Program} {w : World} {ops : Array Oper} {rest : List Oper} {o : Oper} {a : Act} {Q : Exit → Act → World → Prop} (hg : o.guard = none) (ty : TypeId) (x y : Operand) (ho : o.op = .store ty x y)
    (t : TypeId) (old cs : Array Value) (g : Nat) (hb : w.heap[g]? = some (.cells old t (0, 0))) (hx : a.eval x = .pointer (some ⟨g, 0, none⟩)) (hy : a.eval y = .agg cs) (n : Nat) (hi : (P.info? ty).map (·.size) = some n) (hn : cs.size = n) (hold : old.size = n) (h1 : cs.toList.all (·.oneCell') = true)
    (h : wpList P ops Q rest (a.put o.dst undef) (w.setRow g cs)) : wpList P ops Q (o :: rest) a w :=
  wpList_plain hg fun K hK => wp_store_row ty x y ho g cs hx hy t old hb (by rw [hi, ← hn]) (by rw [hold, ← hn]) (by simpa using h1) (hK _ _ h)

theorem three_set {w : World} {g cb i j k : Nat} {o : Obj} {x y z : Value} (h : w.heap[g]? = some o) (hne : g ≠ cb) : (((w.setCell ⟨cb, i, none⟩ x).setCell ⟨cb, j, none⟩ y).setCell ⟨cb, k, none⟩ z).heap[g]? = some o := by
  rw [Below.heap_setCell _ _ _ _ hne, Below.heap_setCell _ _ _ _ hne, Below.heap_setCell _ _ _ _ hne]
  exact h

theorem size36 : (Ybad.prog.info? 36).map (·.size) = some 12 := by kernel_rfl

set_option maxRecDepth 100000 in
set_option maxHeartbeats 2000000 in
theorem after_run (a b c : Nat → Nat) (w : World) (rows : ∀ i j, i < 3 → j < 3 → Row (a (i * 3)) (a (i * 3 + 1)) (a (i * 3 + 2)) (b j) (b (3 + j)) (b (6 + j)) (c (i * 3 + j)))
    (z0 : Row (a 0) (a 1) (a 2) 0 0 0 0) (z1 : Row (a 3) (a 4) (a 5) 0 0 0 0) (z2 : Row (a 6) (a 7) (a 8) 0 0 0 0) :
    Calls Ybad.prog 26 #[.agg (affV a), .agg (affV b)] w fun e w' => e = .returned (.agg (affV c)) ∧ Below w.heap.size w w' := by
  have HR := hide rows
  have HZ0 := hide z0
  have HZ1 := hide z1
  have HZ2 := hide z2
  clear rows z0 z1 z2
  go_enter Ybad.func26, Ybad.ntmps26
  unfold affV
  go_wp2_with fail
  have hw1 : ∃ w1, w1 = (((w.alloc (.cells (affV a) 36)).alloc (.cells (affV b) 36)).alloc (.cells (affV fun _ => 0) 36)).alloc (.cells (affV fun _ => 0) 36) := ⟨_, rfl⟩
  unfold affV at hw1
  obtain ⟨w1, hw1⟩ := hw1
  rw [← hw1]
  have hA : w1.heap[w.heap.size]? = some (.cells (affV a) 36 (0, 0)) := by
    rw [hw1, Below.heap_alloc _ _ _ (by simp <;> omega), Below.heap_alloc _ _ _ (by simp <;> omega), Below.heap_alloc _ _ _ (by simp)]
    exact heap_alloc_new w _
  have hBb : w1.heap[w.heap.size + 1]? = some (.cells (affV b) 36 (0, 0)) := by
    rw [hw1, Below.heap_alloc _ _ _ (by simp <;> omega), Below.heap_alloc _ _ _ (by simp)]
    have := heap_alloc_new (w.alloc (.cells (affV a) 36)) (.cells (affV b) 36)
    simpa [affV] using this
  have hRb : w1.heap[w.heap.size + 1 + 1]? = some (.cells (affV fun _ => 0) 36 (0, 0)) := by
    rw [hw1, Below.heap_alloc _ _ _ (by simp)]
    have := heap_alloc_new ((w.alloc (.cells (affV a) 36)).alloc (.cells (affV b) 36)) (.cells (affV fun _ => 0) 36)
    simpa [affV] using this
  have hCb : w1.heap[w.heap.size + 1 + 1 + 1]? = some (.cells (affV fun _ => 0) 36 (0, 0)) := by
    rw [hw1]
    have := heap_alloc_new (((w.alloc (.cells (affV a) 36)).alloc (.cells (affV b) 36)).alloc (.cells (affV fun _ => 0) 36)) (.cells (affV fun _ => 0) 36)
    simpa [affV] using this
  have hbel : Below w.heap.size w w1 := by
    rw [hw1]
    exact ((((Below.refl _ _).alloc (Nat.le_refl _) _).alloc (by simp) _).alloc (by simp <;> omega) _).alloc (by simp <;> omega) _
  have hfill : Fill w1 (w.heap.size + 1 + 1 + 1) c 0 := ⟨_, hCb, rfl, fun k hk => by rw [affV_at _ hk]; simp, rfl, rfl, rfl⟩
  obtain ⟨ab, hab⟩ : ∃ x, x = w.heap.size := ⟨_, rfl⟩
  obtain ⟨bb, hbb⟩ : ∃ x, x = w.heap.size + 1 := ⟨_, rfl⟩
  obtain ⟨rb, hrb⟩ : ∃ x, x = w.heap.size + 1 + 1 := ⟨_, rfl⟩
  obtain ⟨cb, hcb⟩ : ∃ x, x = w.heap.size + 1 + 1 + 1 := ⟨_, rfl⟩
  have n1 : ab ≠ cb := by omega
  have n2 : bb ≠ cb := by omega
  have n3 : rb ≠ cb := by omega
  have n4 : ab ≠ rb := by omega
  have l1 : w.heap.size ≤ cb := by omega
  have l2 : w.heap.size ≤ rb := by omega
  rw [← hcb, ← hrb, ← hbb, ← hab]
  rw [← hab] at hA
  rw [← hbb] at hBb
  rw [← hrb] at hRb
  rw [← hcb] at hCb hfill
  have HA := hide hA
  have HB := hide hBb
  have HRb := hide hRb
  have HF := hide hfill
  have HBel := hide hbel
  have HL1 := hide l1
  have HL2 := hide l2
  have hcl := blk_lt hCb
  clear hw1 hA hBb hRb hCb hbel hfill hab hbb hrb hcb l1 l2
  go_loopg [8] 3 (fun gk v8 W => ∃ (i : Nat), i ≤ 3 ∧ gk = 3 - i ∧ v8 = .int .i64 i ∧ Hid (w1.grownBy W (some cb)) ∧ Hid (Fill W cb c (i * 3)))
  case atStart => exact ⟨0, by omega, rfl, rfl, World.grownBy.refl _ _, HF⟩
  case round =>
    clear HF
    obtain ⟨i, hi, hgk, rfl, HG, HF⟩ := hrel
    by_cases hlt : i < 3
    · go_wp2_with fail
      go_loopg [11] 3 (fun gk v11 W => ∃ (j : Nat), j ≤ 3 ∧ gk = 3 - j ∧ v11 = .int .i64 j ∧ Hid (w1.grownBy W (some cb)) ∧ Hid (Fill W cb c (i * 3 + j)))
      case atStart => exact ⟨0, by omega, rfl, rfl, HG, HF⟩
      case round =>
        clear HG HF
        obtain ⟨j, hj, hgk2, rfl, HG, HF⟩ := hrel
        by_cases hlt2 : j < 3
        · have wa : wr.heap[ab]? = some (.cells (affV a) 36 (0, 0)) := (HG.out.block ab (blk_lt HA.out) (by simpa using n1)).trans HA.out
          have wb : wr.heap[bb]? = some (.cells (affV b) 36 (0, 0)) := (HG.out.block bb (blk_lt HB.out) (by simpa using n2)).trans HB.out
          have a0 := blk_cell wa (affV_at a (j := i * 3) (by omega))
          have a1 := blk_cell wa (affV_at a (j := i * 3 + 1) (by omega))
          have a2 := blk_cell wa (affV_at a (j := i * 3 + 2) (by omega))
          have b0 := blk_cell wb (affV_at b (j := j) (by omega))
          have b1 := blk_cell wb (affV_at b (j := 3 + j) (by omega))
          have b2 := blk_cell wb (affV_at b (j := 6 + j) (by omega))
          obtain ⟨cur, hcur, hcs, hck, _⟩ := HF.out
          have c0 := blk_cell hcur (hck (i * 3 + j) (by omega))
          have cf := blk_frozen (o := i * 3 + j) hcur
          obtain ⟨p0, p1, p2, p3, e0, e1, e2, e3, e4⟩ := HR.out i j hlt hlt2
          have A0 := ar (op := .mul) e0
          have A1 := ar (op := .mul) e1
          have A2 := ar (op := .mul) e2
          have A3 := ar (op := .add) e3
          have A4 := ar (op := .add) e4
          generalize hc' : c (i * 3 + j) = cc at *
          have HC' := hide hc'
          have i3 : (i : Int) < 3 := by omega
          have j3 : (j : Int) < 3 := by omega
          clear wa wb hcur hcs hck e0 e1 e2 e3 e4 hc'
          generalize a (i * 3) = x0 at *
          generalize a (i * 3 + 1) = x1 at *
          generalize a (i * 3 + 2) = x2 at *
          generalize b j = y0 at *
          generalize b (3 + j) = y1 at *
          generalize b (6 + j) = y2 at *
          go_wp2_with fail
          refine wp_region_tail 40 mixed (by kernel_rfl) ?_
          simp only [List.take_succ_cons, List.take_zero, List.drop_succ_cons, List.drop_zero]
          repeat (go_big_quiet_step (fail))
          refine wpQuiet_nil ?_
          go_wp2_with fail
          go_roundg (3 - (j + 1))
          · refine ⟨j + 1, by omega, rfl, rfl, grown_draw (HG.out.trans (grown_cellSet _ _ _ _)), ?_⟩
            have hf := HF.out.set (by omega)
            rw [HC'.out] at hf
            exact hf
          · omega
        · obtain rfl : j = 3 := by omega
          go_wp2_with fail
          go_roundg (3 - (i + 1))
          · refine ⟨i + 1, by omega, rfl, rfl, HG, ?_⟩
            have hf := HF.out
            rw [show i * 3 + 3 = (i + 1) * 3 by omega] at hf
            exact hf
          · omega
    · obtain rfl : i = 3 := by omega
      have wa : wr.heap[ab]? = some (.cells (affV a) 36 (0, 0)) := (HG.out.block ab (blk_lt HA.out) (by simpa using n1)).trans HA.out
      have wb : wr.heap[bb]? = some (.cells (affV b) 36 (0, 0)) := (HG.out.block bb (blk_lt HB.out) (by simpa using n2)).trans HB.out
      have wrb : wr.heap[rb]? = some (.cells (affV fun _ => 0) 36 (0, 0)) := (HG.out.block rb (blk_lt HRb.out) (by simpa using n3)).trans HRb.out
      have b9 := blk_cell (o := 9) wb rfl
      have b10 := blk_cell (o := 10) wb rfl
      have b11 := blk_cell (o := 11) wb rfl
      have haff : Aff wr ab 0 a := ⟨blk_lt wa, fun j hj => by rw [Nat.zero_add]; exact blk_cell wa (affV_at a hj), blk_cell wa rfl, blk_cell wa rfl, blk_cell wa rfl⟩
      have hzz : D.add 0 0 = some 0 := by decide +kernel
      have hbelr : Below w.heap.size w wr := HBel.out.grown HG.out HBel.out.size (fun q hq => by cases hq; exact HL1.out)
      have HAff := hide haff
      have HBr := hide hbelr
      have HWr := hide wrb
      clear wa wb haff hbelr wrb
      go_wp2_with fail
      refine (point_run ab 0 a 0 0 0 0 0 0 0 0 0 wr HAff.out HZ0.out HZ1.out HZ2.out hzz hzz hzz).mono ?_
      rintro _ w2 ⟨rfl, hb2⟩
      obtain ⟨cur, hcur, hcs, hck, h9, h10, h11⟩ := HF.out
      have hcur2 := Below.blk hb2 hcur (blk_lt hcur)
      have hrb2 := Below.blk hb2 HWr.out (blk_lt HWr.out)
      have k9 := blk_cell hcur2 h9
      have k10 := blk_cell hcur2 h10
      have k11 := blk_cell hcur2 h11
      have f9 := blk_frozen (o := 9) hcur2
      have f10 := blk_frozen (o := 10) hcur2
      have f11 := blk_frozen (o := 11) hcur2
      have k0 := blk_cell hcur2 (hck 0 (by omega))
      have k1 := blk_cell hcur2 (hck 1 (by omega))
      have k2 := blk_cell hcur2 (hck 2 (by omega))
      have k3 := blk_cell hcur2 (hck 3 (by omega))
      have k4 := blk_cell hcur2 (hck 4 (by omega))
      have k5 := blk_cell hcur2 (hck 5 (by omega))
      have k6 := blk_cell hcur2 (hck 6 (by omega))
      have k7 := blk_cell hcur2 (hck 7 (by omega))
      have k8 := blk_cell hcur2 (hck 8 (by omega))
      simp only [show (0 : Nat) < 3 * 3 by omega, show (1 : Nat) < 3 * 3 by omega, show (2 : Nat) < 3 * 3 by omega, show (3 : Nat) < 3 * 3 by omega, show (4 : Nat) < 3 * 3 by omega, show (5 : Nat) < 3 * 3 by omega, show (6 : Nat) < 3 * 3 by omega, show (7 : Nat) < 3 * 3 by omega, show (8 : Nat) < 3 * 3 by omega, if_true] at k0 k1 k2 k3 k4 k5 k6 k7 k8
      have HRB2 := hide hrb2
      have HB2 := hide hb2
      clear hb2 hcur hcs hck hcur2 hrb2 h9 h10 h11
      go_wp2_with (refine wpList_store_blk rfl 36 _ _ rfl 36 _ (affV c) rb (by exact three_set HRB2.out n3) rfl rfl 12 size36 rfl rfl rfl ?_)
      have hfin := setRow_heap _ rb _ (affV c) 36 _ (three_set (i := 9) (j := 10) (k := 11) (x := .float .f64 0) (y := .float .f64 0) (z := .float .f64 0) HRB2.out n3)
      generalize hw3 : (((w2.setCell ⟨cb, 9, none⟩ (.float .f64 0)).setCell ⟨cb, 10, none⟩ (.float .f64 0)).setCell ⟨cb, 11, none⟩ (.float .f64 0)).setRow rb (affV c) = w3 at *
      have s0 := blk_cell (o := 0) hfin rfl
      have s1 := blk_cell (o := 1) hfin rfl
      have s2 := blk_cell (o := 2) hfin rfl
      have s3 := blk_cell (o := 3) hfin rfl
      have s4 := blk_cell (o := 4) hfin rfl
      have s5 := blk_cell (o := 5) hfin rfl
      have s6 := blk_cell (o := 6) hfin rfl
      have s7 := blk_cell (o := 7) hfin rfl
      have s8 := blk_cell (o := 8) hfin rfl
      have s9 := blk_cell (o := 9) hfin rfl
      have s10 := blk_cell (o := 10) hfin rfl
      have s11 := blk_cell (o := 11) hfin rfl
      have hbel3 : Below w.heap.size w w3 := by
        rw [← hw3]
        exact below_setRow ((((HBr.out.trans (HB2.out.mono HBr.out.size)).setCell (by exact HL1.out) _).setCell (by exact HL1.out) _).setCell (by exact HL1.out) _) HL2.out _
      refine bodyPost_ret (v := .agg (affV c)) (by simp [results, Ybad.results26, go_sem, affV, s0, s1, s2, s3, s4, s5, s6, s7, s8, s9, s10, s11]) rfl ⟨rfl, hbel3⟩

end Go.Proofs.YbulkdcwkDoor
