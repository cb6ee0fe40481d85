/-
  OWN WORK. The law.
-/
import Derived.Test.YbulkdddkFin
namespace Go.Proofs.Ybulkdddk
open Go.RowKit
set_option linter.unusedVariables false

/-- The script: the cells of the operations. -/
def Ops (w : World) (ao : Option Addr) (n : Nat) (op nd : Nat → Nat) (T : Nat → Int) : Prop :=
  ∀ i, i < n → ∃ b off, ao = some ⟨b, off, none⟩ ∧ b < w.heap.size ∧ w.cell? ⟨b, off + i * 3, none⟩ = some (.int .u8 (op i)) ∧ w.cell? ⟨b, off + i * 3 + 1, none⟩ = some (.int .u8 (nd i)) ∧ w.cell? ⟨b, off + i * 3 + 2, none⟩ = some (.int .i64 (T i))

theorem eqFunNil (fn : Fn) (a b : Array Value) (w : World) : (binOp .eql 1 (.func fn a b) .nilFunc).run Yba.prog w = .ok (.bool false) w := by kernel_rfl
attribute [local go_sem] eqFunNil neq48s neq48n

theorem madeSize {z : Array Value} {n : Nat} : (madeCells z n).size = n := size_madeCells z n

theorem Slots.made {w : World} {B g k : Nat} {xs : List Value} (h : w.ownsRow B 87 3 (.slice (some ⟨g, 0, none⟩) k k) k xs) : Slots w g k := by
  rcases h.2 with ⟨h1, _⟩ | ⟨g', cap, cur, hv, _, hg, _, _, hs, ht⟩
  · simp at h1
  · simp at hv
    obtain ⟨rfl, rfl⟩ := hv
    exact ⟨cur, hg, hs⟩

theorem S3.drewN {c : Cs} {W : World} {k ge : Nat} {f : Nat → Ev} {bx : Nat → Box} {life : Nat → Nat} {co : Nat → Option Addr} (h : S3 c W k ge f bx life co) (d : Nat) : S3 c (W.drewN d) k ge f bx life co :=
  ⟨⟨h.fix.nb, h.fix.rb⟩, h.nd, fun id hid => ⟨(h.bxs id hid).bn, (h.bxs id hid).bl, (h.bxs id hid).br, (h.bxs id hid).ib, (h.bxs id hid).wh, (h.bxs id hid).Ml, (h.bxs id hid).Mi⟩, h.ts, h.wh, h.lf, h.ev, h.M⟩

set_option maxRecDepth 100000 in
set_option maxHeartbeats 4000000 in
theorem gate_run (ao : Option Addr) (n cap : Nat) (up : Bool) (op nd : Nat → Nat) (T : Nat → Int) (w : World) (hn : n ≤ 1024) (hops : Ops w ao n op nd T) (h255 : ∀ i, op i ≤ 255 ∧ nd i ≤ 255) : Calls Yba.prog 3 #[.slice ao n cap, .bool up] w fun r w' => r = .returned (.bool true) ∧ Below w.heap.size w w' := by
  obtain ⟨B, hB⟩ : ∃ B, B = w.heap.size := ⟨_, rfl⟩
  rw [← hB]
  have HBe := hid_of hB
  have HO := hid_of hops
  clear hB hops
  obtain ⟨cs80, hb80⟩ := build80
  have HB80 := hid_of hb80
  clear hb80
  obtain ⟨i3, hi3, h30, h31, h32⟩ := info_parts info3
  obtain ⟨i2, hi2, h20, h21, h22⟩ := info_parts info2
  have hml : n ≤ maxLen := by unfold maxLen; omega
  go_enter Yba.func3, Yba.ntmps3
  go_wp2_with fail
  rw [← HBe.out]
  have hstart : Nv B B (B + 1) ((w.alloc (.cells #[.int .i64 0, .slice none 0 0, .int .u64 0, .slice none 0 0, .map none, .map none, .float .f64 0, .bool false, .bool false, .int .u64 0, .pointer none, .pointer none, .int .u64 0, .slice none 0 0, .int .i64 0, .int .i8 0, .pointer none] 43)).alloc (.cells #[.pointer none, .pointer none] 45)) 0 (fun _ => 0) (fun _ => none) := by
    rw [HBe.out]
    refine ⟨⟨_, (Below.heap_alloc _ _ _ (by simp)).trans (new_block _ _), rfl, rfl⟩, ⟨#[.pointer none, .pointer none], ?_, rfl, fun q hq => absurd hq (Nat.not_lt_zero _)⟩, fun q hq => absurd hq (Nat.not_lt_zero _), fun q hq => absurd hq (Nat.not_lt_zero _), fun q _ hq => absurd hq (Nat.not_lt_zero _)⟩
    have := new_block (w.alloc (.cells #[.int .i64 0, .slice none 0 0, .int .u64 0, .slice none 0 0, .map none, .map none, .float .f64 0, .bool false, .bool false, .int .u64 0, .pointer none, .pointer none, .int .u64 0, .slice none 0 0, .int .i64 0, .int .i8 0, .pointer none] 43)) (.cells #[.pointer none, .pointer none] 45)
    simpa using this
  have hbel : Below B w ((w.alloc (.cells #[.int .i64 0, .slice none 0 0, .int .u64 0, .slice none 0 0, .map none, .map none, .float .f64 0, .bool false, .bool false, .int .u64 0, .pointer none, .pointer none, .int .u64 0, .slice none 0 0, .int .i64 0, .int .i8 0, .pointer none] 43)).alloc (.cells #[.pointer none, .pointer none] 45)) := by
    rw [HBe.out]
    exact ((Below.refl _ _).alloc (Nat.le_refl _) _).alloc (by simp) _
  have HS := hid_of hstart
  have HL := hid_of hbel
  clear hstart hbel
  go_loopg [7] 2 (fun gk jv W => ∃ (i : Nat) (nds : Nat → Nat) (co : Nat → Option Addr), i ≤ 2 ∧ gk = 2 - i ∧ jv = .int .i64 i ∧ Hid (Nv B B (B + 1) W i nds co) ∧ Hid (Below B w W))
  case atStart => exact ⟨0, _, _, by omega, rfl, rfl, HS, HL⟩
  case round =>
    obtain ⟨i, nds, co, hi, hgk, rfl, HN, HL⟩ := hrel
    by_cases hlt : i < 2
    · obtain ⟨P, hp, hps, hpq⟩ := HN.out.nb
      have hnl := lt_of_heap hp
      have hBl : B ≤ wr.heap.size := by omega
      have c1 : wr.cell? ⟨B + 1, i, none⟩ = some (P[i]'(by omega)) := cell_of_blk hp (by simp [hps, hlt])
      have f1 : wr.frozen? ⟨B + 1, i, none⟩ = false := frozen_of_blk hp
      clear hp hpq
      cases up
      · go_wp2_with fail
        go_roundg (2 - (i + 1))
        · refine ⟨i + 1, _, _, by omega, rfl, by rfl, HN.out.step hlt hBl _ rfl (co' := none) rfl, ?_⟩
          exact ((HL.out).setCell (show B ≤ B + 1 by omega) _).alloc (by simp [World.setCell]; omega) _
        · omega
      · go_wp2_with (refine wpList_build80 rfl rfl cs80 HB80.out ?_)
        go_roundg (2 - (i + 1))
        · refine ⟨i + 1, _, _, by omega, rfl, by rfl, (HN.out.step hlt hBl _ rfl (co' := some ⟨wr.heap.size + 1, 0, none⟩) rfl).alloc _, ?_⟩
          exact (((HL.out).setCell (show B ≤ B + 1 by omega) _).alloc (by simp [World.setCell]; omega) _).alloc (by simp [World.setCell]; omega) _
        · omega
    · obtain rfl : i = 2 := by omega
      obtain ⟨C0, hcb0, _⟩ := HN.out.cb
      have hBl : B ≤ wr.heap.size := Nat.le_of_lt (lt_of_heap hcb0)
      clear hcb0
      go_wp2_with (at_make; refine wpList_make_full _ rfl _ _ 81 rfl B 3 i3 _ 1 Yba.underlying81 hi3 h30 h31 _ _ _ _ n rfl rfl rfl rfl (by rw [h32]; omega) hml hBl ?_)
      intro w1 o1 g1
      have O1 := hid_of o1
      have G1 := hid_of g1
      have hB1 : B ≤ w1.heap.size := Nat.le_trans hBl g1.size
      clear o1 g1
      go_wp2_with (at_make; refine wpList_make_own _ rfl _ _ 82 rfl B 2 i2 _ 1 Yba.underlying82 hi2 h20 h21 _ _ _ n rfl rfl rfl (by rw [h22]; omega) hml (by simp; omega) ?_)
      intro w3 o3 g3
      have O3 := hid_of o3
      have G3 := hid_of g3
      have hB3 : B ≤ w3.heap.size := by
        have := g3.size
        simp at this
        omega
      clear o3 g3
      go_wp2_with (at_make; refine wpList_make_own _ rfl _ _ 81 rfl B 3 i3 _ 1 Yba.underlying81 hi3 h30 h31 _ _ _ n rfl rfl rfl (by rw [h32]; omega) hml hB3 ?_)
      intro w4 o4 g4
      have O4 := hid_of o4
      have G4 := hid_of g4
      have hB4 : B ≤ w4.heap.size := Nat.le_trans hB3 g4.size
      clear o4 g4
      go_wp2_with (at_make; refine wpList_make_own _ rfl _ _ 81 rfl B 3 i3 _ 1 Yba.underlying81 hi3 h30 h31 _ _ _ n rfl rfl rfl (by rw [h32]; omega) hml hB4 ?_)
      intro w5 o5 g5
      have O5 := hid_of o5
      have G5 := hid_of g5
      clear o5 g5
      go_wp2_with fail
      obtain ⟨w2, e2⟩ : ∃ w2, w2 = w1.alloc (.cells #[.slice (some ⟨wr.heap.size, 0, none⟩) n n] 81) := ⟨_, rfl⟩
      obtain ⟨c, ec1, ec2, ec3, ec4, ec5, ec6, ec7, ec8, hcok, hbel, C1, hsc⟩ := Sc.start (w2 := w2) HN.out hn O1.out G1.out e2 (by rw [e2]; simpa using O3.out) (by rw [e2]; exact G3.out) O4.out G4.out O5.out G5.out
      have es : w1.heap.size + 1 = c.tb := by rw [ec5, e2]; simp
      have HSc := hid_of hsc
      have HL5 := hid_of (HL.out.trans hbel)
      have HCk := hid_of hcok
      rw [es, ← ec3, ← ec4, ← ec6, ← ec7, ← ec2]
      clear hsc hbel hcok O1 G1 O3 G3 O4 G4 O5 G5 HL HN HS
      have HcB := hid_of ec8
      clear ec2 ec3 ec4 ec5 ec6 ec7 ec8 es e2 hBl hB1 hB3 hB4
      subst ec1
      go_loopg [9, 10, 11, 12, 62] c.n (fun gk v9 v10 v11 v12 v62 W => ∃ (i k : Nat) (bx : Nat → Box) (life : Nat → Nat) (co : Nat → Option Addr) (so : Option Addr) (cap' : Nat) (C : Array Value), i ≤ c.n ∧ k ≤ i ∧ gk = c.n - i ∧ v9 = .slice (some ⟨c.tb, 0, none⟩) k c.n ∧ v10 = .slice (some ⟨c.wb, 0, none⟩) k c.n ∧ v11 = .slice (some ⟨c.lb, 0, none⟩) k c.n ∧ v12 = .int .i64 k ∧ v62 = .int .i64 i ∧ Hid (Sc c W i k k k k bx life co so cap' C) ∧ Hid (Below B w W))
      case atStart => exact ⟨0, 0, _, _, _, _, _, _, Nat.zero_le _, Nat.le_refl _, rfl, rfl, rfl, rfl, rfl, rfl, HSc, HL5⟩
      case round =>
        clear HSc HL5
        obtain ⟨i, k, bx, life, co, so, capq, C, hi, hki, hgk, rfl, rfl, rfl, rfl, rfl, HSc, HL⟩ := hrel
        by_cases hlt : i < c.n
        · obtain ⟨b, off, rfl, hb, o0, o1, o2⟩ := HO.out i hlt
          have hbB : b < B := by rw [HBe.out]; exact hb
          have q0 := (HL.out.cell (p := ⟨b, off + i * 3, none⟩) hbB).trans o0
          have q1 := (HL.out.cell (p := ⟨b, off + i * 3 + 1, none⟩) hbB).trans o1
          have q2 := (HL.out.cell (p := ⟨b, off + i * 3 + 2, none⟩) hbB).trans o2
          obtain ⟨h1, h2⟩ := h255 i
          obtain ⟨x, hx⟩ : ∃ x, x = nd i % 2 := ⟨_, rfl⟩
          have hx2 : x < 2 := by omega
          have hm2 : ((nd i : Nat) : Int).tmod 2 = (x : Int) := by rw [Int.tmod_eq_emod_of_nonneg (by omega)]; omega
          clear hb o0 o1 o2 hx
          generalize op i = y at *
          generalize nd i = z at *
          generalize T i = t at *
          have hBw : B ≤ wr.heap.size := by rw [← HcB.out]; exact Nat.le_trans HCk.out.BM HSc.out.M
          have cn := HSc.out.fix.node hx2
          have hnl := lt_of_heap HSc.out.fix.nb
          obtain ⟨N, hN, hN5, hN6⟩ := HSc.out.nd x hx2
          have cL := cell_of_blk hN hN5
          have cC := cell_of_blk hN hN6
          have fL := frozen_of_blk (o := 5) hN
          have fC := frozen_of_blk (o := 6) hN
          have hNl := lt_of_heap hN
          have hli := HSc.out.li x hx2
          have HN := hid_of hN
          have HN5 := hid_of hN5
          have HN6 := hid_of hN6
          clear hN hN5 hN6
          have hy : y % 3 = 0 ∨ y % 3 = 1 ∨ y % 3 = 2 := by omega
          rcases hy with hy | hy | hy
          · have hm3 : ((y : Nat) : Int).tmod 3 = 0 := by rw [Int.tmod_eq_emod_of_nonneg (by omega)]; omega
            clear hy
            go_wp2_with fail
            obtain ⟨wa, hwa⟩ : ∃ wa, wa = wr.alloc (.cells #[.int .u8 y, .int .u8 z, .int .i64 t] 84) := ⟨_, rfl⟩
            obtain ⟨wb, hwb⟩ : ∃ wb, wb = wa.alloc (.cells #[.int .i64 k] 3) := ⟨_, rfl⟩
            have sa : wa.heap.size = wr.heap.size + 1 := by rw [hwa]; simp
            have hsc : Sc c wb i k k k k bx life co so capq C := by rw [hwb, hwa]; exact (HSc.out.alloc _).alloc _
            have hbel : Below B w wb := by
              rw [hwb, hwa]
              exact (HL.out.alloc (by omega) _).alloc (by simp; omega) _
            have hob : wb.heap[wr.heap.size]? = some (.cells #[.int .u8 y, .int .u8 z, .int .i64 t] 84 (0, 0)) := by
              rw [hwb]
              exact (Kn.alloc _ _) _ _ _ (by rw [hwa]; exact new_block _ _) trivial
            have hib : wb.heap[wr.heap.size + 1]? = some (.cells #[.int .i64 k] 3 (0, 0)) := by
              rw [hwb, ← sa]
              exact new_block _ _
            have hMi : c.M ≤ wr.heap.size + 1 := Nat.le_succ_of_le HSc.out.M
            have hBb : c.B ≤ wb.heap.size := by rw [HcB.out]; exact Nat.le_trans (by rw [HBe.out]; exact Nat.le_refl _) hbel.size
            rw [← hwa, ← hwb]
            generalize wr.heap.size + 1 = ib at *
            generalize wr.heap.size = ob at *
            clear hwa hwb sa HSc HL q0 q1 q2 cn HN HN5 HN6 cL cC fL fC hNl hnl
            obtain ⟨f, hp, hq⟩ := hsc.qu.q
            obtain ⟨N, hN, hN5, hN6⟩ := hsc.nd x hx2
            refine (on_run c.B c.cb k capq (c.nds x) so C N f t (life x) k _ wb hsc.qu.cb hsc.qu.c1 hsc.qu.c2 (by omega) hq hBb HCk.out.Bcb (by omega) hN hN5).mono ?_
            rintro _ w2 ⟨rfl, hon⟩
            obtain ⟨x1, so', cap', C', ex1, ex2, ex3, hsc2, hkp⟩ := hsc.on HCk.out hp hx2 hib hMi hon
            have hob2 := hkp.keep _ _ _ hob (by decide) (by decide)
            have hT := cell_of_blk (o := 2) hob2 rfl
            have hbel2 : Below B w w2 := hbel.trans (by rw [← HcB.out]; exact hkp.below)
            have H2 := hid_of hsc2
            have HO2 := hid_of hob2
            have HB2 := hid_of hbel2
            obtain ⟨xs, hown, hxl, hxs⟩ := (hsc2.alloc (.cells #[.int .i64 t] 2)).ts.own HCk.out.Btb
            have HX := hid_of hxs
            have HW := hid_of hown
            have hB2 : c.B ≤ w2.heap.size := Nat.le_trans hBb hkp.below.size
            clear hsc hbel hob hib hp hq hN hN5 hN6 hon hsc2 hkp hob2 hbel2 hown hxs hMi hBb
            go_wp2_with (at_builtin; refine wpList_append_fits _ rfl _ _ 82 rfl c.B 2 i2 1 Yba.underlying82 hi2 h21 c.tb k c.n xs rfl (by exact HW.out) ⟨w2.heap.size, 0, none⟩ 1 1 [.int .i64 t] rfl rfl (by exact new_cells _ _ _) (by simp [Value.oneCell']) (by omega) ?_)
            intro w3 hown3 hg3
            have hsc3 := (H2.out.alloc (.cells #[.int .i64 t] 2)).row_t HCk.out hg3 ((Ro.of_own hown3 hxl HX.out).congr (fun j hj => by
              by_cases e : j = k
              · subst e; rw [updB_at, ex1]; simp
              · simp [e]))
            have hbel3 : Below B w w3 := by
              rw [← HcB.out] at HB2 ⊢
              exact (HB2.out.alloc hB2 _).grown hg3 (by simp; omega) (fun q hq => by cases hq; exact HCk.out.Btb)
            have hB3 : c.B ≤ w3.heap.size := by
              have := hg3.size
              simp at this
              omega
            obtain ⟨ys, hown4, hyl, hys⟩ := (hsc3.alloc (.cells #[.int .i64 x] 3)).wh.own HCk.out.Bwb
            have H3 := hid_of hsc3
            have HB3 := hid_of hbel3
            have HY := hid_of hys
            have HW4 := hid_of hown4
            clear hown3 hg3 hsc3 hbel3 hown4 hys hT HO2 H2 HB2 HX HW hxl xs
            go_wp2_with (at_builtin; refine wpList_append_fits _ rfl _ _ 81 rfl c.B 3 i3 1 Yba.underlying81 hi3 h31 c.wb k c.n ys rfl (by exact HW4.out) ⟨w3.heap.size, 0, none⟩ 1 1 [.int .i64 x] rfl rfl (by exact new_cells _ _ _) (by simp [Value.oneCell']) (by omega) ?_)
            intro w4 hown5 hg4
            have hsc4 := (H3.out.alloc (.cells #[.int .i64 x] 3)).row_w HCk.out hg4 ((Ro.of_own hown5 hyl HY.out).congr (fun j hj => by
              by_cases e : j = k
              · subst e; rw [updB_at, ex2]; simp
              · simp [e]))
            have hbel4 : Below B w w4 := by
              rw [← HcB.out] at HB3 ⊢
              exact (HB3.out.alloc hB3 _).grown hg4 (by simp; omega) (fun q hq => by cases hq; exact HCk.out.Bwb)
            have hB4 : c.B ≤ w4.heap.size := by
              have := hg4.size
              simp at this
              omega
            obtain ⟨N, hN, hN5, hN6⟩ := hsc4.nd x hx2
            have cL := cell_of_blk hN hN5
            obtain ⟨zs, hown6, hzl, hzs⟩ := (hsc4.alloc (.cells #[.int .i64 (life x)] 3)).lf.own HCk.out.Blb
            have H4 := hid_of hsc4
            have HB4 := hid_of hbel4
            have HZ := hid_of hzs
            have HW6 := hid_of hown6
            clear hown5 hg4 hsc4 hbel4 hown6 hzs H3 HB3 HY HW4 hyl ys hN hN5 hN6
            go_wp2_with (at_builtin; refine wpList_append_fits _ rfl _ _ 81 rfl c.B 3 i3 1 Yba.underlying81 hi3 h31 c.lb k c.n zs rfl (by exact HW6.out) ⟨w4.heap.size, 0, none⟩ 1 1 [.int .i64 (life x)] rfl rfl (by exact new_cells _ _ _) (by simp [Value.oneCell']) (by omega) ?_)
            intro w5 hown7 hg5
            have hsc5 := (H4.out.alloc (.cells #[.int .i64 (life x)] 3)).row_l HCk.out hg5 ((Ro.of_own hown7 hzl HZ.out).congr (fun j hj => by
              by_cases e : j = k
              · subst e; rw [updB_at, ex3]; simp
              · simp [e]))
            have hbel5 : Below B w w5 := by
              rw [← HcB.out] at HB4 ⊢
              exact (HB4.out.alloc hB4 _).grown hg5 (by simp; omega) (fun q hq => by cases hq; exact HCk.out.Blb)
            have H5 := hid_of hsc5
            have HB5 := hid_of hbel5
            clear hown7 hg5 hsc5 hbel5 H4 HB4 HZ HW6 hzl zs cL
            go_wp2_with fail
            go_roundg (c.n - (i + 1))
            · exact ⟨i + 1, k + 1, _, _, _, _, _, _, by omega, by omega, rfl, rfl, rfl, rfl, rfl, rfl, H5.out.step, HB5.out⟩
            · omega
          · have hm3 : ((y : Nat) : Int).tmod 3 = 1 := by rw [Int.tmod_eq_emod_of_nonneg (by omega)]; omega
            clear hy
            go_wp2_with fail
            go_roundg (c.n - (i + 1))
            · refine ⟨i + 1, k, bx, _, _, so, capq, C, by omega, by omega, rfl, rfl, rfl, rfl, rfl, by rfl, (HSc.out.node HCk.out hx2 (lf' := life x) (co' := none) (Kn.setCell _ _ _ _) (by simp [World.setCell]) (by omega) ⟨_, heap_setCell_at HN.out, ?_, ?_⟩).alloc _, ?_⟩
              · rw [Array.getElem?_setIfInBounds, if_neg (by decide)]; exact HN5.out
              · have : 6 < N.size := (Array.getElem?_eq_some_iff.1 HN6.out).1
                simp [this]
              · refine (HL.out.setCell ?_ _).alloc (by simp [World.setCell]; omega) _
                have := Cs.nds_B HCk.out x
                rw [HcB.out] at this
                exact this
            · omega
          · have hm3 : ((y : Nat) : Int).tmod 3 = 2 := by rw [Int.tmod_eq_emod_of_nonneg (by omega)]; omega
            clear hy
            go_wp2_with (refine wpList_build80 rfl rfl cs80 HB80.out ?_)
            go_roundg (c.n - (i + 1))
            · refine ⟨i + 1, k, bx, _, _, so, capq, C, by omega, by omega, rfl, rfl, rfl, rfl, rfl, by rfl, ((HSc.out.node HCk.out hx2 (lf' := life x + 1) (co' := some ⟨wr.heap.size + 1, 0, none⟩) ((Kn.setCell _ _ _ _).trans (Kn.setCell _ _ _ _)) (by simp [World.setCell]) (by omega) ⟨_, heap_setCell_at (heap_setCell_at HN.out), ?_, ?_⟩).alloc _).alloc _, ?_⟩
              · have : 5 < N.size := (Array.getElem?_eq_some_iff.1 HN5.out).1
                simp [this]
              · have : 6 < N.size := (Array.getElem?_eq_some_iff.1 HN6.out).1
                rw [Array.getElem?_setIfInBounds, if_neg (by decide)]
                simp [this]
              · have := Cs.nds_B HCk.out x
                rw [HcB.out] at this
                exact (((HL.out.setCell (by exact this) _).setCell (by exact this) _).alloc (by simp [World.setCell]; omega) _).alloc (by simp [World.setCell]; omega) _
            · omega
        · obtain rfl : i = c.n := by omega
          have c1 := cell_of_blk HSc.out.qu.cb HSc.out.qu.c1
          have c2 := cell_of_blk HSc.out.qu.cb HSc.out.qu.c2
          have hBw : B ≤ wr.heap.size := by rw [← HcB.out]; exact Nat.le_trans HCk.out.BM HSc.out.M
          have hkm : k ≤ maxLen := by omega
          obtain ⟨i87, hi87, h870, h871, h872⟩ := info_parts info87
          have hkk : ((k : Int) == (k : Int)) = true := by simp
          go_wp2_with (at_make; refine wpList_make_full _ rfl _ _ 24 rfl B 87 i87 _ 3 Yba.underlying24 hi87 h870 h871 _ _ _ _ k rfl rfl rfl rfl (by rw [h872]; omega) hkm hBw ?_)
          intro w6 o6 g6
          have hsl := Slots.made o6
          obtain ⟨f, hp, hq⟩ := HSc.out.qu.q
          have k6 := Kn.grown0 g6
          have d1 := cell_of_blk (k6 _ _ _ HSc.out.qu.cb trivial) HSc.out.qu.c1
          have HQ := hid_of (hq.kept k6 (fun _ => trivial))
          have HSl := hid_of hsl
          have HK6 := hid_of k6
          have HP := hid_of hp
          have HL6 := hid_of (HL.out.grown g6 hBw (fun q hq => by cases hq))
          have hs6 := g6.size
          have HS6 := hid_of hs6
          clear o6 g6 hsl hp hq k6 c1 c2 hs6
          go_wp2_with (refine wpList_copy_ev rfl (.tmp 140) (.tmp 144) rfl wr.heap.size k capq c.B so f rfl rfl (by exact HQ.out) (by exact HSl.out) hkm ?_)
          intro w7 he7 g7
          obtain ⟨cur7, hb7, _⟩ := HSl.out
          have k7 := ((Kn.grown g7).ty hb7).mono (ok' := fun b t => t ≠ 87) (fun b t h => .inl h)
          obtain ⟨hs3, hr3⟩ := HSc.out.over (f := f) ((HK6.out.mono (fun _ _ _ => trivial)).trans k7) (Nat.le_trans HS6.out g7.size) he7
          have HS3 := hid_of hs3
          have HR3 := hid_of hr3
          have HL7 := hid_of (HL6.out.grown g7 (Nat.le_trans hBw HS6.out) (fun q hq => by cases hq; exact hBw))
          obtain ⟨σ, τ, hst, hfe⟩ := HP.out
          have HST := hid_of hst
          have HFE := hid_of hfe
          generalize hge : wr.heap.size = ge at *
          clear he7 g7 hb7 k7 hs3 hr3 hst hfe hge HSc HL HL6 HQ HSl HK6 HP HS6 d1
          go_wp2_with fail
          go_loopg [148] k (fun gk v148 W => ∃ (p : Nat), p ≤ k ∧ gk = k - p ∧ v148 = .int .i64 p ∧ Hid (S3 c W k ge f bx life co) ∧ Hid (RowI W c.rr 3 .i64 c.n (cnt k τ bx life co p)) ∧ Hid (Below B w W))
          case atStart => exact ⟨0, Nat.zero_le _, rfl, rfl, HS3, HR3.out.congr (fun j _ => (cnt_zero j).symm), HL7⟩
          case round =>
            clear HS3 HR3 HL7
            obtain ⟨p, hp, hgk, rfl, HS3, HR3, HL7⟩ := hrel
            by_cases hlt3 : p < k
            · obtain ⟨a1, a2, a3, a4⟩ := HST.out p hlt3
              have hfp := HFE.out p hlt3
              obtain ⟨e0, e1, e2⟩ := HS3.out.ev.cells hlt3
              rw [hfp] at e0 e1 e2
              unfold evOf at e0 e1 e2
              dsimp only at e0 e1 e2
              obtain ⟨id, hid⟩ : ∃ id, id = σ p := ⟨_, rfl⟩
              rw [← hid] at e0 e1 e2 a1
              have ht := HS3.out.ts.cell a1
              have Hid' := hid_of hid
              clear hid hfp a2 a3 a4
              have hBw : B ≤ wr.heap.size := by rw [← HcB.out]; exact Nat.le_trans HCk.out.BM HS3.out.M
              obtain ⟨curt, hcurt⟩ := HS3.out.ts.blk
              have htl := lt_of_heap hcurt
              have hidk : (id : Int) < (k : Int) := by omega
              clear hcurt
              go_wp2_with fail
              go_quiet (fail)
              go_wp2_with fail
              obtain ⟨w8, hw8⟩ : ∃ w8, w8 = ((wr.alloc (.cells #[.int .i64 (bx id).T, .int .u64 ((id : Int) + 1), .func (.func 7) #[] #[.pointer (some ⟨(bx id).bn, 0, none⟩), .pointer (some ⟨(bx id).bl, 0, none⟩), .pointer (some ⟨(bx id).br, 0, none⟩)]] 87)).drewN nq) := ⟨_, rfl⟩
              have hs8 : S3 c w8 k ge f bx life co := by rw [hw8]; exact (HS3.out.alloc _).drewN _
              have hr8 : RowI w8 c.rr 3 .i64 c.n (cnt k τ bx life co p) := by rw [hw8]; exact HR3.out.keptN (Kn.alloc _ _) trivial
              have hl8 : Below B w w8 := by
                rw [hw8]
                have h := HL7.out.alloc hBw (.cells #[.int .i64 (bx id).T, .int .u64 ((id : Int) + 1), .func (.func 7) #[] #[.pointer (some ⟨(bx id).bn, 0, none⟩), .pointer (some ⟨(bx id).bl, 0, none⟩), .pointer (some ⟨(bx id).br, 0, none⟩)]] 87)
                exact ⟨h.os, h.tape, h.output, h.size, h.block⟩
              rw [← hw8]
              have hbx := hs8.bxs id a1
              obtain ⟨N, hN, hN5, hN6⟩ := hs8.nd _ hbx.wh
              refine (lit_run (bx id).bn (bx id).bl (bx id).br c.rb (bx id).ib c.rr c.n c.n id (c.nds (bx id).wh) (co (bx id).wh) (life (bx id).wh) (bx id).lf (cnt k τ bx life co p) w8 (cell_of_blk hbx.bn rfl) (cell_of_blk hbx.bl rfl) (cell_of_blk hbx.br rfl) (cell_of_blk hN hN5) (cell_of_blk hN hN6) hs8.fix.runs (cell_of_blk hbx.ib rfl) hr8 (by omega) hn (cnt_range p id)).mono ?_
              rintro _ w9 ⟨rfl, hrow9, hg9⟩
              have HS9 := hid_of (hs8.runs HCk.out hr8 hg9)
              have HL9 := hid_of (hl8.grown hg9 (Nat.le_trans (by rw [HBe.out]; exact Nat.le_refl _) hl8.size) (fun q hq => by cases hq; rw [← HcB.out]; exact HCk.out.Brr))
              have HR9 := hid_of (hrow9.congr (g := cnt k τ bx life co (p + 1)) (fun j _ => by
                have hs := cnt_step (bx := bx) (life := life) (co := co) HST.out hlt3 j
                rw [← Hid'.out] at hs
                rw [← hs]
                by_cases hh : j = id ∧ Cond bx life co id
                · rw [if_pos hh]; exact if_pos hh
                · rw [if_neg hh]; exact if_neg hh))
              clear hrow9 hg9 hw8 hs8 hr8 hl8 hbx hN hN5 hN6 e0 e1 e2 ht HS3 HR3 HL7
              go_wp2_with fail
              go_roundg (k - (p + 1))
              · exact ⟨p + 1, by omega, rfl, rfl, HS9, HR9, HL9⟩
              · omega
            · obtain rfl : p = k := by omega
              go_wp2_with fail
              go_loopg [23] p (fun gk v23 W => ∃ (id d : Nat), id ≤ p ∧ gk = p - id ∧ v23 = .int .i64 id ∧ W = wr.drewN d)
              case atStart => exact ⟨0, 0, Nat.zero_le _, rfl, rfl, rfl⟩
              case round =>
                obtain ⟨id, d, hid, hgk4, rfl, rfl⟩ := hrel
                by_cases hlt4 : id < p
                · have hwh := HS3.out.wh.cell hlt4
                  have hlf := HS3.out.lf.cell hlt4
                  have hx2 := (HS3.out.bxs id hlt4).wh
                  have cn := HS3.out.fix.node hx2
                  have crb := HS3.out.fix.runs
                  obtain ⟨N, hN, hN5, hN6⟩ := HS3.out.nd _ hx2
                  have cL := cell_of_blk hN hN5
                  have cC := cell_of_blk hN hN6
                  have hrw := HR3.out.cell (show id < c.n by omega)
                  rw [cnt_end HST.out hlt4] at hrw
                  clear hN hN5 hN6
                  have hidk : (id : Int) < (p : Int) := by omega
                  have hidn : (id : Int) < (c.n : Int) := by omega
                  cases hco : co (bx id).wh with
                  | none =>
                    have hnc : ¬ Cond bx life co id := fun h => by have := h.1; rw [hco] at this; cases this
                    rw [if_neg hnc] at hrw
                    rw [hco] at cC
                    go_wp2_with (go_quiet (fail))
                    go_roundg (p - (id + 1))
                    · exact ⟨id + 1, _, by omega, rfl, rfl, rfl⟩
                    · omega
                  | some a =>
                    rw [hco] at cC
                    by_cases hll : (life (bx id).wh : Int) = ((bx id).lf : Int)
                    · have hcd : Cond bx life co id := ⟨by rw [hco]; rfl, hll⟩
                      rw [if_pos hcd] at hrw
                      rw [← hll] at hlf
                      have hll' := hid_of hll
                      clear hll
                      go_wp2_with (go_quiet (fail))
                      go_roundg (p - (id + 1))
                      · exact ⟨id + 1, _, by omega, rfl, rfl, rfl⟩
                      · omega
                    · have hnc : ¬ Cond bx life co id := fun h => hll h.2
                      rw [if_neg hnc] at hrw
                      have hdl : decide ((life (bx id).wh : Int) = ((bx id).lf : Int)) = false := decide_eq_false hll
                      go_wp2_with (go_quiet (fail))
                      go_roundg (p - (id + 1))
                      · exact ⟨id + 1, _, by omega, rfl, rfl, rfl⟩
                      · omega
                · go_wp2_with fail
                  go_ret
                  exact ⟨rfl, ⟨HL7.out.os, HL7.out.tape, HL7.out.output, HL7.out.size, HL7.out.block⟩⟩

set_option maxRecDepth 100000 in
set_option maxHeartbeats 400000 in
theorem gate_long (ao : Option Addr) (n cap : Nat) (up : Bool) (w : World) (hn : 1024 < n) : Calls Yba.prog 3 #[.slice ao n cap, .bool up] w fun r w' => r = .returned (.bool true) ∧ Below w.heap.size w w' := by
  have h : (1024 : Int) < (n : Int) := by omega
  go_enter Yba.func3, Yba.ntmps3
  go_wp2_with fail
  go_ret
  exact ⟨rfl, Below.refl _ _⟩

end Go.Proofs.Ybulkdddk
