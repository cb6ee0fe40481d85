/-
  OWN WORK. The walk of 'LawS5210BPatternGradient' where every number is in its bounds.
-/
import Derived.Test.YbulkdcwkDoorGrad
import Derived.Test.YbulkdcwkDoorPig
import Derived.Test.YbulkdcwkDoorPlan
import Derived.Test.YbulkdcwkDoorBuild2
namespace Go.Proofs.YbulkdcwkDoor
open Go.RowKit
set_option linter.unusedVariables false
attribute [local go_sem] run_store_float run_equalIn_float

/-- The axis, the sign and the coordinate that it picks. -/
def AxOk (sgn g0 g1 g2 X px py pz : Nat) : Prop := NotZero g0 g1 g2 ∧ ∀ sc S, Sca sc S → Plain sgn g0 g1 g2 X px py pz sc S

set_option maxRecDepth 100000 in
set_option maxHeartbeats 2000000 in
theorem grad_in (a0 a1 : Int) (px py pz r g b r' g' b' : Nat) (w : World) (hid : Ident w 4607182418800017408 0 0 0 4607182418800017408 0 0 0 4607182418800017408) (ha0 : 0 ≤ a0 ∧ a0 ≤ 255) (ha1 : 0 ≤ a1 ∧ a1 ≤ 255) (l0 : px < 2 ^ 64) (l1 : py < 2 ^ 64) (l2 : pz < 2 ^ 64) (l3 : r < 2 ^ 64) (l4 : g < 2 ^ 64) (l5 : b < 2 ^ 64) (l6 : r' < 2 ^ 64) (l7 : g' < 2 ^ 64) (l8 : b' < 2 ^ 64) (h0 : inB px 4741671816366391296 = true) (h1 : inB py 4741671816366391296 = true) (h2 : inB pz 4741671816366391296 = true) (h3 : inB r 4696837146684686336 = true) (h4 : inB g 4696837146684686336 = true) (h5 : inB b 4696837146684686336 = true) (h6 : inB r' 4696837146684686336 = true) (h7 : inB g' 4696837146684686336 = true) (h8 : inB b' 4696837146684686336 = true) :
    Calls Ybad.prog 4 #[.int .u8 a0, .int .u8 a1, .float .f64 px, .float .f64 py, .float .f64 pz, .float .f64 r, .float .f64 g, .float .f64 b, .float .f64 r', .float .f64 g', .float .f64 b'] w fun e w' => e = .returned (.bool true) ∧ Below w.heap.size w w' := by
  have HID := hide hid
  clear hid
  have B0 := hide (in_fb (K := 30) l0 (by decide) (by decide) h0)
  have B1 := hide (in_fb (K := 30) l1 (by decide) (by decide) h1)
  have B2 := hide (in_fb (K := 30) l2 (by decide) (by decide) h2)
  have B3 := hide (in_fb (K := 20) l3 (by decide) (by decide) h3)
  have B4 := hide (in_fb (K := 20) l4 (by decide) (by decide) h4)
  have B5 := hide (in_fb (K := 20) l5 (by decide) (by decide) h5)
  have B6 := hide (in_fb (K := 20) l6 (by decide) (by decide) h6)
  have B7 := hide (in_fb (K := 20) l7 (by decide) (by decide) h7)
  have B8 := hide (in_fb (K := 20) l8 (by decide) (by decide) h8)
  have HL := hide (And.intro l3 (And.intro l4 (And.intro l5 (And.intro l6 (And.intro l7 l8)))))
  clear l0 l1 l2 l3 l4 l5 l6 l7 l8
  have H0 := hide h0
  have H1 := hide h1
  have H2 := hide h2
  have H3 := hide h3
  have H4 := hide h4
  have H5 := hide h5
  have H6 := hide h6
  have H7 := hide h7
  have H8 := hide h8
  clear h0 h1 h2 h3 h4 h5 h6 h7 h8
  go_enter Ybad.func4, Ybad.ntmps4
  go_upto_if 80 with (first
    | (go_at_call_of 9 px; refine (in9c px true _ H0.out).mono ?_; rintro _ w' ⟨rfl, hw'⟩; rw [hw']; clear hw' w')
    | (go_at_call_of 9 py; refine (in9c py true _ H1.out).mono ?_; rintro _ w' ⟨rfl, hw'⟩; rw [hw']; clear hw' w')
    | (go_at_call_of 9 pz; refine (in9c pz true _ H2.out).mono ?_; rintro _ w' ⟨rfl, hw'⟩; rw [hw']; clear hw' w')
    | (go_at_call_of 9 r; refine (in6c r true _ H3.out).mono ?_; rintro _ w' ⟨rfl, hw'⟩; rw [hw']; clear hw' w')
    | (go_at_call_of 9 g; refine (in6c g true _ H4.out).mono ?_; rintro _ w' ⟨rfl, hw'⟩; rw [hw']; clear hw' w')
    | (go_at_call_of 9 b; refine (in6c b true _ H5.out).mono ?_; rintro _ w' ⟨rfl, hw'⟩; rw [hw']; clear hw' w')
    | (go_at_call_of 9 r'; refine (in6c r' true _ H6.out).mono ?_; rintro _ w' ⟨rfl, hw'⟩; rw [hw']; clear hw' w')
    | (go_at_call_of 9 g'; refine (in6c g' true _ H7.out).mono ?_; rintro _ w' ⟨rfl, hw'⟩; rw [hw']; clear hw' w')
    | (go_at_call_of 9 b'; refine (in6c b' true _ H8.out).mono ?_; rintro _ w' ⟨rfl, hw'⟩; rw [hw']; clear hw' w'))
  have h6 : 0 ≤ a0 % 6 ∧ a0 % 6 < 6 := by omega
  have h4 : 0 ≤ a1 % 4 ∧ a1 % 4 < 4 := by omega
  generalize hx6 : a0 % 6 = x6 at *
  obtain ⟨k6, rfl⟩ : ∃ k6 : Nat, x6 = k6 := ⟨x6.toNat, by omega⟩
  clear hx6
  go_cut [23, 24] from 81 to 82 (fun s23 s24 wx => ∃ (k : Nat) (t : Bool), k < 3 ∧ s23 = .int .i64 k ∧ s24 = .float .f64 (D.word t ONE) ∧ wx = w)
  case first =>
    by_cases h3 : (3 : Int) ≤ (k6 : Int)
    · go_wp2_with fail
      go_meet
      exact ⟨k6 - 3, true, by omega, by go_num, rfl, rfl⟩
    · go_wp2_with fail
      go_meet
      exact ⟨k6, false, by omega, rfl, rfl, rfl⟩
  case rest =>
    obtain ⟨k, t, hk, rfl, rfl, hwc⟩ := hcut
    rw [hwc]
    clear hwc
    generalize hsg : D.word t ONE = sgn
    have HSG := hide hsg
    clear hsg
    go_upto_block 0 with fail
    go_cut [26] from 84 to 96 (fun s26 wx => ∃ (g0 g1 g2 X : Nat), s26 = .float .f64 X ∧ wx = w.alloc (.cells #[.float .f64 g0, .float .f64 g1, .float .f64 g2] 32) ∧ Hid (AxOk sgn g0 g1 g2 X px py pz))
    case first =>
      have hk3 : k = 0 ∨ k = 1 ∨ k = 2 := by omega
      rcases hk3 with rfl | rfl | rfl
      · go_wp2_with fail
        go_meet
        exact ⟨sgn, 0, 0, px, rfl, rfl, by rw [← HSG.out]; exact ⟨(nz t).1, fun sc S h => plain0 h B0.out B1.out B2.out t⟩⟩
      · go_wp2_with fail
        go_meet
        exact ⟨0, sgn, 0, py, rfl, rfl, by rw [← HSG.out]; exact ⟨(nz t).2.1, fun sc S h => plain1 h B0.out B1.out B2.out t⟩⟩
      · go_wp2_with fail
        go_meet
        exact ⟨0, 0, sgn, pz, rfl, rfl, by rw [← HSG.out]; exact ⟨(nz t).2.2, fun sc S h => plain2 h B0.out B1.out B2.out t⟩⟩
    case rest =>
      obtain ⟨g0, g1, g2, X, rfl, hwc, HAX⟩ := hcut
      rw [hwc]
      clear hwc
      go_upto_block 1 with fail
      go_cut [27] from 99 to 104 (fun s27 wx => ∃ (sc S : Nat), s27 = .float .f64 sc ∧ wx = w.alloc (.cells #[.float .f64 g0, .float .f64 g1, .float .f64 g2] 32) ∧ Hid (Sca sc S))
      case first =>
        have hx : a1 % 4 = 0 ∨ a1 % 4 = 1 ∨ a1 % 4 = 2 ∨ a1 % 4 = 3 := by omega
        rcases hx with hx | hx | hx | hx
        · go_wp2_with fail
          go_meet
          exact ⟨4607182418800017408, 4607182418800017408, rfl, rfl, sca1⟩
        · go_wp2_with fail
          go_meet
          exact ⟨4611686018427387904, 4602678819172646912, rfl, rfl, sca2⟩
        · go_wp2_with fail
          go_meet
          exact ⟨4616189618054758400, 4598175219545276416, rfl, rfl, sca4⟩
        · go_wp2_with fail
          go_meet
          exact ⟨4602678819172646912, 4611686018427387904, rfl, rfl, scah⟩
      case rest =>
        obtain ⟨sc, S, rfl, hwc, HSC⟩ := hcut
        obtain ⟨u, v, t3, u', v', t', vv, f, q, vw, p0, p1, p2, p3, p4, p5, p6, p7, p8, p9, p10, p11, p12, p13⟩ := HAX.out.2 sc S HSC.out
        obtain ⟨cr, x0, y0⟩ := col_ok p9 B3.out B6.out
        obtain ⟨cg, x1, y1⟩ := col_ok p9 B4.out B7.out
        obtain ⟨cb, x2, y2⟩ := col_ok p9 B5.out B8.out
        have QD := ar (op := .quo) p10
        have QM := ar (op := .mul) p11
        have QS := ar (op := .sub) p13
        have PR := hide (And.intro p0 (And.intro p1 (And.intro p2 (And.intro p3 (And.intro p4 (And.intro p5 (And.intro p6 (And.intro p7 (And.intro p8 p9)))))))))
        have HVW := hide p12
        have HCOL := hide (And.intro x0 (And.intro x1 x2))
        have HCF := hide (And.intro y0 (And.intro y1 y2))
        have hgb : wc.heap[w.heap.size]? = some (.cells #[.float .f64 g0, .float .f64 g1, .float .f64 g2] 32 (0, 0)) := by rw [hwc]; exact heap_alloc_new w _
        have hbel : Below w.heap.size w wc := by rw [hwc]; exact (Below.refl _ _).alloc (Nat.le_refl _) _
        obtain ⟨gb, hgbe⟩ : ∃ x, x = w.heap.size := ⟨_, rfl⟩
        rw [← hgbe] at hgb ⊢
        have t0 := blk_cell (o := 0) hgb rfl
        have t1 := blk_cell (o := 1) hgb rfl
        have t2 := blk_cell (o := 2) hgb rfl
        have hgl := blk_lt hgb
        have HGB := hide hgb
        have HBEL := hide hbel
        have HGE := hide hgbe
        clear p0 p1 p2 p3 p4 p5 p6 p7 p8 p9 p10 p11 p12 p13 x0 x1 x2 y0 y1 y2 hwc hgb hbel hgbe
        go_upto_region 29 with fail
        have HWD : Hid (Wd gb g0 g1 g2 w wc.drew) := by
          have hp0 : 0 < w.heap.size := World.block_lt_of_cell? w _ HID.out.c0
          refine ⟨HGB.out, ?_, (by rw [HGE.out]; exact HBEL.out.drew), (by rw [HGE.out]; exact hp0)⟩
          have hb := HBEL.out.drew
          exact ⟨(hb.cell (p := ⟨0, 0, none⟩) hp0).trans HID.out.c0, (hb.cell (p := ⟨0, 1, none⟩) hp0).trans HID.out.c1, (hb.cell (p := ⟨0, 2, none⟩) hp0).trans HID.out.c2, (hb.cell (p := ⟨0, 3, none⟩) hp0).trans HID.out.c3, (hb.cell (p := ⟨0, 4, none⟩) hp0).trans HID.out.c4, (hb.cell (p := ⟨0, 5, none⟩) hp0).trans HID.out.c5, (hb.cell (p := ⟨0, 6, none⟩) hp0).trans HID.out.c6, (hb.cell (p := ⟨0, 7, none⟩) hp0).trans HID.out.c7, (hb.cell (p := ⟨0, 8, none⟩) hp0).trans HID.out.c8⟩
        go_cut [28] from 105 to 124 (fun s28 wx => ∃ (pb mb : Nat), s28 = .pointer (some ⟨pb, 0, none⟩) ∧ Hid (wx.heap[pb]? = some (.cells (pigV g0 g1 g2 mb (dgm S)) 41 (0, 0))) ∧ Hid (wx.heap[mb]? = some (.cells (ents r g b r' g' b') 29 (0, 0))) ∧ Hid (Below gb w wx))
        case first =>
          refine wp_region_fr ds29 (J29 gb g0 g1 g2 r g b r' g' b' sc S w) mixed ?_ ?_ ?_ ?_ ?_
          · intro vals
            exact ⟨HWD.out, fun j hj => (by cases hj), fun h => (by cases h)⟩
          · intro L vals W i o hJ hL ho hdep
            have hi : i < 22 := (Array.getElem?_eq_some_iff.1 ho).1
            have hspec : o.op = op29 i ∧ (o.dst = if i < 21 then some (dst29 i) else none) ∧ ∀ d ∈ deps29 i, ∃ e ∈ o.after, Region.binds .any e = true ∧ e.on = d := by
              have hcase : i = 0 ∨ i = 1 ∨ i = 2 ∨ i = 3 ∨ i = 4 ∨ i = 5 ∨ i = 6 ∨ i = 7 ∨ i = 8 ∨ i = 9 ∨ i = 10 ∨ i = 11 ∨ i = 12 ∨ i = 13 ∨ i = 14 ∨ i = 15 ∨ i = 16 ∨ i = 17 ∨ i = 18 ∨ i = 19 ∨ i = 20 ∨ i = 21 := by omega
              clear hdep hL hJ hi
              rcases hcase with rfl | rfl | rfl | rfl | rfl | rfl | rfl | rfl | rfl | rfl | rfl | rfl | rfl | rfl | rfl | rfl | rfl | rfl | rfl | rfl | rfl | rfl
              all_goals
                obtain rfl := Option.some.inj ho
                refine ⟨rfl, rfl, ?_⟩
                simp [deps29, Region.binds]
            refine step29 HSC.out hJ (Fr.of _ _ _) hL hi hspec.1 hspec.2.1 (fun d hd => ?_) rfl rfl rfl rfl rfl rfl rfl rfl rfl
            obtain ⟨e, he, h1, rfl⟩ := hspec.2.2 d hd
            exact hdep e he h1
          · intro L vals W hJ hall
            obtain ⟨pb, mb, e1, h1, h2⟩ := hJ.val 21 (hall 21 (by decide))
            simp only [fr, setAll, ds29, List.foldl_cons, List.foldl_nil, List.setIfInBounds_toArray, List.set_cons_zero, List.set_cons_succ]
            rename_i J' K' hj hk
            refine hk _ _ (Met.intro (hj _ _ ?_))
            (repeat apply Exists.intro)
            refine ⟨?rel, rfl⟩
            exact ⟨pb, mb, e1, h1, h2, hJ.wd.bel⟩
          · intro i o ho
            have hi : i < 22 := (Array.getElem?_eq_some_iff.1 ho).1
            have hcase : i = 0 ∨ i = 1 ∨ i = 2 ∨ i = 3 ∨ i = 4 ∨ i = 5 ∨ i = 6 ∨ i = 7 ∨ i = 8 ∨ i = 9 ∨ i = 10 ∨ i = 11 ∨ i = 12 ∨ i = 13 ∨ i = 14 ∨ i = 15 ∨ i = 16 ∨ i = 17 ∨ i = 18 ∨ i = 19 ∨ i = 20 ∨ i = 21 := by omega
            rcases hcase with rfl | rfl | rfl | rfl | rfl | rfl | rfl | rfl | rfl | rfl | rfl | rfl | rfl | rfl | rfl | rfl | rfl | rfl | rfl | rfl | rfl | rfl
            all_goals
              obtain rfl := Option.some.inj ho
              rfl
          · intro i o ho
            have hi : i < 22 := (Array.getElem?_eq_some_iff.1 ho).1
            have hcase : i = 0 ∨ i = 1 ∨ i = 2 ∨ i = 3 ∨ i = 4 ∨ i = 5 ∨ i = 6 ∨ i = 7 ∨ i = 8 ∨ i = 9 ∨ i = 10 ∨ i = 11 ∨ i = 12 ∨ i = 13 ∨ i = 14 ∨ i = 15 ∨ i = 16 ∨ i = 17 ∨ i = 18 ∨ i = 19 ∨ i = 20 ∨ i = 21 := by omega
            rcases hcase with rfl | rfl | rfl | rfl | rfl | rfl | rfl | rfl | rfl | rfl | rfl | rfl | rfl | rfl | rfl | rfl | rfl | rfl | rfl | rfl | rfl | rfl
            all_goals
              obtain rfl := Option.some.inj ho
              simp
        case rest =>
          obtain ⟨pb, mb, rfl, HPB, HMB, HBX⟩ := hcut
          go_wp2_with fail
          refine (pig_run pb mb g0 g1 g2 (dgm S) px py pz u v t3 u' v' t' vv f 33 r g b r' g' b' cr cg cb wc HPB.out HMB.out HAX.out.1 PR.out.1 PR.out.2.1 PR.out.2.2.1 PR.out.2.2.2.1 PR.out.2.2.2.2.1 PR.out.2.2.2.2.2.1 PR.out.2.2.2.2.2.2.1 PR.out.2.2.2.2.2.2.2.1 (by decide) PR.out.2.2.2.2.2.2.2.2.1 PR.out.2.2.2.2.2.2.2.2.2 HCOL.out.1 HCOL.out.2.1 HCOL.out.2.2).mono ?_
          rintro _ w2 ⟨rfl, hb2⟩
          have HB2 := hide (HBX.out.trans (hb2.mono (show gb ≤ wc.heap.size from Nat.le_trans (by rw [HGE.out]; exact Nat.le_refl _) HBX.out.size)))
          have HB2L : Hid (gb ≤ w2.heap.size) := Nat.le_trans (by rw [HGE.out]; exact Nat.le_refl _) HB2.out.size
          clear hb2
          cases hle : le0 f with
          | true =>
            have hle' : (FloatKind.f64.format.order f 0 == some Ordering.lt || FloatKind.f64.format.order f 0 == some Ordering.eq) = true := hle
            have ec : ∀ {a b c}, Col f a b c → c = a := fun h => by
              rcases h with ⟨_, h⟩ | ⟨h, _⟩ | ⟨h, _⟩
              · exact h
              · rw [hle] at h; cases h
              · rw [hle] at h; cases h
            have z0 := ec HCOL.out.1
            have z1 := ec HCOL.out.2.1
            have z2 := ec HCOL.out.2.2
            rw [z0, z1, z2]
            rw [z0, z1, z2] at HCF
            clear ec z0 z1 z2 hle
            go_wp2_with (first
                | (go_at_call_of 12 r; refine (close_run r r r' 66 _ HCF.out.1 (by decide) B3.out B6.out HL.out.1 HL.out.2.2.2.1).mono ?_; rintro _ w' ⟨rfl, hw'⟩; rw [hw']; clear hw' w')
                | (go_at_call_of 12 g; refine (close_run g g g' 66 _ HCF.out.2.1 (by decide) B4.out B7.out HL.out.2.1 HL.out.2.2.2.2.1).mono ?_; rintro _ w' ⟨rfl, hw'⟩; rw [hw']; clear hw' w')
                | (go_at_call_of 12 b; refine (close_run b b b' 66 _ HCF.out.2.2 (by decide) B5.out B8.out HL.out.2.2.1 HL.out.2.2.2.2.2).mono ?_; rintro _ w' ⟨rfl, hw'⟩; rw [hw']; clear hw' w')
                | (go_at_call 11; refine (floor_run vw 33 _ HVW.out (by decide)).mono ?_; rintro _ w' ⟨rfl, hw'⟩; rw [hw']; clear hw' w'))
            go_ret
            refine ⟨rfl, ?_⟩
            rw [← HGE.out]
            exact HB2.out.alloc (by exact HB2L.out) _
          | false =>
            have hle' : (FloatKind.f64.format.order f 0 == some Ordering.lt || FloatKind.f64.format.order f 0 == some Ordering.eq) = false := hle
            cases hlt : lt1 f with
            | true =>
              have hlt' : (FloatKind.f64.format.order f 4607182418800017408 == some Ordering.lt) = true := hlt
              have ec : ∀ {a b c}, Col f a b c → Mix f a b c := fun h => by
                rcases h with ⟨h, _⟩ | ⟨_, _, h⟩ | ⟨_, h, _⟩
                · rw [hle] at h; cases h
                · exact h
                · rw [hlt] at h; cases h
              obtain ⟨k0, k1, k2, k3, k4, k5, k6'⟩ := ec HCOL.out.1
              obtain ⟨l0, l1, l2, l3, l4, l5, l6⟩ := ec HCOL.out.2.1
              obtain ⟨n0, n1, n2, n3, n4, n5, n6⟩ := ec HCOL.out.2.2
              obtain rfl : l0 = k0 := Option.some.inj (l3.symm.trans k3)
              obtain rfl : n0 = l0 := Option.some.inj (n3.symm.trans k3)
              have A3 := ar (op := .sub) k3
              have A4 := ar (op := .mul) k4
              have A5 := ar (op := .mul) k5
              have A6 := ar (op := .add) k6'
              have C4 := ar (op := .mul) l4
              have C5 := ar (op := .mul) l5
              have C6 := ar (op := .add) l6
              have F4 := ar (op := .mul) n4
              have F5 := ar (op := .mul) n5
              have F6 := ar (op := .add) n6
              clear ec hle hlt k3 k4 k5 k6' l3 l4 l5 l6 n3 n4 n5 n6
              go_wp2_with (first
                | (go_at_call_of 12 cr; refine (close_run cr r r' 66 _ HCF.out.1 (by decide) B3.out B6.out HL.out.1 HL.out.2.2.2.1).mono ?_; rintro _ w' ⟨rfl, hw'⟩; rw [hw']; clear hw' w')
                | (go_at_call_of 12 cg; refine (close_run cg g g' 66 _ HCF.out.2.1 (by decide) B4.out B7.out HL.out.2.1 HL.out.2.2.2.2.1).mono ?_; rintro _ w' ⟨rfl, hw'⟩; rw [hw']; clear hw' w')
                | (go_at_call_of 12 cb; refine (close_run cb b b' 66 _ HCF.out.2.2 (by decide) B5.out B8.out HL.out.2.2.1 HL.out.2.2.2.2.2).mono ?_; rintro _ w' ⟨rfl, hw'⟩; rw [hw']; clear hw' w')
                | (go_at_call 11; refine (floor_run vw 33 _ HVW.out (by decide)).mono ?_; rintro _ w' ⟨rfl, hw'⟩; rw [hw']; clear hw' w'))
              go_ret
              refine ⟨rfl, ?_⟩
              rw [← HGE.out]
              exact HB2.out.alloc (by exact HB2L.out) _
            | false =>
              have hlt' : (FloatKind.f64.format.order f 4607182418800017408 == some Ordering.lt) = false := hlt
              have ec : ∀ {a b c}, Col f a b c → c = b := fun h => by
                rcases h with ⟨h, _⟩ | ⟨_, h, _⟩ | ⟨_, _, h⟩
                · rw [hle] at h; cases h
                · rw [hlt] at h; cases h
                · exact h
              have z0 := ec HCOL.out.1
              have z1 := ec HCOL.out.2.1
              have z2 := ec HCOL.out.2.2
              rw [z0, z1, z2]
              rw [z0, z1, z2] at HCF
              clear ec z0 z1 z2 hle hlt
              go_wp2_with (first
                | (go_at_call_of 12 r; refine (close_run r' r r' 66 _ HCF.out.1 (by decide) B3.out B6.out HL.out.1 HL.out.2.2.2.1).mono ?_; rintro _ w' ⟨rfl, hw'⟩; rw [hw']; clear hw' w')
                | (go_at_call_of 12 g; refine (close_run g' g g' 66 _ HCF.out.2.1 (by decide) B4.out B7.out HL.out.2.1 HL.out.2.2.2.2.1).mono ?_; rintro _ w' ⟨rfl, hw'⟩; rw [hw']; clear hw' w')
                | (go_at_call_of 12 b; refine (close_run b' b b' 66 _ HCF.out.2.2 (by decide) B5.out B8.out HL.out.2.2.1 HL.out.2.2.2.2.2).mono ?_; rintro _ w' ⟨rfl, hw'⟩; rw [hw']; clear hw' w')
                | (go_at_call 11; refine (floor_run vw 33 _ HVW.out (by decide)).mono ?_; rintro _ w' ⟨rfl, hw'⟩; rw [hw']; clear hw' w'))
              go_ret
              refine ⟨rfl, ?_⟩
              rw [← HGE.out]
              exact HB2.out.alloc (by exact HB2L.out) _

end Go.Proofs.YbulkdcwkDoor
