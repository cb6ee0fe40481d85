/-
  OWN WORK. The tied card of 'LawS5210BPatternGradient', out of its walks.
-/
import Derived.Test.YbulkdcwkDoorGrad2
import Derived.Test.YbulkdcwkDoorOpen
import Derived.Test.YbulkdcwkDoorTie
import Derived.Test.YbulkdcwkDoorCards
import Derived.SevenTiedAt
import Derived.MakeChecks
namespace Go.Proofs.YbulkdcwkDoor.GradCard
open Go.ChangeShapes Go.WideShapes Go.ChangeAt Go.RowKit

/-- The door's own heap meets the condition. -/
theorem door_met (os : Os) (args : Array Value) : laidMetH Ybad.prog Rows.lawS5210BPatternGradientRow.laid ((World.doorLaid Ybad.prog 17 os).forCall (fun _ _ => 0) ⟨#[], args, []⟩).memory :=
  laidMetH_of_parts3 (fuel := 8) (laidMet_of_run' 8 (by kernel_rfl) (by kernel_rfl)) (by kernel_rfl) (by kernel_rfl)

/-- What the condition gives: the nine words of the identity. -/
theorem of_laid {W : World} (h : laidMetH Ybad.prog Rows.lawS5210BPatternGradientRow.laid W) : Ident W 4607182418800017408 0 0 0 4607182418800017408 0 0 0 4607182418800017408 := by
  rw [MakeChecks.laidMetH_plain _ _ _ (by kernel_rfl)] at h
  obtain ⟨ps, ⟨g0, t0, cs0, f0, p0, q0, hg0, ht0, hv0, hd0, _, _⟩, _, _⟩ := h
  obtain rfl := Option.some.inj (gId.symm.trans hg0)
  obtain rfl := Option.some.inj (tId.symm.trans ht0)
  obtain ⟨m0, m1, m2, m3, m4, m5, m6, m7, m8, hcs, hx, _, _, _⟩ := mat_of_trod hd0
  simp [Rows.laid_example_com_ray_scene_renderer_ray_scene_renderer_internal_geom_identity] at hx
  obtain ⟨⟨⟨rfl, rfl, rfl⟩, ⟨rfl, rfl, rfl⟩, rfl, rfl, rfl⟩, rfl⟩ := hx
  exact ident_of_var hv0 hcs

theorem float_lt {n : Nat} (h : (Lit.float .f64 n).wf = true) : n < 2 ^ 64 := by
  simpa [Lit.wf] using h

theorem grad_any (a0 a1 : Int) (px py pz r g b r' g' b' : Nat) (w : World) (hid : Ident w 4607182418800017408 0 0 0 4607182418800017408 0 0 0 4607182418800017408) (ha0 : 0 ≤ a0 ∧ a0 ≤ 255) (ha1 : 0 ≤ a1 ∧ a1 ≤ 255) (l0 : px < 2 ^ 64) (l1 : py < 2 ^ 64) (l2 : pz < 2 ^ 64) (l3 : r < 2 ^ 64) (l4 : g < 2 ^ 64) (l5 : b < 2 ^ 64) (l6 : r' < 2 ^ 64) (l7 : g' < 2 ^ 64) (l8 : b' < 2 ^ 64) :
    Calls Ybad.prog 4 #[.int .u8 a0, .int .u8 a1, .float .f64 px, .float .f64 py, .float .f64 pz, .float .f64 r, .float .f64 g, .float .f64 b, .float .f64 r', .float .f64 g', .float .f64 b'] w fun e w' => e = .returned (.bool true) ∧ Below w.heap.size w w' := by
  cases h0 : inB px 4741671816366391296 with
  | false => exact grad_out1 a0 a1 px py pz r g b r' g' b' w h0
  | true =>
    cases h1 : inB py 4741671816366391296 with
    | false => exact grad_out2 a0 a1 px py pz r g b r' g' b' w h0 h1
    | true =>
      cases h2 : inB pz 4741671816366391296 with
      | false => exact grad_out3 a0 a1 px py pz r g b r' g' b' w h0 h1 h2
      | true =>
        cases h3 : inB r 4696837146684686336 with
        | false => exact grad_out4 a0 a1 px py pz r g b r' g' b' w h0 h1 h2 h3
        | true =>
          cases h4 : inB g 4696837146684686336 with
          | false => exact grad_out5 a0 a1 px py pz r g b r' g' b' w h0 h1 h2 h3 h4
          | true =>
            cases h5 : inB b 4696837146684686336 with
            | false => exact grad_out6 a0 a1 px py pz r g b r' g' b' w h0 h1 h2 h3 h4 h5
            | true =>
              cases h6 : inB r' 4696837146684686336 with
              | false => exact grad_out7 a0 a1 px py pz r g b r' g' b' w h0 h1 h2 h3 h4 h5 h6
              | true =>
                cases h7 : inB g' 4696837146684686336 with
                | false => exact grad_out8 a0 a1 px py pz r g b r' g' b' w h0 h1 h2 h3 h4 h5 h6 h7
                | true =>
                  cases h8 : inB b' 4696837146684686336 with
                  | false => exact grad_out9 a0 a1 px py pz r g b r' g' b' w h0 h1 h2 h3 h4 h5 h6 h7 h8
                  | true =>
                    exact grad_in a0 a1 px py pz r g b r' g' b' w hid ha0 ha1 l0 l1 l2 l3 l4 l5 l6 l7 l8 h0 h1 h2 h3 h4 h5 h6 h7 h8

set_option maxRecDepth 100000 in
theorem lifted (os : Os) (started : os.Started) (H : Type) (enc : TypeId × Value → H) :
    ReturnsInHanded {} Ybad.checked os 4 .any (fun w args => (Rows.lawS5210BPatternGradientSpec.pre enc Ybad.prog Ybad.f4 [] false w args ∧ laidMetH Ybad.prog Rows.lawS5210BPatternGradientRow.laid w) ∧ sizedMet enc Ybad.prog Ybad.f4 (OpenSpec.ofChange Rows.lawS5210BPatternGradientSpec) false w args)
      (Rows.lawS5210BPatternGradientSpec.post enc Ybad.prog Ybad.f4 false true false false) := by
  refine returnsInHanded_of_change_and (C := Ybad.checked) (X := fun w _ => laidMetH Ybad.prog Rows.lawS5210BPatternGradientRow.laid w) (fun _ _ _ hh h => h.of_heap hh) own started (by kernel_rfl) Ybad.func4
    (ChangeSpec.witness_shaped (enc := enc) (C := Ybad.checked) (os := os) (X := fun w _ => laidMetH Ybad.prog Rows.lawS5210BPatternGradientRow.laid w) false (World.doorLaid Ybad.prog 17 os) #[.int .u8 0, .int .u8 0, .float .f64 0, .float .f64 0, .float .f64 0, .float .f64 0, .float .f64 0, .float .f64 0, .float .f64 0, .float .f64 0, .float .f64 0] 8 rfl (World.shaped_of_RefB (by kernel_rfl) (by kernel_rfl)) (by kernel_rfl) (by kernel_rfl) (by kernel_rfl) (door_met os _)) ?_
  intro W base args ds gs before hval0 hW _ _ hL _
  have hval : ∀ (j : Nat) t v, Ybad.f4.params[j]? = some t → args[j]? = some v → Value.okWide Ybad.prog W .any base t v := hval0
  have hW' := hW
  obtain ⟨p, q, hA0, hV0, rfl, hfz, hnd⟩ := hW
  have hA : DataW.TrodAll enc Ybad.prog W 0 (fun _ => true) true Ybad.f4.params.toList args.toList ds p := hA0
  have hV : DataW.TrodVars enc Ybad.prog W (fun _ => true) [idName] gs q := hV0
  rw [Ybad.params4] at hA hval
  obtain ⟨v0, vs0, d0, ds0, p0, q0, hargs, rfl, rfl, h0, r0⟩ := trodAll_cons hA
  obtain ⟨v1, vs1, d1, ds1, p1, q1, rfl, rfl, rfl, h1, r1⟩ := trodAll_cons r0
  obtain ⟨v2, vs2, d2, ds2, p2, q2, rfl, rfl, rfl, h2, r2⟩ := trodAll_cons r1
  obtain ⟨v3, vs3, d3, ds3, p3, q3, rfl, rfl, rfl, h3, r3⟩ := trodAll_cons r2
  obtain ⟨v4, vs4, d4, ds4, p4, q4, rfl, rfl, rfl, h4, r4⟩ := trodAll_cons r3
  obtain ⟨v5, vs5, d5, ds5, p5, q5, rfl, rfl, rfl, h5, r5⟩ := trodAll_cons r4
  obtain ⟨v6, vs6, d6, ds6, p6, q6, rfl, rfl, rfl, h6, r6⟩ := trodAll_cons r5
  obtain ⟨v7, vs7, d7, ds7, p7, q7, rfl, rfl, rfl, h7, r7⟩ := trodAll_cons r6
  obtain ⟨v8, vs8, d8, ds8, p8, q8, rfl, rfl, rfl, h8, r8⟩ := trodAll_cons r7
  obtain ⟨v9, vs9, d9, ds9, p9, q9, rfl, rfl, rfl, h9, r9⟩ := trodAll_cons r8
  obtain ⟨v10, vs10, d10, ds10, p10, q10, rfl, rfl, rfl, h10, r10⟩ := trodAll_cons r9
  obtain ⟨rfl, rfl, rfl⟩ := trodAll_nil r10
  obtain rfl : args = #[v0, v1, v2, v3, v4, v5, v6, v7, v8, v9, v10] := by cases args; simp_all
  obtain ⟨a0, rfl, rfl, rfl, w0⟩ := open_int Ybad.underlying5 (hval 0 5 v0 rfl rfl) h0
  obtain ⟨a1, rfl, rfl, rfl, w1⟩ := open_int Ybad.underlying5 (hval 1 5 v1 rfl rfl) h1
  obtain ⟨a2, rfl, rfl, rfl, w2⟩ := open_float Ybad.underlying22 (hval 2 22 v2 rfl rfl) h2
  obtain ⟨a3, rfl, rfl, rfl, w3⟩ := open_float Ybad.underlying22 (hval 3 22 v3 rfl rfl) h3
  obtain ⟨a4, rfl, rfl, rfl, w4⟩ := open_float Ybad.underlying22 (hval 4 22 v4 rfl rfl) h4
  obtain ⟨a5, rfl, rfl, rfl, w5⟩ := open_float Ybad.underlying22 (hval 5 22 v5 rfl rfl) h5
  obtain ⟨a6, rfl, rfl, rfl, w6⟩ := open_float Ybad.underlying22 (hval 6 22 v6 rfl rfl) h6
  obtain ⟨a7, rfl, rfl, rfl, w7⟩ := open_float Ybad.underlying22 (hval 7 22 v7 rfl rfl) h7
  obtain ⟨a8, rfl, rfl, rfl, w8⟩ := open_float Ybad.underlying22 (hval 8 22 v8 rfl rfl) h8
  obtain ⟨a9, rfl, rfl, rfl, w9⟩ := open_float Ybad.underlying22 (hval 9 22 v9 rfl rfl) h9
  obtain ⟨a10, rfl, rfl, rfl, w10⟩ := open_float Ybad.underlying22 (hval 10 22 v10 rfl rfl) h10
  obtain ⟨g, t, cs, fuel, d, p', rfl, hg, ht, hvar, hd, rfl⟩ := trodVars_one hV
  obtain rfl := Option.some.inj (gId.symm.trans hg)
  obtain rfl := Option.some.inj (tId.symm.trans ht)
  obtain ⟨m0, m1, m2, m3, m4, m5, m6, m7, m8, hcs, hx, x0, x1, x2⟩ := mat_of_trod hd
  have hI := of_laid hL
  have hpos : 0 < W.heap.size := World.block_lt_of_cell? W _ hI.c0
  have b0 : 0 ≤ a0 ∧ a0 ≤ 255 := by
    have h := w0
    simp only [Lit.wf, Bool.and_eq_true, decide_eq_true_eq] at h
    exact h
  have b1 : 0 ≤ a1 ∧ a1 ≤ 255 := by
    have h := w1
    simp only [Lit.wf, Bool.and_eq_true, decide_eq_true_eq] at h
    exact h
  have walk := grad_any a0 a1 a2 a3 a4 a5 a6 a7 a8 a9 a10 W hI b0 b1 (float_lt w2) (float_lt w3) (float_lt w4) (float_lt w5) (float_lt w6) (float_lt w7) (float_lt w8) (float_lt w9) (float_lt w10)
  clear hA0 hV0 hval0
  simp only [Prod.mk.injEq] at hx
  obtain ⟨rfl, rfl⟩ := hx
  refine walk.mono fun e W' ⟨he, bel⟩ => ?_
  subst he
  refine ⟨_, rfl, _, _, _, [], [] ++ ([] ++ ([] ++ ([] ++ ([] ++ ([] ++ ([] ++ ([] ++ ([] ++ ([] ++ ([] ++ [])))))))))), MemPlace.row ⟨0, 0, none⟩ cs.size ++ [], hW', trodAll_mk1 (shut_bool Ybad.underlying4 _), ?_, ?_, bel.frame _, fun h => by cases h⟩
  · exact (trodAll_cons_mk (shut_int Ybad.underlying5 w0) (trodAll_cons_mk (shut_int Ybad.underlying5 w1) (trodAll_cons_mk (shut_float Ybad.underlying22 w2) (trodAll_cons_mk (shut_float Ybad.underlying22 w3) (trodAll_cons_mk (shut_float Ybad.underlying22 w4) (trodAll_cons_mk (shut_float Ybad.underlying22 w5) (trodAll_cons_mk (shut_float Ybad.underlying22 w6) (trodAll_cons_mk (shut_float Ybad.underlying22 w7) (trodAll_cons_mk (shut_float Ybad.underlying22 w8) (trodAll_cons_mk (shut_float Ybad.underlying22 w9) (trodAll_cons_mk (shut_float Ybad.underlying22 w10) trodAll_mk0)))))))))))
  · exact trodVars_mk1 gId tId (var?_below bel gId hpos hvar) (by rw [hcs]; exact mat_reads x0 x1 x2)

theorem over : Rows.LawS5210BPatternGradientSaid :=
  OpenClaim.holds_of_wide 4 Ybad.f4 rfl rfl rfl rfl rfl rfl rfl ⟨rfl, rfl, rfl, rfl, rfl⟩ rfl rfl rfl rfl rfl (by kernel_rfl) Ybad.func4 (by kernel_rfl)
    (of_decide_eq_true (by kernel_rfl)) (by unfold Func.isWrapper; first | (rw [if_pos (by decide +kernel)]; kernel_rfl) | (rw [if_neg (by decide +kernel)]; exact ⟨rfl, rfl⟩))
    (fun os started H enc _ => lifted os started H enc)

/-- ████ THE STATEMENT ████ -/
theorem proved : Rows.LawS5210BPatternGradientCardSaid :=
  Claim7.holds_tied_plain_at .later [] [.data] true _ false
    over (fun _ h => by cases h) (by kernel_rfl) (fun _ h => by cases h) lawS5210BPatternGradient_row_tie rfl ⟨rfl, rfl⟩ (by kernel_rfl) rfl
    (fun f fn hf hfn => by
      obtain rfl : f = 4 := Option.some.inj ((show Ybad.prog.funcNamed Rows.lawS5210BPatternGradientRow.func = some 4 by kernel_rfl).symm.trans hf) |>.symm
      obtain rfl : fn = Ybad.f4 := (Option.some.inj (Ybad.func4.symm.trans hfn)).symm
      exact ⟨by kernel_rfl, fun j t ht => by
        rw [Ybad.params4] at ht
        have h3 : t = 5 ∨ t = 22 := by
          match j, ht with
          | 0, ht | 1, ht => exact .inl (by simpa using ht.symm)
          | 2, ht | 3, ht | 4, ht | 5, ht | 6, ht | 7, ht | 8, ht | 9, ht | 10, ht => exact .inr (by simpa using ht.symm)
          | j + 11, ht => simp at ht
        rcases h3 with rfl | rfl
        · exact (show Ybad.prog.wantsStandIn 5 = false by kernel_rfl)
        · exact (show Ybad.prog.wantsStandIn 22 = false by kernel_rfl)⟩)
    (by kernel_rfl)
#print axioms proved
end Go.Proofs.YbulkdcwkDoor.GradCard
