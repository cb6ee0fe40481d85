/-
  OWN WORK. The tied card of 'LawS5210BPlainColor', out of its walks.
-/
import Derived.Test.YbulkdcwkDoorPlain
import Derived.Test.YbulkdcwkDoorOpen
import Derived.Test.YbulkdcwkDoorTie
import Derived.Test.YbulkdcwkDoorCards
import Derived.SevenTiedAt
namespace Go.Proofs.YbulkdcwkDoor.PlainCard
open Go.ChangeShapes Go.WideShapes Go.ChangeAt Go.RowKit

/-- The door's own heap meets the condition. -/
theorem door_met (os : Os) (args : Array Value) : laidMetH Ybad.prog Rows.lawS5210BPlainColorRow.laid ((World.doorLaid Ybad.prog 17 os).forCall (fun _ _ => 0) ⟨#[], args, []⟩).memory :=
  laidMetH_of_parts3 (fuel := 8) (laidMet_of_run' 8 (by kernel_rfl) (by kernel_rfl)) (by kernel_rfl) (by kernel_rfl)

set_option maxRecDepth 100000 in
theorem lifted (os : Os) (started : os.Started) (H : Type) (enc : TypeId × Value → H) :
    ReturnsInHanded {} Ybad.checked os 3 .any (fun w args => (Rows.lawS5210BPlainColorSpec.pre enc Ybad.prog Ybad.f3 [] false w args ∧ laidMetH Ybad.prog Rows.lawS5210BPlainColorRow.laid w) ∧ sizedMet enc Ybad.prog Ybad.f3 (OpenSpec.ofChange Rows.lawS5210BPlainColorSpec) false w args)
      (Rows.lawS5210BPlainColorSpec.post enc Ybad.prog Ybad.f3 false true false false) := by
  refine returnsInHanded_of_change_and (C := Ybad.checked) (X := fun w _ => laidMetH Ybad.prog Rows.lawS5210BPlainColorRow.laid w) (fun _ _ _ hh h => h.of_heap hh) own started (by kernel_rfl) Ybad.func3
    (ChangeSpec.witness_shaped (enc := enc) (C := Ybad.checked) (os := os) (X := fun w _ => laidMetH Ybad.prog Rows.lawS5210BPlainColorRow.laid w) false (World.doorLaid Ybad.prog 17 os) #[.float .f64 0, .float .f64 0, .float .f64 0, .bool false, .bool false, .bool false, .float .f64 0, .float .f64 0, .float .f64 0, .slice none 0 0] 8 rfl (World.shaped_of_RefB (by kernel_rfl) (by kernel_rfl)) (by kernel_rfl) (by kernel_rfl) (by kernel_rfl) (door_met os _)) ?_
  intro W base args ds gs before hval0 hW _ _ hL _
  have hval : ∀ (j : Nat) t v, Ybad.f3.params[j]? = some t → args[j]? = some v → Value.okWide Ybad.prog W .any base t v := hval0
  have hW' := hW
  obtain ⟨p, q, hA0, hV0, rfl, hfz, hnd⟩ := hW
  have hA : DataW.TrodAll enc Ybad.prog W 0 (fun _ => true) true Ybad.f3.params.toList args.toList ds p := hA0
  have hV : DataW.TrodVars enc Ybad.prog W (fun _ => true) [idName] gs q := hV0
  rw [Ybad.params3] at hA hval
  obtain ⟨v0, vs0, d0, ds0, p0, q0, hargs, rfl, rfl, h0, r0⟩ := trodAll_cons hA
  obtain ⟨v1, vs1, d1, ds1, p1, q1, rfl, rfl, rfl, h1, r1⟩ := trodAll_cons r0
  obtain ⟨v2, vs2, d2, ds2, p2, q2, rfl, rfl, rfl, h2, r2⟩ := trodAll_cons r1
  obtain ⟨v3, vs3, d3, ds3, p3, q3, rfl, rfl, rfl, h3, r3⟩ := trodAll_cons r2
  obtain ⟨v4, vs4, d4, ds4, p4, q4, rfl, rfl, rfl, h4, r4⟩ := trodAll_cons r3
  obtain ⟨v5, vs5, d5, ds5, p5, q5, rfl, rfl, rfl, h5, r5⟩ := trodAll_cons r4
  obtain ⟨v6, vs6, d6, ds6, p6, q6, rfl, rfl, rfl, h6, r6⟩ := trodAll_cons r5
  obtain ⟨v7, vs7, d7, ds7, p7, q7, rfl, rfl, rfl, h7, r7⟩ := trodAll_cons r6
  obtain ⟨v8, vs8, d8, ds8, p8, q8, rfl, rfl, rfl, h8, r8⟩ := trodAll_cons r7
  obtain ⟨v9, vs9, d9, ds9, p9, q9, rfl, rfl, rfl, h9, r9⟩ := trodAll_cons r8
  obtain ⟨rfl, rfl, rfl⟩ := trodAll_nil r9
  obtain rfl : args = #[v0, v1, v2, v3, v4, v5, v6, v7, v8, v9] := by cases args; simp_all
  obtain ⟨a0, rfl, rfl, rfl, w0⟩ := open_float Ybad.underlying22 (hval 0 22 v0 rfl rfl) h0
  obtain ⟨a1, rfl, rfl, rfl, w1⟩ := open_float Ybad.underlying22 (hval 1 22 v1 rfl rfl) h1
  obtain ⟨a2, rfl, rfl, rfl, w2⟩ := open_float Ybad.underlying22 (hval 2 22 v2 rfl rfl) h2
  obtain ⟨a3, rfl, rfl, rfl⟩ := open_bool Ybad.underlying4 (hval 3 4 v3 rfl rfl) h3
  obtain ⟨a4, rfl, rfl, rfl⟩ := open_bool Ybad.underlying4 (hval 4 4 v4 rfl rfl) h4
  obtain ⟨a5, rfl, rfl, rfl⟩ := open_bool Ybad.underlying4 (hval 5 4 v5 rfl rfl) h5
  obtain ⟨a6, rfl, rfl, rfl, w6⟩ := open_float Ybad.underlying22 (hval 6 22 v6 rfl rfl) h6
  obtain ⟨a7, rfl, rfl, rfl, w7⟩ := open_float Ybad.underlying22 (hval 7 22 v7 rfl rfl) h7
  obtain ⟨a8, rfl, rfl, rfl, w8⟩ := open_float Ybad.underlying22 (hval 8 22 v8 rfl rfl) h8
  obtain ⟨ao, len, cap, rfl⟩ := okWide_slice Ybad.underlying23 (hval 9 23 v9 rfl rfl)
  have k9 := h9
  have lt9 : ∀ x ∈ p9, x.block < W.heap.size := by obtain ⟨m, hm⟩ := k9; exact DataW.trod_lt m _ _ _ hm
  obtain ⟨g, t, cs, fuel, d, p', rfl, hg, ht, hvar, hd, rfl⟩ := trodVars_one hV
  obtain rfl := Option.some.inj (gId.symm.trans hg)
  obtain rfl := Option.some.inj (tId.symm.trans ht)
  obtain ⟨m0, m1, m2, m3, m4, m5, m6, m7, m8, hcs, hx, x0, x1, x2⟩ := mat_of_trod hd
  have hI := ident_of_var hvar hcs
  have hpos : 0 < W.heap.size := World.block_lt_of_cell? W _ hI.c0
  have walk : Calls Ybad.prog 3 #[.float .f64 a0, .float .f64 a1, .float .f64 a2, .bool a3, .bool a4, .bool a5, .float .f64 a6, .float .f64 a7, .float .f64 a8, .slice ao len cap] W fun e w' => e = .returned (.bool true) ∧ Below W.heap.size W w' := by
    rcases Nat.lt_or_ge 1024 len with hbig | hsm
    · exact plain_long a0 a1 a2 a6 a7 a8 a3 a4 a5 ao len cap W hbig
    · obtain ⟨fuel9, hf⟩ := h9
      rcases open_floats (by simpa [Value.cells] using hf) with ⟨rfl, rfl, rfl⟩ | ⟨a, z, rfl, hz⟩
      · exact plain_nil a0 a1 a2 a6 a7 a8 a3 a4 a5 W m0 m1 m2 m3 m4 m5 m6 m7 m8 hI
      · exact plain_some a0 a1 a2 a6 a7 a8 a3 a4 a5 a len cap z W m0 m1 m2 m3 m4 m5 m6 m7 m8 hI hsm hz
  clear hA0 hV0 hval0
  simp only [Prod.mk.injEq] at hx
  obtain ⟨rfl, rfl⟩ := hx
  refine walk.mono fun e W' ⟨he, bel⟩ => ?_
  subst he
  refine ⟨_, rfl, _, _, _, [], [] ++ ([] ++ ([] ++ ([] ++ ([] ++ ([] ++ ([] ++ ([] ++ ([] ++ (p9 ++ []))))))))), MemPlace.row ⟨0, 0, none⟩ cs.size ++ [], hW', trodAll_mk1 (shut_bool Ybad.underlying4 _), ?_, ?_, bel.frame _, fun h => by cases h⟩
  · exact trodAll_cons_mk (shut_float Ybad.underlying22 w0) (trodAll_cons_mk (shut_float Ybad.underlying22 w1) (trodAll_cons_mk (shut_float Ybad.underlying22 w2) (trodAll_cons_mk (shut_bool Ybad.underlying4 _) (trodAll_cons_mk (shut_bool Ybad.underlying4 _) (trodAll_cons_mk (shut_bool Ybad.underlying4 _)
      (trodAll_cons_mk (shut_float Ybad.underlying22 w6) (trodAll_cons_mk (shut_float Ybad.underlying22 w7) (trodAll_cons_mk (shut_float Ybad.underlying22 w8) (trodAll_cons_mk (Below.trod laidOut (by kernel_rfl) (of_decide_eq_true (by kernel_rfl)) k9 bel lt9) trodAll_mk0)))))))))
  · exact trodVars_mk1 gId tId (var?_below bel gId hpos hvar) (by rw [hcs]; exact mat_reads x0 x1 x2)

theorem over : Rows.LawS5210BPlainColorSaid :=
  OpenClaim.holds_of_wide 3 Ybad.f3 rfl rfl rfl rfl rfl rfl rfl ⟨rfl, rfl, rfl, rfl, rfl⟩ rfl rfl rfl rfl rfl (by kernel_rfl) Ybad.func3 (by kernel_rfl)
    (of_decide_eq_true (by kernel_rfl)) (by unfold Func.isWrapper; first | (rw [if_pos (by decide +kernel)]; kernel_rfl) | (rw [if_neg (by decide +kernel)]; exact ⟨rfl, rfl⟩))
    (fun os started H enc _ => lifted os started H enc)

/-- ████ THE STATEMENT ████ -/
theorem proved : Rows.LawS5210BPlainColorCardSaid :=
  Claim7.holds_tied_plain_at .later [] [.data] true _ false
    over (fun _ h => by cases h) (by kernel_rfl) (fun _ h => by cases h) lawS5210BPlainColor_row_tie rfl ⟨rfl, rfl⟩ (by kernel_rfl) rfl
    (fun f fn hf hfn => by
      obtain rfl : f = 3 := Option.some.inj ((show Ybad.prog.funcNamed Rows.lawS5210BPlainColorRow.func = some 3 by kernel_rfl).symm.trans hf) |>.symm
      obtain rfl : fn = Ybad.f3 := (Option.some.inj (Ybad.func3.symm.trans hfn)).symm
      exact ⟨by kernel_rfl, fun j t ht => by
        rw [Ybad.params3] at ht
        have h3 : t = 22 ∨ t = 4 ∨ t = 23 := by
          match j, ht with
          | 0, ht | 1, ht | 2, ht | 6, ht | 7, ht | 8, ht => exact .inl (by simpa using ht.symm)
          | 3, ht | 4, ht | 5, ht => exact .inr (.inl (by simpa using ht.symm))
          | 9, ht => exact .inr (.inr (by simpa using ht.symm))
          | j + 10, ht => simp at ht
        rcases h3 with rfl | rfl | rfl
        · exact (show Ybad.prog.wantsStandIn 22 = false by kernel_rfl)
        · exact (show Ybad.prog.wantsStandIn 4 = false by kernel_rfl)
        · exact (show Ybad.prog.wantsStandIn 23 = false by kernel_rfl)⟩)
    (by kernel_rfl)
#print axioms proved
end Go.Proofs.YbulkdcwkDoor.PlainCard
