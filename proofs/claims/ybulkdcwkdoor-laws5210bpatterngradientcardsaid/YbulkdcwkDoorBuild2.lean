/-
  OWN WORK. The pigment's literal: each of its 22 operations keeps the invariant.
-/
import Derived.Test.YbulkdcwkDoorBuild
namespace Go.Proofs.YbulkdcwkDoor
open Go.RowKit
set_option linter.unusedVariables false
attribute [local go_sem] run_store_float run_equalIn_float

def op29 : Nat → Op
  | 0 => .build 27 #[(0, .const (fl 4619567317775286272)), (1, .const (fl 4619567317775286272)), (2, .const (fl 4619567317775286272))]
  | 1 => .load 32 (.tmp 25)
  | 2 => .move (.tmp 5)
  | 3 => .move (.tmp 6)
  | 4 => .move (.tmp 7)
  | 5 => .build 27 #[(0, .tmp 107), (1, .tmp 108), (2, .tmp 109)]
  | 6 => .build 29 #[(0, .const (fl 0)), (1, .tmp 110)]
  | 7 => .move (.tmp 8)
  | 8 => .move (.tmp 9)
  | 9 => .move (.tmp 10)
  | 10 => .build 27 #[(0, .tmp 112), (1, .tmp 113), (2, .tmp 114)]
  | 11 => .build 29 #[(0, .const (fl 4607182418800017408)), (1, .tmp 115)]
  | 12 => .buildSlice 25 2 #[(0, .tmp 111), (1, .tmp 116)]
  | 13 => .call { callee := .value (.func 6), args := #[], argTypes := #[] }
  | 14 => .move (.tmp 27)
  | 15 => .move (.tmp 27)
  | 16 => .move (.tmp 27)
  | 17 => .build 32 #[(0, .tmp 119), (1, .tmp 120), (2, .tmp 121)]
  | 18 => .call { callee := .value (.func 10), args := #[.tmp 118, .tmp 122], argTypes := #[38, 32] }
  | 19 => .build 41 #[(0, .tmp 105), (3, .tmp 106), (4, .tmp 117), (5, .tmp 123)]
  | 20 => .alloc 41
  | _ => .store 41 (.tmp 28) (.tmp 124)

def deps29 : Nat → List Nat
  | 5 => [2, 3, 4]
  | 6 => [5]
  | 10 => [7, 8, 9]
  | 11 => [10]
  | 12 => [6, 11]
  | 17 => [14, 15, 16]
  | 18 => [13, 17]
  | 19 => [0, 1, 12, 18]
  | 21 => [20, 19]
  | _ => []

theorem run_move' {P : Program} {a : Act} {o : Oper} {x : Operand} (h : o.op = .move x) (w : World) : (execOp a.eval o).run P w = .ok (.value (a.eval x)) w := by
  simp [execOp, h]

theorem run_build' {a : Act} {o : Oper} {t : TypeId} {xs : List (Nat × Operand)} (h : o.op = .build t xs.toArray) {v : Value} {w : World} (hb : (Instr.build t (xs.map fun p => (p.1, a.eval p.2)).toArray).run Ybad.prog w = .ok v w) : (execOp a.eval o).run Ybad.prog w = .ok (.value v) w := by
  simp [execOp, h, hb]

theorem alloc41 : ∃ Z : Array Value, Z.size = 21 ∧ ∀ (a : Act) (o : Oper) (W : World), o.op = .alloc 41 → (execOp a.eval o).run Ybad.prog W = .ok (.value (.pointer (some ⟨W.heap.size, 0, none⟩))) (W.alloc (.cells Z 41)) := by
  refine ⟨((Ybad.prog.info? 41).bind (·.zero)).elim #[] Value.cells, by kernel_rfl, fun a o W h => ?_⟩
  unfold execOp
  simp only [h]
  kernel_rfl

section
variable {gb g0 g1 g2 r g b r' g' b' sc S : Nat} {w W : World} {L : Nat → Bool} {vals : Nat → Value} {a a0 : Act} {Q : Exit → Act → World → Prop} {o : Oper} {i : Nat}

set_option maxRecDepth 100000 in
set_option maxHeartbeats 1000000 in
theorem step29 (hS : Sca sc S) (hJ : J29 gb g0 g1 g2 r g b r' g' b' sc S w L vals W) (hF : Fr a a0 ds29 vals) (hL : L i = false) (hi : i < 22) (hop : o.op = op29 i) (hd : o.dst = if i < 21 then some (dst29 i) else none) (hdep : ∀ d ∈ deps29 i, L d = true)
    (hsz : a0.tmps.size = 195) (e5 : a0.eval (.tmp 5) = fl r) (e6 : a0.eval (.tmp 6) = fl g) (e7 : a0.eval (.tmp 7) = fl b) (e8 : a0.eval (.tmp 8) = fl r') (e9 : a0.eval (.tmp 9) = fl g') (e10 : a0.eval (.tmp 10) = fl b') (e25 : a0.eval (.tmp 25) = .pointer (some ⟨gb, 0, none⟩)) (e27 : a0.eval (.tmp 27) = fl sc) :
    o.wp Ybad.prog a W (Next29 gb g0 g1 g2 r g b r' g' b' sc S w a0 L i) Q := by
  have inn : ∀ j, j < 21 → L j = true → a.eval (.tmp (dst29 j)) = vals (dst29 j) := fun j hj _ => hF.inn _ (dst_mem hj) (by rw [hsz]; unfold dst29; split <;> omega)
  have hcase : i = 0 ∨ i = 1 ∨ i = 2 ∨ i = 3 ∨ i = 4 ∨ i = 5 ∨ i = 6 ∨ i = 7 ∨ i = 8 ∨ i = 9 ∨ i = 10 ∨ i = 11 ∨ i = 12 ∨ i = 13 ∨ i = 14 ∨ i = 15 ∨ i = 16 ∨ i = 17 ∨ i = 18 ∨ i = 19 ∨ i = 20 ∨ i = 21 := by omega
  have kr : Below W.heap.size W W := Below.refl _ _
  have at_ : ∀ j, j < 21 → L j = true → ∃ v, a.eval (.tmp (dst29 j)) = v ∧ Val gb g0 g1 g2 r g b r' g' b' sc S j v W := fun j hj h => ⟨_, inn j hj h, hJ.val j h⟩
  rcases hcase with rfl | rfl | rfl | rfl | rfl | rfl | rfl | rfl | rfl | rfl | rfl | rfl | rfl | rfl | rfl | rfl | rfl | rfl | rfl | rfl | rfl | rfl
  · exact st_value hJ hF hL (by decide) hd (run_build' hop (by exact b27 _ _ _ W)) kr rfl
  · have q0 := blk_cell (o := 0) hJ.wd.g rfl
    have q1 := blk_cell (o := 1) hJ.wd.g rfl
    have q2 := blk_cell (o := 2) hJ.wd.g rfl
    have e := (hF.out 25 (by decide)).trans e25
    refine st_value hJ hF hL (by decide) hd (v := .agg #[fl g0, fl g1, fl g2]) (W' := W) ?_ kr rfl
    unfold execOp
    simp only [hop, op29, e]
    simp [go_sem, q0, q1, q2]
  · exact st_value hJ hF hL (by decide) hd (run_move' hop W) kr ((hF.out 5 (by decide)).trans e5)
  · exact st_value hJ hF hL (by decide) hd (run_move' hop W) kr ((hF.out 6 (by decide)).trans e6)
  · exact st_value hJ hF hL (by decide) hd (run_move' hop W) kr ((hF.out 7 (by decide)).trans e7)
  · obtain ⟨_, x0, rfl⟩ := at_ 2 (by decide) (hdep 2 (by decide))
    obtain ⟨_, x1, rfl⟩ := at_ 3 (by decide) (hdep 3 (by decide))
    obtain ⟨_, x2, rfl⟩ := at_ 4 (by decide) (hdep 4 (by decide))
    refine st_value hJ hF hL (by decide) hd (v := .agg #[fl r, fl g, fl b]) (W' := W) (run_build' hop ?_) kr rfl
    show (Instr.build 27 #[(0, a.eval (.tmp (dst29 2))), (1, a.eval (.tmp (dst29 3))), (2, a.eval (.tmp (dst29 4)))]).run Ybad.prog W = _
    rw [x0, x1, x2]
    exact b27 _ _ _ W
  · obtain ⟨_, x0, rfl⟩ := at_ 5 (by decide) (hdep 5 (by decide))
    refine st_value hJ hF hL (by decide) hd (v := .agg #[fl 0, fl r, fl g, fl b]) (W' := W) (run_build' hop ?_) kr rfl
    show (Instr.build 29 #[(0, fl 0), (1, a.eval (.tmp (dst29 5)))]).run Ybad.prog W = _
    rw [x0]
    exact b29 _ _ _ _ W
  · exact st_value hJ hF hL (by decide) hd (run_move' hop W) kr ((hF.out 8 (by decide)).trans e8)
  · exact st_value hJ hF hL (by decide) hd (run_move' hop W) kr ((hF.out 9 (by decide)).trans e9)
  · exact st_value hJ hF hL (by decide) hd (run_move' hop W) kr ((hF.out 10 (by decide)).trans e10)
  · obtain ⟨_, x0, rfl⟩ := at_ 7 (by decide) (hdep 7 (by decide))
    obtain ⟨_, x1, rfl⟩ := at_ 8 (by decide) (hdep 8 (by decide))
    obtain ⟨_, x2, rfl⟩ := at_ 9 (by decide) (hdep 9 (by decide))
    refine st_value hJ hF hL (by decide) hd (v := .agg #[fl r', fl g', fl b']) (W' := W) (run_build' hop ?_) kr rfl
    show (Instr.build 27 #[(0, a.eval (.tmp (dst29 7))), (1, a.eval (.tmp (dst29 8))), (2, a.eval (.tmp (dst29 9)))]).run Ybad.prog W = _
    rw [x0, x1, x2]
    exact b27 _ _ _ W
  · obtain ⟨_, x0, rfl⟩ := at_ 10 (by decide) (hdep 10 (by decide))
    refine st_value hJ hF hL (by decide) hd (v := .agg #[fl 4607182418800017408, fl r', fl g', fl b']) (W' := W) (run_build' hop ?_) kr rfl
    show (Instr.build 29 #[(0, fl 4607182418800017408), (1, a.eval (.tmp (dst29 10)))]).run Ybad.prog W = _
    rw [x0]
    exact b29 _ _ _ _ W
  · obtain ⟨_, x0, rfl⟩ := at_ 6 (by decide) (hdep 6 (by decide))
    obtain ⟨_, x1, rfl⟩ := at_ 11 (by decide) (hdep 11 (by decide))
    have y0 : a.eval (.tmp 111) = _ := x0
    have y1 : a.eval (.tmp 116) = _ := x1
    refine st_value hJ hF hL (by decide) hd (v := .slice (some ⟨W.heap.size, 0, none⟩) 2 2) (W' := W.alloc (.cells (ents r g b r' g' b') 29)) ?_ ((Below.refl _ _).alloc (Nat.le_refl _) _) ⟨_, rfl, heap_alloc_new W _⟩
    unfold execOp
    simp only [hop, op29]
    simp only [List.map_toArray, List.map_cons, List.map_nil, y0, y1]
    simp [go_sem, ents]
  · have hid := identity_any W _ _ _ _ _ _ _ _ _ hJ.wd.id
    refine st_call hJ hF hL (by decide) hd (v := .agg (affV (dgm 4607182418800017408))) (f := 6) (args := #[]) ?_ (hid.mono ?_) (fun _ => rfl)
    · simp [execOp, hop, op29, go_sem]
    · rintro _ W' ⟨rfl, rfl⟩
      exact ⟨rfl, (Below.refl _ _).alloc (Nat.le_refl _) _⟩
  · exact st_value hJ hF hL (by decide) hd (run_move' hop W) kr ((hF.out 27 (by decide)).trans e27)
  · exact st_value hJ hF hL (by decide) hd (run_move' hop W) kr ((hF.out 27 (by decide)).trans e27)
  · exact st_value hJ hF hL (by decide) hd (run_move' hop W) kr ((hF.out 27 (by decide)).trans e27)
  · obtain ⟨_, x0, rfl⟩ := at_ 14 (by decide) (hdep 14 (by decide))
    obtain ⟨_, x1, rfl⟩ := at_ 15 (by decide) (hdep 15 (by decide))
    obtain ⟨_, x2, rfl⟩ := at_ 16 (by decide) (hdep 16 (by decide))
    refine st_value hJ hF hL (by decide) hd (v := .agg #[fl sc, fl sc, fl sc]) (W' := W) (run_build' hop ?_) kr rfl
    show (Instr.build 32 #[(0, a.eval (.tmp (dst29 14))), (1, a.eval (.tmp (dst29 15))), (2, a.eval (.tmp (dst29 16)))]).run Ybad.prog W = _
    rw [x0, x1, x2]
    exact b32 _ _ _ W
  · obtain ⟨_, x0, rfl⟩ := at_ 13 (by decide) (hdep 13 (by decide))
    obtain ⟨_, x1, rfl⟩ := at_ 17 (by decide) (hdep 17 (by decide))
    have y0 : a.eval (.tmp 118) = _ := x0
    have y1 : a.eval (.tmp 122) = _ := x1
    refine st_call hJ hF hL (by decide) hd (v := .agg (affV (dgm S))) (f := 10) (args := #[.agg (affV (dgm 4607182418800017408)), .agg #[fl sc, fl sc, fl sc]]) ?_ (scale_run sc S W hS) (fun _ => rfl)
    unfold execOp
    simp only [hop, op29]
    have z : a.eval (.func 10) = .func (.func 10) #[] #[] := rfl
    generalize a.eval = ρ at y0 y1 z ⊢
    simp [y0, y1, z, go_sem]
  · obtain ⟨_, x0, rfl⟩ := at_ 0 (by decide) (hdep 0 (by decide))
    obtain ⟨_, x1, rfl⟩ := at_ 1 (by decide) (hdep 1 (by decide))
    obtain ⟨_, x2, mb, rfl, hm⟩ := at_ 12 (by decide) (hdep 12 (by decide))
    obtain ⟨_, x3, rfl⟩ := at_ 18 (by decide) (hdep 18 (by decide))
    refine st_value hJ hF hL (by decide) hd (v := .agg (pigV g0 g1 g2 mb (dgm S))) (W' := W) (run_build' hop ?_) kr ⟨mb, rfl, hm⟩
    show (Instr.build 41 #[(0, a.eval (.tmp (dst29 0))), (3, a.eval (.tmp (dst29 1))), (4, a.eval (.tmp (dst29 12))), (5, a.eval (.tmp (dst29 18)))]).run Ybad.prog W = _
    rw [x0, x1, x2, x3]
    exact b41 _ _ _ _ _ W
  · obtain ⟨Z, hz, hal⟩ := alloc41
    refine st_value hJ hF hL (by decide) hd (v := .pointer (some ⟨W.heap.size, 0, none⟩)) (W' := W.alloc (.cells Z 41)) ?_ ((Below.refl _ _).alloc (Nat.le_refl _) _) ⟨_, Z, rfl, heap_alloc_new W _, hz, Nat.le_of_lt (blk_lt hJ.wd.g)⟩
    exact hal a o W hop
  · obtain ⟨_, x0, pb, old, e20, hp, hs, hgp⟩ := at_ 20 (by decide) (hdep 20 (by decide))
    obtain ⟨_, x1, mb, rfl, hm⟩ := at_ 19 (by decide) (hdep 19 (by decide))
    have hv28 : vals 28 = .pointer (some ⟨pb, 0, none⟩) := (inn 20 (by decide) (hdep 20 (by decide))).symm.trans (x0.trans e20)
    refine wp_store_row 41 (.tmp 28) (.tmp 124) hop pb (pigV g0 g1 g2 mb (dgm S)) (x0.trans e20) x1 41 old hp size41 hs (by simp [pigV, Value.oneCell']) ?_
    rw [hd]
    refine ⟨vals, ?_, hJ.last (hdep 20 (by decide)) hv28 hp hgp hm⟩
    rw [hF.same]
    rfl
end

end Go.Proofs.YbulkdcwkDoor
