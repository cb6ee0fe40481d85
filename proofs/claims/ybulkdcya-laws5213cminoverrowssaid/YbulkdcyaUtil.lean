/-
  OWN WORK. slices.Clone, slices.Equal over rows; 'newKnowledge'.
-/
import Derived.Test.YbulkdcyaSet
namespace Go.Proofs.Ybulkdcya
open Go.RowKit

/-! ### slices.Equal -/

set_option maxHeartbeats 400000 in
theorem equal_byte (b1 b2 N c1 c2 : Nat) (f : Nat → Int) (w : World) (h1 : RowI w b1 5 .u8 N f) (h2 : RowI w b2 5 .u8 N f) (hN : N ≤ 1600) :
    Calls Yba.prog 10 #[.slice (some ⟨b1, 0, none⟩) N c1, .slice (some ⟨b2, 0, none⟩) N c2] w fun r w' => r = .returned (.bool true) ∧ ∃ d, w' = w.drewN d := by
  have H1 := hid_of h1
  have H2 := hid_of h2
  clear h1 h2
  go_enter Yba.func10, Yba.ntmps10
  go_wp2_with fail
  go_loopg [13] N (fun gk jv W => ∃ (j d : Nat), j ≤ N ∧ gk = N - j ∧ jv = .int .i64 j ∧ W = w.drewN d)
  case atStart => exact ⟨0, 0, Nat.zero_le _, rfl, rfl, rfl⟩
  case round =>
    obtain ⟨j, d, hj, hgk, rfl, rfl⟩ := hrel
    by_cases hlt : j < N
    · have g1 := H1.out.cell hlt
      have g2 := H2.out.cell hlt
      go_wp2_with (go_quiet (fail))
      go_roundg (N - (j + 1))
      · exact ⟨j + 1, _, by omega, rfl, rfl, rfl⟩
      · omega
    · go_wp2_with fail
      go_ret
      exact ⟨rfl, d, rfl⟩

set_option maxHeartbeats 400000 in
theorem equal_int (b1 b2 N c1 c2 : Nat) (f : Nat → Int) (w : World) (h1 : RowI w b1 3 .i64 N f) (h2 : RowI w b2 3 .i64 N f) (hN : N ≤ 1600) :
    Calls Yba.prog 11 #[.slice (some ⟨b1, 0, none⟩) N c1, .slice (some ⟨b2, 0, none⟩) N c2] w fun r w' => r = .returned (.bool true) ∧ ∃ d, w' = w.drewN d := by
  have H1 := hid_of h1
  have H2 := hid_of h2
  clear h1 h2
  go_enter Yba.func11, Yba.ntmps11
  go_wp2_with fail
  go_loopg [13] N (fun gk jv W => ∃ (j d : Nat), j ≤ N ∧ gk = N - j ∧ jv = .int .i64 j ∧ W = w.drewN d)
  case atStart => exact ⟨0, 0, Nat.zero_le _, rfl, rfl, rfl⟩
  case round =>
    obtain ⟨j, d, hj, hgk, rfl, rfl⟩ := hrel
    by_cases hlt : j < N
    · have g1 := H1.out.cell hlt
      have g2 := H2.out.cell hlt
      go_wp2_with (go_quiet (fail))
      go_roundg (N - (j + 1))
      · exact ⟨j + 1, _, by omega, rfl, rfl, rfl⟩
      · omega
    · go_wp2_with fail
      go_ret
      exact ⟨rfl, d, rfl⟩

set_option maxHeartbeats 400000 in
theorem equal_nil (w : World) : Calls Yba.prog 11 #[.slice none 0 0, .slice none 0 0] w fun r w' => r = .returned (.bool true) ∧ ∃ d, w' = w.drewN d := by
  go_enter Yba.func11, Yba.ntmps11
  go_wp2_with fail
  go_loopg [13] 0 (fun gk jv W => gk = 0 ∧ jv = .int .i64 0 ∧ W = w)
  case atStart => exact ⟨rfl, rfl, rfl⟩
  case round =>
    obtain ⟨hgk, rfl, rfl⟩ := hrel
    go_wp2_with fail
    go_ret
    exact ⟨rfl, 0, rfl⟩

/-! ### slices.Clone -/

theorem eqNil23n (w : World) : (binOp .eql 23 (.slice none 0 0) (.slice none 0 0)).run Yba.prog w = .ok (.bool true) w := by kernel_rfl
theorem eqNil23s (a : Addr) (n c : Nat) (w : World) : (binOp .eql 23 (.slice (some a) n c) (.slice none 0 0)).run Yba.prog w = .ok (.bool false) w := by kernel_rfl
theorem eqNil24s (a : Addr) (n c : Nat) (w : World) : (binOp .eql 24 (.slice (some a) n c) (.slice none 0 0)).run Yba.prog w = .ok (.bool false) w := by kernel_rfl
theorem neqNil23n (w : World) : (binOp .neq 23 (.slice none 0 0) (.slice none 0 0)).run Yba.prog w = .ok (.bool false) w := by kernel_rfl
theorem neqNil23s (a : Addr) (n c : Nat) (w : World) : (binOp .neq 23 (.slice (some a) n c) (.slice none 0 0)).run Yba.prog w = .ok (.bool true) w := by kernel_rfl

theorem clone_nil (w : World) : Calls Yba.prog 8 #[.slice none 0 0] w fun r w' => r = .returned (.slice none 0 0) ∧ w' = w := by
  have q := eqNil23n w
  go_enter Yba.func8, Yba.ntmps8
  go_wp2
  go_ret
  exact ⟨rfl, rfl⟩

/-- The row's values as a list. -/
def vals (k : IntKind) (N : Nat) (f : Nat → Int) : List Value := (List.range N).map fun i => .int k (f i)

theorem length_vals {k : IntKind} {N : Nat} {f : Nat → Int} : (vals k N f).length = N := by simp [vals]
theorem vals_at {k : IntKind} {N : Nat} {f : Nat → Int} {j : Nat} {u : Value} (h : (vals k N f)[j]? = some u) : j < N ∧ u = .int k (f j) := by
  have hj : j < N := by
    have := (List.getElem?_eq_some_iff.1 h).1
    simpa [vals] using this
  simp [vals, hj] at h
  exact ⟨hj, h.symm⟩
theorem vals_one {k : IntKind} {N : Nat} {f : Nat → Int} : ∀ u ∈ vals k N f, u.oneCell' = true := by
  intro u hu
  simp [vals] at hu
  obtain ⟨i, _, rfl⟩ := hu
  rfl

/-- An owned row of such values. -/
theorem RowI.owned {w : World} {base g t : Nat} {k : IntKind} {N n cap : Nat} {f : Nat → Int} (hn : n = N) (h : w.ownsRow base t 1 (.slice (some ⟨g, 0, none⟩) n cap) n (vals k N f)) : RowI w g t k N f := by
  subst hn
  rcases h.2 with ⟨h1, _⟩ | ⟨g', cap', cur, hv, _, hg, _, _, hs, ht⟩
  · simp at h1
  · simp at hv
    obtain ⟨rfl, rfl⟩ := hv
    refine ⟨cur, hg, by omega, fun i hi => ?_⟩
    have e1 : (cur.toList.take (n * 1))[i]? = cur[i]? := by simp [hi]
    rw [← e1, ht]
    simp [vals, hi]


theorem new_block (w : World) (o : Obj) : (w.alloc o).heap[w.heap.size]? = some o := by
  have h : (w.alloc o).heap = w.heap.push o := rfl
  rw [h]; simp

theorem owned_empty (w : World) (t : TypeId) : (w.alloc (.cells #[] t)).ownsRow w.heap.size t 1 (.slice (some ⟨w.heap.size, 0, none⟩) 0 0) 0 [] := by
  refine ⟨rfl, .inr ⟨w.heap.size, 0, #[], rfl, Nat.le_refl _, new_block w _, Nat.le_refl _, Nat.zero_le _, rfl, rfl⟩⟩

theorem RowI.alloc_cells {w : World} {b t : Nat} {k : IntKind} {N : Nat} {f : Nat → Int} (h : RowI w b t k N f) (o : Obj) {j : Nat} {u : Value} (hu : (vals k N f)[j]? = some u) : (w.alloc o).cell? (Addr.add ⟨b, 0, none⟩ j) = some u := by
  obtain ⟨hj, rfl⟩ := vals_at hu
  have h2 := (h.kept ((World.grownBy_alloc w o none).block b h.lt (by simp))).cell hj
  rw [show Addr.add ⟨b, 0, none⟩ j = ⟨b, j, none⟩ by simp [Addr.add]; intro e; exact e.symm]
  exact h2

theorem own_slice {w : World} {base t n : Nat} {v : Value} {xs : List Value} (h : w.ownsRow base t 1 v n xs) (hn : v ≠ .slice none 0 0) : ∃ g cap, v = .slice (some ⟨g, 0, none⟩) n cap ∧ base ≤ g := by
  rcases h.2 with ⟨h1, _⟩ | ⟨g, cap, cur, hv, hb, _⟩
  · exact absurd h1 hn
  · exact ⟨g, cap, hv, hb⟩

set_option maxRecDepth 100000 in
set_option maxHeartbeats 400000 in
theorem clone_byte (b N cap : Nat) (f : Nat → Int) (w : World) (h : RowI w b 5 .u8 N f) (hN : N ≤ 1600) :
    Calls Yba.prog 7 #[.slice (some ⟨b, 0, none⟩) N cap] w fun r w' => ∃ cb cap', r = .returned (.slice (some ⟨cb, 0, none⟩) N cap') ∧ w.heap.size ≤ cb ∧ RowI w' cb 5 .u8 N f ∧ w.grownBy w' none := by
  have q := eqNil24s ⟨b, 0, none⟩ N cap w
  obtain ⟨i5, hi, hz0, hz1, hz2⟩ := info_parts info5
  have H := hid_of h
  have hbl := h.lt
  clear h
  go_enter Yba.func7, Yba.ntmps7
  go_wp2_with (at_builtin; refine wpList_append_own _ rfl _ _ 24 rfl w.heap.size 5 i5 (.int .u8 0) 1 1 Yba.underlying24 hi hz0 hz1 hz2 rfl (by decide) _ 0 [] rfl (owned_empty w 5) ⟨b, 0, none⟩ N cap (vals .u8 N f) rfl (by simp [length_vals]) ?cells vals_one (by unfold maxLen; omega) (by omega) (by simp) ?_)
  case cells => exact fun j u hu => (H.out.alloc_cells _ hu)
  intro v' w' hown hg hnil
  obtain ⟨cb, cap', rfl, hle⟩ := own_slice hown hnil
  go_wp2_with fail
  go_ret
  refine ⟨cb, cap', rfl, hle, RowI.owned rfl hown, ?_⟩
  exact (World.grownBy_alloc w _ none).andThen hg (fun j hj => by simp [Value.ownBlock] at hj; omega)

set_option maxRecDepth 100000 in
set_option maxHeartbeats 400000 in
theorem clone_int (b N cap : Nat) (f : Nat → Int) (w : World) (h : RowI w b 3 .i64 N f) (hN : N ≤ 1600) :
    Calls Yba.prog 8 #[.slice (some ⟨b, 0, none⟩) N cap] w fun r w' => ∃ cb cap', r = .returned (.slice (some ⟨cb, 0, none⟩) N cap') ∧ w.heap.size ≤ cb ∧ RowI w' cb 3 .i64 N f ∧ w.grownBy w' none := by
  have q := eqNil23s ⟨b, 0, none⟩ N cap w
  obtain ⟨i5, hi, hz0, hz1, hz2⟩ := info_parts info3
  have H := hid_of h
  have hbl := h.lt
  clear h
  go_enter Yba.func8, Yba.ntmps8
  go_wp2_with (at_builtin; refine wpList_append_own _ rfl _ _ 23 rfl w.heap.size 3 i5 (.int .i64 0) 1 8 Yba.underlying23 hi hz0 hz1 hz2 rfl (by decide) _ 0 [] rfl (owned_empty w 3) ⟨b, 0, none⟩ N cap (vals .i64 N f) rfl (by simp [length_vals]) ?cells vals_one (by unfold maxLen; omega) (by omega) (by simp) ?_)
  case cells => exact fun j u hu => (H.out.alloc_cells _ hu)
  intro v' w' hown hg hnil
  obtain ⟨cb, cap', rfl, hle⟩ := own_slice hown hnil
  go_wp2_with fail
  go_ret
  refine ⟨cb, cap', rfl, hle, RowI.owned rfl hown, ?_⟩
  exact (World.grownBy_alloc w _ none).andThen hg (fun j hj => by simp [Value.ownBlock] at hj; omega)

/-! ### newKnowledge -/

set_option maxRecDepth 100000 in
set_option maxHeartbeats 400000 in
theorem new_run (n : Nat) (w : World) (hn : n ≤ 40) :
    Calls Yba.prog 4 #[.int .i64 n] w fun r w' => ∃ lb, r = .returned (.agg #[.int .i64 n, .slice (some ⟨lb, 0, none⟩) (n * n) (n * n), .slice none 0 0]) ∧ w.heap.size ≤ lb ∧ RowI w' lb 5 .u8 (n * n) (fun _ => 0) ∧ w.grownBy w' none := by
  obtain ⟨i5, hi, hz0, hz1, hz2⟩ := info_parts info5
  have hN := sq_le hn
  go_enter Yba.func4, Yba.ntmps4
  go_wp2_with (at_make; refine wpList_make_full _ rfl _ _ 24 rfl w.heap.size 5 i5 _ 1 Yba.underlying24 hi hz0 hz1 _ _ _ _ (n * n) rfl rfl (by simp) (by simp) (by rw [hz2]; omega) (by unfold maxLen; omega) (by simp) ?_)
  intro w1 hown hg
  have hrow := RowI.made hown
  have hmb : w1.heap[w.heap.size]? = _ := (hg.block w.heap.size (by simp) (by simp)).trans (new_block w _)
  have m0 : w1.cell? ⟨w.heap.size, 0, none⟩ = some (.int .i64 0) := by rw [cell_of_row _ _ _ _ _ _ hmb]; rfl
  have m1 : w1.cell? ⟨w.heap.size, 1, none⟩ = some (.slice none 0 0) := by rw [cell_of_row _ _ _ _ _ _ hmb]; rfl
  have m2 : w1.cell? ⟨w.heap.size, 2, none⟩ = some (.slice none 0 0) := by rw [cell_of_row _ _ _ _ _ _ hmb]; rfl
  have q0 : w1.frozen? ⟨w.heap.size, 0, none⟩ = false := by simp [World.frozen?, hmb]
  have q1 : w1.frozen? ⟨w.heap.size, 1, none⟩ = false := by simp [World.frozen?, hmb]
  have q2 : w1.frozen? ⟨w.heap.size, 2, none⟩ = false := by simp [World.frozen?, hmb]
  have HR := hid_of hrow
  have HG := hid_of hg
  clear hown hg hrow hmb
  go_wp2_with fail
  refine bodyPost_ret (v := .agg #[.int .i64 n, .slice (some ⟨w.heap.size + 1, 0, none⟩) (n * n) (n * n), .slice none 0 0]) (by simp [results, Yba.results4, go_sem, m0, m1, m2]) rfl ⟨w.heap.size + 1, rfl, Nat.le_succ _, ?_, ?_⟩
  · exact HR.out.kept ((Below.heap_setCell _ _ _ _ (by simp)).trans ((Below.heap_setCell _ _ _ _ (by simp)).trans (Below.heap_setCell _ _ _ _ (by simp))))
  · refine ((World.grownBy_alloc w _ none).andThen HG.out (fun j hj => by cases hj)).andThen (((grown_setCell _ _ _ _).trans (grown_setCell _ _ _ _)).trans (grown_setCell _ _ _ _)) (fun j hj => ?_)
    cases hj
    exact .inl (Nat.le_refl _)

end Go.Proofs.Ybulkdcya
