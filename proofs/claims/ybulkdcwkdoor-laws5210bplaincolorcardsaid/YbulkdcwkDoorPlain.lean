/-
  OWN WORK. The walk of 'LawS5210BPlainColor'.
-/
import Derived.Test.YbulkdcwkDoorParts
namespace Go.Proofs.YbulkdcwkDoor
open Go.RowKit
attribute [local go_sem] run_store_float run_equalIn_float

theorem hid_of {p : Prop} (h : p) : Hid p := h
theorem info29 : (Ybad.prog.info? 29).map (fun i => (i.zero, i.size, i.bytes)) = some (some (.agg #[.float .f64 0, .float .f64 0, .float .f64 0, .float .f64 0]), 4, 32) := by kernel_rfl
theorem neqNil23n (w : World) : (binOp .neq 23 (.slice none 0 0) (.slice none 0 0)).run Ybad.prog w = .ok (.bool false) w := by kernel_rfl
theorem neqNil23s (a : Addr) (n c : Nat) (w : World) : (binOp .neq 23 (.slice (some a) n c) (.slice none 0 0)).run Ybad.prog w = .ok (.bool true) w := by kernel_rfl

theorem Ident.below {w W : World} {B m0 m1 m2 m3 m4 m5 m6 m7 m8 : Nat} (h : Ident w m0 m1 m2 m3 m4 m5 m6 m7 m8) (hb : Below B w W) (hB : 0 < B) : Ident W m0 m1 m2 m3 m4 m5 m6 m7 m8 :=
  ⟨(hb.cell (p := ⟨0, 0, none⟩) hB).trans h.c0, (hb.cell (p := ⟨0, 1, none⟩) hB).trans h.c1, (hb.cell (p := ⟨0, 2, none⟩) hB).trans h.c2, (hb.cell (p := ⟨0, 3, none⟩) hB).trans h.c3, (hb.cell (p := ⟨0, 4, none⟩) hB).trans h.c4,
    (hb.cell (p := ⟨0, 5, none⟩) hB).trans h.c5, (hb.cell (p := ⟨0, 6, none⟩) hB).trans h.c6, (hb.cell (p := ⟨0, 7, none⟩) hB).trans h.c7, (hb.cell (p := ⟨0, 8, none⟩) hB).trans h.c8⟩

set_option maxHeartbeats 400000 in
theorem plain_long (r g b px py pz : Nat) (nx ny nz : Bool) (ao : Option Addr) (len cap0 : Nat) (w : World) (hlen : 1024 < len) :
    Calls Ybad.prog 3 #[.float .f64 r, .float .f64 g, .float .f64 b, .bool nx, .bool ny, .bool nz, .float .f64 px, .float .f64 py, .float .f64 pz, .slice ao len cap0] w fun e w' => e = .returned (.bool true) ∧ Below w.heap.size w w' := by
  go_enter Ybad.func3, Ybad.ntmps3
  go_wp2_with fail
  go_ret
  exact ⟨rfl, Below.refl _ _⟩

set_option maxRecDepth 100000 in
set_option maxHeartbeats 400000 in
theorem plain_nil (r g b px py pz : Nat) (nx ny nz : Bool) (w : World) (m0 m1 m2 m3 m4 m5 m6 m7 m8 : Nat) (HI : Hid (Ident w m0 m1 m2 m3 m4 m5 m6 m7 m8)) :
    Calls Ybad.prog 3 #[.float .f64 r, .float .f64 g, .float .f64 b, .bool nx, .bool ny, .bool nz, .float .f64 px, .float .f64 py, .float .f64 pz, .slice none 0 0] w fun e w' => e = .returned (.bool true) ∧ Below w.heap.size w w' := by
  have hnn := neqNil23n
  have HBel : Hid (Below w.heap.size w w) := Below.refl _ _
  go_enter Ybad.func3, Ybad.ntmps3
  have hI : Ident w m0 m1 m2 m3 m4 m5 m6 m7 m8 := HI.out
  have hpos : 0 < w.heap.size := World.block_lt_of_cell? w _ hI.c0
  go_wp2_with (go_at_call 5; refine (signed_any _ _).mono ?_; rintro e w' ⟨rfl, rfl⟩)
  refine (identity_any _ _ _ _ _ _ _ _ _ _ hI).mono ?_
  rintro e w' ⟨rfl, rfl⟩
  go_wp2_with (first
    | (refine wpList_build41 rfl _ _ _ _ rfl r g b (sg nx) (sg ny) (sg nz) m0 m1 m2 m3 m4 m5 m6 m7 m8 _ _ _ rfl rfl rfl rfl ?_)
    | (refine wpList_store_new _ rfl 41 _ _ rfl 41 _ _ _ (by simp) rfl rfl 21 size41 (by rfl) (by rfl) (by rfl) ?_))
  refine (at_plain _ r g b px py pz (sg nx) (sg ny) (sg nz) _ (by simp) (sg_eq _) (sg_eq _) (sg_eq _) (by simp) (by simp) (by simp) (by simp) (by simp) (by simp)).mono ?_
  rintro e w1 ⟨rfl, hb1⟩
  have hsz := hb1.size
  go_wp2_with (first
    | (go_at_call 8; refine (same_any _ _).mono ?_; rintro e w' ⟨rfl, rfl⟩))
  go_ret
  exact ⟨rfl, (((((HBel.out.alloc (by exact HBel.out.size) _).alloc (by have := HBel.out.size; simp <;> omega) _).trans (hb1.mono (by have := HBel.out.size; simp <;> omega))).alloc (by have := HBel.out.size; simp at hsz; omega) _))⟩

set_option maxRecDepth 100000 in
set_option maxHeartbeats 800000 in
theorem plain_some (r g b px py pz : Nat) (nx ny nz : Bool) (ad : Addr) (len cap0 : Nat) (z : Nat → Nat) (w : World) (m0 m1 m2 m3 m4 m5 m6 m7 m8 : Nat) (HI0 : Hid (Ident w m0 m1 m2 m3 m4 m5 m6 m7 m8)) (hlen : len ≤ 1024)
    (hcell : ∀ k, k < len → w.cell? (ad.add k) = some (.float .f64 (z k))) :
    Calls Ybad.prog 3 #[.float .f64 r, .float .f64 g, .float .f64 b, .bool nx, .bool ny, .bool nz, .float .f64 px, .float .f64 py, .float .f64 pz, .slice (some ad) len cap0] w fun e w' => e = .returned (.bool true) ∧ Below w.heap.size w w' := by
  have hnn := neqNil23s
  have HC : Hid (∀ k, k < len → w.cell? (ad.add k) = some (.float .f64 (z k))) := hcell
  clear hcell
  obtain ⟨i29, hi, hz0, hz1, hz2⟩ := info_parts info29
  go_enter Ybad.func3, Ybad.ntmps3
  go_wp2_with (at_make; refine wpList_make_own _ rfl _ _ 25 rfl w.heap.size 29 i29 _ 4 Ybad.underlying25 hi hz0 hz1 _ _ _ len rfl rfl rfl (by rw [hz2]; omega) (by unfold maxLen; omega) (Nat.le_refl _) ?_)
  intro w1 hown hgrow
  have hbel1 : Below w.heap.size w w1 := (Below.refl _ _).grown hgrow (Nat.le_refl _) (fun k h => by cases h)
  have HO := hid_of hown
  have HBel1 := hid_of hbel1
  clear hown hgrow hbel1
  go_wp2_with fail
  go_loopg [21, 22] len (fun gk mv iv W => ∃ (k : Nat) (xs : List Value), k ≤ len ∧ gk = len - k ∧ iv = .int .i64 k ∧ mv = .slice (some ⟨w.heap.size, 0, none⟩) k len ∧ Hid (W.ownsRow w.heap.size 29 4 (.slice (some ⟨w.heap.size, 0, none⟩) k len) k xs) ∧ Hid (Below w.heap.size w W))
  case atStart => exact ⟨0, [], Nat.zero_le _, rfl, rfl, rfl, HO, HBel1⟩
  case round =>
    clear HO HBel1
    obtain ⟨k, xs, hk, hgk, rfl, rfl, HO, HBel⟩ := hrel
    by_cases hlt : k < len
    · have hc : wr.cell? (ad.add k) = some (.float .f64 (z k)) := (HBel.out.cell (p := ad.add k) (World.block_lt_of_cell? w _ (HC.out k hlt))).trans (HC.out k hlt)
      go_wp2_with (at_builtin; refine wpList_append_fits _ rfl _ _ 25 rfl w.heap.size 29 i29 4 Ybad.underlying25 hi hz1 w.heap.size k len xs rfl (by exact HO.out.alloc _) _ 1 1 [.float .f64 (z k), .float .f64 (z k), .float .f64 (z k), .float .f64 (z k)] rfl rfl (by exact new_cells _ _ _) (by simp [Value.oneCell']) (by omega) ?_)
      intro w2 hown2 hgrow2
      have HO2 := hid_of hown2
      have HBel2 : Hid (Below w.heap.size w w2) := (HBel.out.alloc HBel.out.size _).grown hgrow2 (by have := HBel.out.size; simp; omega) (fun j h => by cases h; exact Nat.le_refl _)
      clear hown2 hgrow2
      go_wp2_with fail
      go_roundg (len - (k + 1))
      case measure => omega
      case rel => exact ⟨k + 1, _, by omega, rfl, by go_num, rfl, HO2, HBel2⟩
    · have HI : Hid (Ident wr m0 m1 m2 m3 m4 m5 m6 m7 m8) := HI0.out.below HBel.out (World.block_lt_of_cell? w _ HI0.out.c0)
      have hI : Ident wr m0 m1 m2 m3 m4 m5 m6 m7 m8 := HI.out
      have hpos : 0 < wr.heap.size := World.block_lt_of_cell? wr _ hI.c0
      go_wp2_with (go_at_call 5; refine (signed_any _ _).mono ?_; rintro e w' ⟨rfl, rfl⟩)
      refine (identity_any _ _ _ _ _ _ _ _ _ _ hI).mono ?_
      rintro e w' ⟨rfl, rfl⟩
      go_wp2_with (first
        | (refine wpList_build41 rfl _ _ _ _ rfl r g b (sg nx) (sg ny) (sg nz) m0 m1 m2 m3 m4 m5 m6 m7 m8 _ _ _ rfl rfl rfl rfl ?_)
        | (refine wpList_store_new _ rfl 41 _ _ rfl 41 _ _ _ (by simp) rfl rfl 21 size41 (by rfl) (by rfl) (by rfl) ?_))
      refine (at_plain _ r g b px py pz (sg nx) (sg ny) (sg nz) _ (by simp) (sg_eq _) (sg_eq _) (sg_eq _) (by simp) (by simp) (by simp) (by simp) (by simp) (by simp)).mono ?_
      rintro e w1 ⟨rfl, hb1⟩
      have hsz := hb1.size
      go_wp2_with (first
        | (go_at_call 8; refine (same_any _ _).mono ?_; rintro e w' ⟨rfl, rfl⟩))
      go_ret
      exact ⟨rfl, (((((HBel.out.alloc (by exact HBel.out.size) _).alloc (by have := HBel.out.size; simp <;> omega) _).trans (hb1.mono (by have := HBel.out.size; simp <;> omega))).alloc (by have := HBel.out.size; simp at hsz; omega) _))⟩

end Go.Proofs.YbulkdcwkDoor
