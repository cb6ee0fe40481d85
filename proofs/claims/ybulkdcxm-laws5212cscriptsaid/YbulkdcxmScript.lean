/-
  OWN WORK. The walks of 'LawS5212CScript'.
-/
import Derived.Test.YbulkdcxmRows
import Derived.WalkKit
import Derived.WalkSpells
import Derived.Laws.EntriesVeiled
import Derived.RegionTactic
import Derived.Deep.RegionWith
import Derived.Deep.LoopGhost
namespace Go.Proofs.Ybulkdcxm.lawS5212CScript
open Go.RowKit

/-- The world of the law: block N the slice 'answers', N+1 the turns value, N+2 the variable t, N+3 calls, N+4 seen. -/
structure Sc (w : World) (N : Nat) (ao : Option Addr) (lenA capA : Nat) (left calls seen : Int) : Prop where
  size : N + 4 < w.heap.size
  c0 : w.cell? ⟨N, 0, none⟩ = some (.slice ao lenA capA)
  c1 : w.cell? ⟨N + 1, 1, none⟩ = some (.int .i64 left)
  c2 : w.cell? ⟨N + 1, 3, none⟩ = some (.func (Fn.func 7) #[] #[.pointer (some ⟨N + 3, 0, none⟩), .pointer (some ⟨N, 0, none⟩), .pointer (some ⟨N + 2, 0, none⟩), .pointer (some ⟨N + 4, 0, none⟩)])
  c3 : w.cell? ⟨N + 2, 0, none⟩ = some (.pointer (some ⟨N + 1, 0, none⟩))
  c4 : w.cell? ⟨N + 3, 0, none⟩ = some (.int .i64 calls)
  c5 : w.cell? ⟨N + 4, 0, none⟩ = some (.int .i64 seen)
  f1 : w.frozen? ⟨N + 1, 1, none⟩ = false
  f4 : w.frozen? ⟨N + 3, 0, none⟩ = false
  f5 : w.frozen? ⟨N + 4, 0, none⟩ = false

theorem Sc.drew {w : World} {N : Nat} {ao : Option Addr} {lenA capA : Nat} {left calls seen : Int} (h : Sc w N ao lenA capA left calls seen) : Sc w.drew N ao lenA capA left calls seen :=
  ⟨h.size, h.c0, h.c1, h.c2, h.c3, h.c4, h.c5, h.f1, h.f4, h.f5⟩

theorem Sc.step {w : World} {N : Nat} {ao : Option Addr} {lenA capA : Nat} {left calls seen : Int} (h : Sc w N ao lenA capA left calls seen) (L c : Int) (o1 o2 : Obj) :
    Sc (((((w.setCell ⟨N + 1, 1, none⟩ (.int .i64 L)).setCell ⟨N + 3, 0, none⟩ (.int .i64 c)).setCell ⟨N + 4, 0, none⟩ (.int .i64 L)).alloc o1).alloc o2) N ao lenA capA L c L ∧
      Below N w (((((w.setCell ⟨N + 1, 1, none⟩ (.int .i64 L)).setCell ⟨N + 3, 0, none⟩ (.int .i64 c)).setCell ⟨N + 4, 0, none⟩ (.int .i64 L)).alloc o1).alloc o2) := by
  obtain ⟨size, c0, c1, c2, c3, c4, c5, f1, f4, f5⟩ := h
  generalize hv : ((w.setCell ⟨N + 1, 1, none⟩ (.int .i64 L)).setCell ⟨N + 3, 0, none⟩ (.int .i64 c)).setCell ⟨N + 4, 0, none⟩ (.int .i64 L) = v
  have hsz : v.heap.size = w.heap.size := by rw [← hv]; simp [World.setCell]
  have hb : ∀ k, k < w.heap.size → ((v.alloc o1).alloc o2).heap[k]? = v.heap[k]? := fun k hk => (Below.heap_alloc _ _ _ (by simp; omega)).trans (Below.heap_alloc _ _ _ (by omega))
  have hc : ∀ k o, k < w.heap.size → ((v.alloc o1).alloc o2).cell? ⟨k, o, none⟩ = v.cell? ⟨k, o, none⟩ := fun k o hk => World.cell?_of_block (a := ⟨k, o, none⟩) (hb k hk)
  have hf : ∀ k o, k < w.heap.size → ((v.alloc o1).alloc o2).frozen? ⟨k, o, none⟩ = v.frozen? ⟨k, o, none⟩ := fun k o hk => World.frozen?_of_block (a := ⟨k, o, none⟩) (hb k hk)
  refine ⟨⟨?_, ?_, ?_, ?_, ?_, ?_, ?_, ?_, ?_, ?_⟩, ?_⟩
  · simp; omega
  · rw [hc _ _ (by omega), ← hv, World.cell?_setCell_other _ _ _ _ (by simp), World.cell?_setCell_other _ _ _ _ (by simp), World.cell?_setCell_other _ _ _ _ (by simp), c0]
  · rw [hc _ _ (by omega), ← hv, World.cell?_setCell_other _ _ _ _ (by simp), World.cell?_setCell_other _ _ _ _ (by simp), World.cell?_setCell_same' _ _ _ (by rw [c1]; rfl)]
  · rw [hc _ _ (by omega), ← hv, World.cell?_setCell_other _ _ _ _ (by simp), World.cell?_setCell_other _ _ _ _ (by simp), World.cell?_setCell_other _ _ _ _ (by simp), c2]
  · rw [hc _ _ (by omega), ← hv, World.cell?_setCell_other _ _ _ _ (by simp), World.cell?_setCell_other _ _ _ _ (by simp), World.cell?_setCell_other _ _ _ _ (by simp), c3]
  · rw [hc _ _ (by omega), ← hv, World.cell?_setCell_other _ _ _ _ (by simp), World.cell?_setCell_same' _ _ _ (by rw [World.cell?_setCell_other _ _ _ _ (by simp), c4]; rfl)]
  · rw [hc _ _ (by omega), ← hv, World.cell?_setCell_same' _ _ _ (by rw [World.cell?_setCell_other _ _ _ _ (by simp), World.cell?_setCell_other _ _ _ _ (by simp), c5]; rfl)]
  · rw [hf _ _ (by omega), ← hv]; simpa using f1
  · rw [hf _ _ (by omega), ← hv]; simpa using f4
  · rw [hf _ _ (by omega), ← hv]; simpa using f5
  · refine (Below.alloc (Below.alloc ?_ (by omega) o1) (by simp; omega) o2)
    rw [← hv]
    exact (((Below.refl _ _).setCell (by simp) _).setCell (by simp) _).setCell (by simp) _

set_option maxRecDepth 100000 in
set_option maxHeartbeats 1000000 in
/-- One take, the script of answers still going on. -/
theorem take_in (w : World) (N bb off lenA capA k : Nat) (left seen st : Int) (b : Bool) (h : Sc w N (some ⟨bb, off, none⟩) lenA capA left k seen) (hk : k < lenA) (hl : lenA ≤ 1024) (hc : w.cell? ⟨bb, off + k, none⟩ = some (.bool b)) (hb : bb < N) :
    Calls Yba.prog 6 #[.pointer (some ⟨N + 1, 0, none⟩), .int .i64 st] w fun e w' => e = .returned (.bool (!b)) ∧ Sc w' N (some ⟨bb, off, none⟩) lenA capA (wrap64 (left + st)) (↑k + 1) (wrap64 (left + st)) ∧ Below N w w' := by
  have HS : Hid (Sc w N (some ⟨bb, off, none⟩) lenA capA left k seen) := h
  obtain ⟨size, c0, c1, c2, c3, c4, c5, f1, f4, f5⟩ := h
  have s0 : N < w.heap.size := by omega
  have s1 : N + 1 < w.heap.size := by omega
  have s2 : N + 2 < w.heap.size := by omega
  have s3 : N + 3 < w.heap.size := by omega
  have sb : bb < w.heap.size := by omega
  have n1 : ¬ bb = N + 1 := by omega
  have n3 : ¬ bb = N + 3 := by omega
  have n4 : ¬ bb = N + 4 := by omega
  go_enter Yba.func6, Yba.ntmps6
  go_wp2
  refine bodyPost_ret (v := .tuple #[.agg #[], .bool b]) (by simp [results, Yba.results7, go_sem]) rfl ?_
  go_wp2
  go_ret
  exact ⟨rfl, HS.out.step _ _ _ _⟩

set_option maxRecDepth 100000 in
set_option maxHeartbeats 1000000 in
/-- One take, behind the script's end. -/
theorem take_out (w : World) (N : Nat) (ao : Option Addr) (lenA capA k : Nat) (left seen st : Int) (h : Sc w N ao lenA capA left k seen) (hk : ¬ k < lenA) (hk2 : k ≤ 1024) :
    Calls Yba.prog 6 #[.pointer (some ⟨N + 1, 0, none⟩), .int .i64 st] w fun e w' => e = .returned (.bool true) ∧ Sc w' N ao lenA capA (wrap64 (left + st)) (↑k + 1) (wrap64 (left + st)) ∧ Below N w w' := by
  have HS : Hid (Sc w N ao lenA capA left k seen) := h
  obtain ⟨size, c0, c1, c2, c3, c4, c5, f1, f4, f5⟩ := h
  have s0 : N < w.heap.size := by omega
  have s1 : N + 1 < w.heap.size := by omega
  have s2 : N + 2 < w.heap.size := by omega
  have s3 : N + 3 < w.heap.size := by omega
  go_enter Yba.func6, Yba.ntmps6
  go_wp2
  refine bodyPost_ret (v := .tuple #[.agg #[], .bool false]) (by simp [results, Yba.results7, go_sem]) rfl ?_
  go_wp2
  go_ret
  exact ⟨rfl, HS.out.step _ _ _ _⟩

theorem hid_of {p : Prop} (h : p) : Hid p := h

set_option maxRecDepth 100000 in
set_option maxHeartbeats 2000000 in
theorem script_lit (start : Int) (sb soff lenS capS : Nat) (z : Nat → Int) (bb off lenA capA : Nat) (av : Nat → Bool) (w : World) (hlS : lenS ≤ 1024) (hsb : sb < w.heap.size) (hS : ∀ k, k < lenS → w.cell? ⟨sb, soff + k, none⟩ = some (.int .i64 (z k))) (hlA : lenA ≤ 1024) (hbb : bb < w.heap.size) (hA : ∀ k, k < lenA → w.cell? ⟨bb, off + k, none⟩ = some (.bool (av k))) :
    Calls Yba.prog 4 #[.int .i64 start, .slice (some ⟨sb, soff, none⟩) lenS capS, .slice (some ⟨bb, off, none⟩) lenA capA] w fun e w' => e = .returned (.bool true) ∧ Below w.heap.size w w' := by
  have hmf : ∀ (fn : Fn) (first cap : Array Value) (w : World), (Instr.makeFunc fn first cap).run Yba.prog w = .ok (.func fn first cap) w := fun _ _ _ _ => rfl
  have HS : Hid (∀ k, k < lenS → w.cell? ⟨sb, soff + k, none⟩ = some (.int .i64 (z k))) := hS
  clear hS
  have HA : Hid (∀ k, k < lenA → w.cell? ⟨bb, off + k, none⟩ = some (.bool (av k))) := hA
  clear hA
  go_enter Yba.func4, Yba.ntmps4
  go_wp2_with fail
  go_loopg [10, 11] lenS (fun gk sv iv W => ∃ (i : Nat) (s seen : Int), i ≤ lenS ∧ gk = lenS - i ∧ iv = .int .i64 i ∧ sv = .int .i64 s ∧ Hid (Sc W w.heap.size (some ⟨bb, off, none⟩) lenA capA s i seen) ∧ Hid (Below w.heap.size w W))
  case atStart =>
    refine ⟨0, start, 0, Nat.zero_le _, rfl, rfl, rfl, ⟨?_, ?_, ?_, ?_, ?_, ?_, ?_, ?_, ?_, ?_⟩, ((((((Below.refl _ _).alloc (Nat.le_refl _) _).alloc (by simp) _).alloc (by simp <;> omega) _).alloc (by simp <;> omega) _).alloc (by simp <;> omega) _)⟩
    · simp
    all_goals go_simp
  case round =>
    obtain ⟨i, s, seen, hi, hgk, rfl, rfl, HSc, HBel⟩ := hrel
    by_cases hlt : i < lenS
    · have g0 : wr.cell? ⟨sb, soff + i, none⟩ = some (.int .i64 (z i)) := (HBel.out.cell (p := ⟨sb, soff + i, none⟩) hsb).trans (HS.out i hlt)
      obtain ⟨size, c0, c1, c2, c3, c4, c5, f1, f4, f5⟩ := HSc.out
      have s0 : w.heap.size < wr.heap.size := by omega
      clear c1 c2 c5 f1 f4 f5
      generalize hN : w.heap.size = N at *
      by_cases hin : i < lenA
      · have ga : wr.cell? ⟨bb, off + i, none⟩ = some (.bool (av i)) := (HBel.out.cell (p := ⟨bb, off + i, none⟩) (by exact hbb)).trans (HA.out i hin)
        go_wp2_with fail
        go_region_with (go_at_call 6; refine (take_in _ N bb off lenA capA i s seen (z i) (av i) (by exact HSc.out.drew) hin hlA (by exact ga) (by exact hbb)).mono ?_; rintro e w2 ⟨rfl, hsc2, hb2⟩; have HSc2 := hid_of hsc2; have HB2 := hid_of hb2; clear hsc2 hb2)
        all_goals
          obtain ⟨size2, d0, d1, d2, d3, d4, d5, _, _, _⟩ := HSc2.out
          clear d0 d2 c0 c3 c4 g0 ga
          go_wp2_with fail
          go_roundg (lenS - (i + 1))
          case measure => omega
          case rel => exact ⟨i + 1, _, _, by omega, rfl, by go_num, rfl, by simpa using HSc2, by subst hN; exact HBel.out.trans ((Below.refl _ _).drew.trans HB2.out)⟩
      · go_wp2_with fail
        go_region_with (go_at_call 6; refine (take_out _ N (some ⟨bb, off, none⟩) lenA capA i s seen (z i) (by exact HSc.out.drew) hin (by omega)).mono ?_; rintro e w2 ⟨rfl, hsc2, hb2⟩; have HSc2 := hid_of hsc2; have HB2 := hid_of hb2; clear hsc2 hb2)
        all_goals
          obtain ⟨size2, d0, d1, d2, d3, d4, d5, _, _, _⟩ := HSc2.out
          clear d0 d2 c0 c3 c4 g0
          go_wp2_with fail
          go_roundg (lenS - (i + 1))
          case measure => omega
          case rel => exact ⟨i + 1, _, _, by omega, rfl, by go_num, rfl, by simpa using HSc2, by subst hN; exact HBel.out.trans ((Below.refl _ _).drew.trans HB2.out)⟩
    · obtain ⟨size, c0, c1, c2, c3, c4, c5, f1, f4, f5⟩ := HSc.out
      have hii : i = lenS := by omega
      subst hii
      clear c0 c2 c5 f1 f4 f5
      go_wp2_with fail
      go_ret
      exact ⟨rfl, HBel.out⟩

set_option maxRecDepth 100000 in
set_option maxHeartbeats 2000000 in
theorem script_none (start : Int) (sb soff lenS capS : Nat) (z : Nat → Int) (ao : Option Addr) (capA : Nat) (w : World) (hlS : lenS ≤ 1024) (hsb : sb < w.heap.size) (hS : ∀ k, k < lenS → w.cell? ⟨sb, soff + k, none⟩ = some (.int .i64 (z k)))  :
    Calls Yba.prog 4 #[.int .i64 start, .slice (some ⟨sb, soff, none⟩) lenS capS, .slice ao 0 capA] w fun e w' => e = .returned (.bool true) ∧ Below w.heap.size w w' := by
  have hmf : ∀ (fn : Fn) (first cap : Array Value) (w : World), (Instr.makeFunc fn first cap).run Yba.prog w = .ok (.func fn first cap) w := fun _ _ _ _ => rfl
  have HS : Hid (∀ k, k < lenS → w.cell? ⟨sb, soff + k, none⟩ = some (.int .i64 (z k))) := hS
  clear hS
  go_enter Yba.func4, Yba.ntmps4
  go_wp2_with fail
  go_loopg [10, 11] lenS (fun gk sv iv W => ∃ (i : Nat) (s seen : Int), i ≤ lenS ∧ gk = lenS - i ∧ iv = .int .i64 i ∧ sv = .int .i64 s ∧ Hid (Sc W w.heap.size ao 0 capA s i seen) ∧ Hid (Below w.heap.size w W))
  case atStart =>
    refine ⟨0, start, 0, Nat.zero_le _, rfl, rfl, rfl, ⟨?_, ?_, ?_, ?_, ?_, ?_, ?_, ?_, ?_, ?_⟩, ((((((Below.refl _ _).alloc (Nat.le_refl _) _).alloc (by simp) _).alloc (by simp <;> omega) _).alloc (by simp <;> omega) _).alloc (by simp <;> omega) _)⟩
    · simp
    all_goals go_simp
  case round =>
    obtain ⟨i, s, seen, hi, hgk, rfl, rfl, HSc, HBel⟩ := hrel
    by_cases hlt : i < lenS
    · have g0 : wr.cell? ⟨sb, soff + i, none⟩ = some (.int .i64 (z i)) := (HBel.out.cell (p := ⟨sb, soff + i, none⟩) hsb).trans (HS.out i hlt)
      obtain ⟨size, c0, c1, c2, c3, c4, c5, f1, f4, f5⟩ := HSc.out
      have s0 : w.heap.size < wr.heap.size := by omega
      clear c1 c2 c5 f1 f4 f5
      generalize hN : w.heap.size = N at *
      have hin : ¬ i < 0 := by omega
      go_wp2_with fail
      go_region_with (go_at_call 6; refine (take_out _ N ao 0 capA i s seen (z i) (by exact HSc.out.drew) hin (by omega)).mono ?_; rintro e w2 ⟨rfl, hsc2, hb2⟩; have HSc2 := hid_of hsc2; have HB2 := hid_of hb2; clear hsc2 hb2)
      all_goals
        obtain ⟨size2, d0, d1, d2, d3, d4, d5, _, _, _⟩ := HSc2.out
        clear d0 d2 c0 c3 c4 g0
        go_wp2_with fail
        go_roundg (lenS - (i + 1))
        case measure => omega
        case rel => exact ⟨i + 1, _, _, by omega, rfl, by go_num, rfl, by simpa using HSc2, by subst hN; exact HBel.out.trans ((Below.refl _ _).drew.trans HB2.out)⟩
    · obtain ⟨size, c0, c1, c2, c3, c4, c5, f1, f4, f5⟩ := HSc.out
      have hii : i = lenS := by omega
      subst hii
      clear c0 c2 c5 f1 f4 f5
      go_wp2_with fail
      go_ret
      exact ⟨rfl, HBel.out⟩

set_option maxRecDepth 100000 in
set_option maxHeartbeats 1000000 in
/-- No steps at all. -/
theorem script_empty (start : Int) (so ao : Option Addr) (capS lenA capA : Nat) (w : World) (hlA : lenA ≤ 1024) :
    Calls Yba.prog 4 #[.int .i64 start, .slice so 0 capS, .slice ao lenA capA] w fun e w' => e = .returned (.bool true) ∧ Below w.heap.size w w' := by
  have hmf : ∀ (fn : Fn) (first cap : Array Value) (w : World), (Instr.makeFunc fn first cap).run Yba.prog w = .ok (.func fn first cap) w := fun _ _ _ _ => rfl
  go_enter Yba.func4, Yba.ntmps4
  go_wp2_with fail
  go_loopg [10, 11] 0 (fun gk sv iv W => ∃ (seen : Int), iv = .int .i64 0 ∧ sv = .int .i64 start ∧ Hid (Sc W w.heap.size ao lenA capA start 0 seen) ∧ Hid (Below w.heap.size w W))
  case atStart =>
    refine ⟨0, rfl, rfl, ⟨?_, ?_, ?_, ?_, ?_, ?_, ?_, ?_, ?_, ?_⟩, ((((((Below.refl _ _).alloc (Nat.le_refl _) _).alloc (by simp) _).alloc (by simp <;> omega) _).alloc (by simp <;> omega) _).alloc (by simp <;> omega) _)⟩
    · simp
    all_goals go_simp
  case round =>
    obtain ⟨seen, rfl, rfl, HSc, HBel⟩ := hrel
    obtain ⟨size, c0, c1, c2, c3, c4, c5, f1, f4, f5⟩ := HSc.out
    clear c0 c2 c5 f1 f4 f5
    go_wp2_with fail
    go_ret
    exact ⟨rfl, HBel.out⟩

set_option maxRecDepth 100000 in
set_option maxHeartbeats 1000000 in
/-- Too many steps. -/
theorem script_longS (start : Int) (so ao : Option Addr) (lenS capS lenA capA : Nat) (w : World) (hl : 1024 < lenS) :
    Calls Yba.prog 4 #[.int .i64 start, .slice so lenS capS, .slice ao lenA capA] w fun e w' => e = .returned (.bool true) ∧ Below w.heap.size w w' := by
  go_enter Yba.func4, Yba.ntmps4
  go_wp2_with fail
  go_ret
  exact ⟨rfl, (Below.refl _ _).alloc (Nat.le_refl _) _⟩

set_option maxRecDepth 100000 in
set_option maxHeartbeats 1000000 in
/-- Too many answers. -/
theorem script_longA (start : Int) (so ao : Option Addr) (lenS capS lenA capA : Nat) (w : World) (hs : lenS ≤ 1024) (hl : 1024 < lenA) :
    Calls Yba.prog 4 #[.int .i64 start, .slice so lenS capS, .slice ao lenA capA] w fun e w' => e = .returned (.bool true) ∧ Below w.heap.size w w' := by
  go_enter Yba.func4, Yba.ntmps4
  go_wp2_with fail
  go_ret
  exact ⟨rfl, (Below.refl _ _).alloc (Nat.le_refl _) _⟩

end Go.Proofs.Ybulkdcxm.lawS5212CScript
