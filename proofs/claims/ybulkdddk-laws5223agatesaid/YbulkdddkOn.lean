/-
  OWN WORK. cluster.at, cluster.on.
-/
import Derived.Test.YbulkdddkPush
namespace Go.Proofs.Ybulkdddk
open Go.RowKit
set_option linter.unusedVariables false

theorem cell_of_blk {w : World} {b o : Nat} {C : Array Value} {t : TypeId} {v : Value} (h : w.heap[b]? = some (.cells C t (0, 0))) (hC : C[o]? = some v) : w.cell? ⟨b, o, none⟩ = some v := by
  rw [cell_of_row _ _ _ _ _ _ h]; exact hC
theorem frozen_of_blk {w : World} {b o : Nat} {C : Array Value} {t : TypeId} (h : w.heap[b]? = some (.cells C t (0, 0))) : w.frozen? ⟨b, o, none⟩ = false := by simp [World.frozen?, h]

theorem QRow.allocd {B n cap : Nat} {so : Option Addr} {f : Nat → Ev} {w : World} (h : QRow w B so n cap f) (o : Obj) : QRow (w.alloc o) B so n cap f := h.alloc o
theorem QRow.drew {B n cap : Nat} {so : Option Addr} {f : Nat → Ev} {w : World} (h : QRow w B so n cap f) : QRow w.drew B so n cap f := h

theorem QRow.cluster {B n cap cb o : Nat} {so : Option Addr} {f : Nat → Ev} {C : Array Value} {v : Value} {w : World} (h : QRow w B so n cap f) (hc : w.heap[cb]? = some (.cells C 43 (0, 0))) : QRow (w.setCell ⟨cb, o, none⟩ v) B so n cap f := by
  rcases h with h | ⟨g, h1, h2, h3⟩
  · exact .inl h
  · exact .inr ⟨g, h1, h2, h3.kept (Below.heap_setCell _ _ _ _ (fun e => h3.ne hc (by decide) e.symm))⟩

set_option maxRecDepth 100000 in
set_option maxHeartbeats 1000000 in
theorem at_run (B cb n cap : Nat) (so : Option Addr) (C : Array Value) (f : Nat → Ev) (t : Int) (s : Nat) (x : Array Value) (w : World) (hcb : w.heap[cb]? = some (.cells C 43 (0, 0))) (hC : C[1]? = some (.slice so n cap)) (hS : C[2]? = some (.int .u64 s)) (hs : s < 1024) (hq : QRow w B so n cap f) (hB : B ≤ w.heap.size) (hBc : B ≤ cb) (hn : n < 1024) :
    Calls Yba.prog 6 #[.pointer (some ⟨cb, 0, none⟩), .int .i64 t, .func (.func 7) #[] x] w fun r w' => r = .returned (.tuple #[]) ∧ HPost B cb (n + 1) (C.setIfInBounds 2 (.int .u64 (s + 1 : Nat))) (put f n (t, ((s + 1 : Nat) : Int), x)) w w' := by
  have c2 := cell_of_blk hcb hS
  have f2 := frozen_of_blk (o := 2) hcb
  have HQ := hid_of hq
  have HC := hid_of hcb
  clear hq hcb
  go_enter Yba.func6, Yba.ntmps6
  go_wp2_with fail
  obtain ⟨w1, hw1⟩ : ∃ w1, w1 = w.setCell ⟨cb, 2, none⟩ (.int .u64 ((s : Int) + 1)) := ⟨_, rfl⟩
  have hb1 : w1.heap[cb]? = some (.cells (C.setIfInBounds 2 (.int .u64 ((s : Int) + 1))) 43 (0, 0)) := by rw [hw1]; exact heap_setCell_at HC.out
  have hk1 : Kp B w w1 := by rw [hw1]; exact Kp.cluster HC.out hBc
  have hq1 : QRow w1 B so n cap f := by rw [hw1]; exact HQ.out.cluster HC.out
  have d1 : (C.setIfInBounds 2 (.int .u64 ((s : Int) + 1)))[1]? = some (.slice so n cap) := by
    rw [Array.getElem?_setIfInBounds, if_neg (by decide)]; exact hC
  have d2 : (C.setIfInBounds 2 (.int .u64 ((s : Int) + 1)))[2]? = some (.int .u64 ((s : Int) + 1)) := by
    have : 2 < C.size := (Array.getElem?_eq_some_iff.1 hS).1
    simp [this]
  rw [← hw1]
  clear hw1 c2 f2 HQ HC
  have e2 := cell_of_blk hb1 d2
  have HQ := hid_of hq1
  have HC := hid_of hb1
  have HK := hid_of hk1
  have hB1 : B ≤ w1.heap.size := Nat.le_trans hB hk1.below.size
  clear hb1 hk1 hq1 d2
  go_region_with (go_at_call 9; refine (hpush_run B cb n cap so (C.setIfInBounds 2 (.int .u64 ((s : Int) + 1))) f t ((s : Int) + 1) x w1.drew (by exact HC.out) d1 (by exact HQ.out.drew) (by exact hB1) hBc hn).mono ?_; rintro _ w2 ⟨rfl, f', hp, g, cap', hg, hE, hb, hk⟩; have HP := hid_of hp; have HE := hid_of hE; have HB := hid_of hb; have HK2 := hid_of hk; clear hp hE hb hk)
  all_goals
    go_end0
    exact ⟨rfl, f', HP.out, g, cap', hg, HE.out, HB.out, HK.out.drew.trans HK2.out⟩

/-- What 'on' leaves: the boxes that the new event's function holds, the queue. -/
def OnPost (B cb n nd : Nat) (C : Array Value) (f : Nat → Ev) (t s life : Int) (F : Value) (w w' : World) : Prop :=
  ∃ bn bl br, w.heap.size ≤ bl ∧ w'.heap[bn]? = some (.cells #[.pointer (some ⟨nd, 0, none⟩)] 44 (0, 0)) ∧ w'.heap[bl]? = some (.cells #[.int .i64 life] 3 (0, 0)) ∧ w'.heap[br]? = some (.cells #[F] 1 (0, 0)) ∧
    HPost B cb (n + 1) (C.setIfInBounds 2 (.int .u64 s)) (put f n (t, s, #[.pointer (some ⟨bn, 0, none⟩), .pointer (some ⟨bl, 0, none⟩), .pointer (some ⟨br, 0, none⟩)])) w w'

set_option maxRecDepth 100000 in
set_option maxHeartbeats 1000000 in
theorem on_run (B cb n cap nd : Nat) (so : Option Addr) (C N : Array Value) (f : Nat → Ev) (t life : Int) (s : Nat) (x : Array Value) (w : World) (hcb : w.heap[cb]? = some (.cells C 43 (0, 0))) (hC : C[1]? = some (.slice so n cap)) (hS : C[2]? = some (.int .u64 s)) (hs : s < 1024) (hq : QRow w B so n cap f) (hB : B ≤ w.heap.size) (hBc : B ≤ cb) (hn : n < 1024)
    (hnd : w.heap[nd]? = some (.cells N 54 (0, 0))) (hL : N[5]? = some (.int .i64 life)) :
    Calls Yba.prog 4 #[.pointer (some ⟨cb, 0, none⟩), .pointer (some ⟨nd, 0, none⟩), .int .i64 t, .func (.func 5) #[] x] w fun r w' => r = .returned (.tuple #[]) ∧ OnPost B cb n nd C f t (s + 1 : Nat) life (.func (.func 5) #[] x) w w' := by
  have cl := cell_of_blk hnd hL
  have hlt := lt_of_heap hnd
  have hlt2 := lt_of_heap hcb
  have HQ := hid_of hq
  have HC := hid_of hcb
  clear hq hcb
  go_enter Yba.func4, Yba.ntmps4
  go_wp2_with fail
  obtain ⟨w1, hw1⟩ : ∃ w1, w1 = w.alloc (.cells #[.pointer (some ⟨nd, 0, none⟩)] 44) := ⟨_, rfl⟩
  obtain ⟨w2, hw2⟩ : ∃ w2, w2 = w1.alloc (.cells #[.func (.func 5) #[] x] 1) := ⟨_, rfl⟩
  obtain ⟨w3, hw3⟩ : ∃ w3, w3 = w2.alloc (.cells #[.int .i64 life] 3) := ⟨_, rfl⟩
  have s1 : w1.heap.size = w.heap.size + 1 := by rw [hw1]; simp
  have s2 : w2.heap.size = w.heap.size + 1 + 1 := by rw [hw2]; simp [s1]
  have k1 : Kp B w w1 := by rw [hw1]; exact Kp.alloc hB _
  have k2 : Kp B w1 w2 := by rw [hw2]; exact Kp.alloc (by omega) _
  have k3 : Kp B w2 w3 := by rw [hw3]; exact Kp.alloc (by omega) _
  have b1 : w1.heap[w.heap.size]? = some (.cells #[.pointer (some ⟨nd, 0, none⟩)] 44 (0, 0)) := by rw [hw1]; exact new_block _ _
  have b2 : w2.heap[w.heap.size + 1]? = some (.cells #[.func (.func 5) #[] x] 1 (0, 0)) := by rw [hw2, ← s1]; exact new_block _ _
  have b3 : w3.heap[w.heap.size + 1 + 1]? = some (.cells #[.int .i64 life] 3 (0, 0)) := by rw [hw3, ← s2]; exact new_block _ _
  have b13 := (k2.trans k3).keep _ _ _ b1 (by decide) (by decide)
  have b23 := k3.keep _ _ _ b2 (by decide) (by decide)
  have kk : Kp B w w3 := (k1.trans k2).trans k3
  have hq3 : QRow w3 B so n cap f := by
    rw [hw3, hw2, hw1]
    exact ((HQ.out.allocd _).allocd _).allocd _
  have hc3 : w3.heap[cb]? = some (.cells C 43 (0, 0)) := by
    rw [hw3, hw2, hw1]
    rw [Below.heap_alloc _ _ _ (by simp; omega), Below.heap_alloc _ _ _ (by simp; omega), Below.heap_alloc _ _ _ hlt2]
    exact HC.out
  rw [← hw1, ← hw2, ← hw3]
  have hB3 : B ≤ w3.heap.size := Nat.le_trans hB kk.below.size
  have hsz : w.heap.size ≤ w.heap.size + 1 + 1 := by omega
  generalize w.heap.size + 1 + 1 = q3 at *
  generalize w.heap.size + 1 = q2 at *
  generalize hq1 : w.heap.size = q1 at *
  refine (at_run B cb n cap so C f t s _ w3 hc3 hC hS hs hq3 hB3 hBc hn).mono ?_
  rintro _ w' ⟨rfl, f', hp, g, cap', hg, hE, hb, hk⟩
  have HP := hid_of hp
  have HE := hid_of hE
  have HB := hid_of hb
  have HK := hid_of (kk.trans hk)
  have H1 := hid_of (hk.keep _ _ _ b13 (by decide) (by decide))
  have H2 := hid_of (hk.keep _ _ _ b23 (by decide) (by decide))
  have H3 := hid_of (hk.keep _ _ _ b3 (by decide) (by decide))
  clear hp hE hb hk k1 k2 k3 b1 b2 b3 b13 b23 kk hq3 hc3 hw1 hw2 hw3
  go_wp2_with fail
  go_end0
  refine ⟨rfl, q1, q3, q2, by omega, H1.out, H3.out, H2.out, f', HP.out, g, cap', hg, HE.out, HB.out, HK.out⟩

end Go.Proofs.Ybulkdddk
