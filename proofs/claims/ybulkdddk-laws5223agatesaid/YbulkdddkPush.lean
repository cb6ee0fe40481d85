/-
  OWN WORK. (*eventQueue).Push; container/heap.Push.
-/
import Derived.Test.YbulkdddkHeap
import Derived.Deep.RegionLaw
namespace Go.Proofs.Ybulkdddk
open Go.RowKit
set_option linter.unusedVariables false

/-- 'x.f = append(x.f, v)' as one step of a region that draws, the row the call's own. -/
theorem step_append_own {P : Program} {ops : Array Oper} {o : Oper} {a : Act} {w : World} {K : Act → World → Prop} {Q : Exit → Act → World → Prop} {E : Prop}
    (hg : o.guard = Option.none) (s x : Operand) (t : TypeId) (hop : o.op = Op.call { callee := Callee.builtin Builtin.append, args := #[s, x], argTypes := #[t, t] })
    (base : Nat) (e : TypeId) (i : TypeInfo) (z : Value) (size bytes : Nat) (h1 : P.underlying t = some (.slice e)) (h2 : P.info? e = some i) (h3 : i.zero = some z) (h4 : i.size = size) (h5 : i.bytes = bytes) (h6 : z.cells.size = size) (h7 : 0 < size)
    (so : Option Addr) (n cap : Nat) (xs : List Value) (hs : a.eval s = .slice so n cap) (hown : w.ownsRow base e size (.slice so n cap) n xs)
    (ad : Addr) (c : Nat) (news : List Value) (hx : a.eval x = .slice (some ad) 1 c) (hn : news.length = 1 * size) (hc : ∀ j u, news[j]? = some u → w.cell? (ad.add j) = some u) (h1c : ∀ u ∈ news, u.oneCell' = true)
    (b1 : n + 1 ≤ maxLen) (b2 : (n + 1) * bytes ≤ 140737488355328) (hb : base ≤ w.heap.size)
    (hK : ∀ g cap' w', w'.ownsRow base e size (.slice (some ⟨g, 0, Option.none⟩) (n + 1) cap') (n + 1) (xs ++ news) → w.grownBy w' (Value.slice so n cap).ownBlock → K (a.put o.dst (.slice (some ⟨g, 0, Option.none⟩) (n + 1) cap')) w') :
    if Region.wanted o (yielded ops a.tmps) = true then Oper.wp P o a w K Q else E := by
  have hw : Region.wanted o (yielded ops a.tmps) = true := by simp [Region.wanted, hg]
  rw [if_pos hw]
  obtain ⟨v', w', hrun, r1, r2, r3⟩ := run_append_own (P := P) w base t o.type e i z size bytes h1 h2 h3 h4 h5 h6 h7 (.slice so n cap) n xs hown ad 1 c news hn hc h1c b1 b2 hb
  unfold Oper.wp
  simp [execOp, hop, resolve, invoke, builtin, hs, hx, hrun, Result.andThen]
  rcases r1.2 with ⟨hv, hn0⟩ | ⟨g, cap', cur, hv, _⟩
  · omega
  · subst hv
    exact hK g cap' w' r1 r2

theorem info87 : (Yba.prog.info? 87).map (fun i => (i.zero, i.size, i.bytes)) = some (some (.agg #[.int .i64 0, .int .u64 0, .nilFunc]), 3, 24) := by kernel_rfl

theorem assert87 (v : Value) (w : World) : (Instr.typeAssert (.iface 87 v) 20 87 false).run Yba.prog w = .ok v w := by kernel_rfl

theorem new_block (w : World) (o : Obj) : (w.alloc o).heap[w.heap.size]? = some o := by
  have h : (w.alloc o).heap = w.heap.push o := rfl
  rw [h]; simp

/-- The cells of the block that was just made. -/
theorem new_cells (w : World) (xs : List Value) (t : TypeId) : ∀ j u, xs[j]? = some u → (w.alloc (.cells xs.toArray t)).cell? (Addr.add ⟨w.heap.size, 0, none⟩ j) = some u := by
  intro j u h
  rw [show Addr.add ⟨w.heap.size, 0, none⟩ j = ⟨w.heap.size, j, none⟩ by simp [Addr.add]; intro e; exact e.symm]
  rw [cell_of_row _ _ _ _ _ _ (new_block w _)]
  simpa using h

/-- The queue's slice: nil, or a row of events from block B on. -/
def QRow (w : World) (B : Nat) (so : Option Addr) (n cap : Nat) (f : Nat → Ev) : Prop := (so = none ∧ n = 0 ∧ cap = 0) ∨ ∃ g, so = some ⟨g, 0, none⟩ ∧ B ≤ g ∧ EvRow w g n cap f

/-- What a call of the queue keeps: all below B; all blocks but the events' and the cluster. -/
structure Kp (B : Nat) (w w' : World) : Prop where
  below : Below B w w'
  keep : ∀ (b : Nat) (cur : Array Value) (t : TypeId), w.heap[b]? = some (.cells cur t (0, 0)) → t ≠ 87 → t ≠ 43 → w'.heap[b]? = some (.cells cur t (0, 0))

theorem Kp.refl (B : Nat) (w : World) : Kp B w w := ⟨Below.refl _ _, fun _ _ _ h _ _ => h⟩
theorem Kp.trans {B : Nat} {w w' w'' : World} (h : Kp B w w') (k : Kp B w' w'') : Kp B w w'' := ⟨h.below.trans k.below, fun b cur t hb h1 h2 => k.keep b cur t (h.keep b cur t hb h1 h2) h1 h2⟩
theorem Kp.drew {B : Nat} {w w' : World} (h : Kp B w w') : Kp B w w'.drew := ⟨h.below.drew, h.keep⟩

theorem lt_of_heap {w : World} {b : Nat} {o : Obj} (h : w.heap[b]? = some o) : b < w.heap.size := (Array.getElem?_eq_some_iff.1 h).1

theorem Kp.alloc {B : Nat} {w : World} (hB : B ≤ w.heap.size) (o : Obj) : Kp B w (w.alloc o) :=
  ⟨(Below.refl B w).alloc hB o, fun b cur t hb _ _ => (Below.heap_alloc w o b (lt_of_heap hb)).trans hb⟩

theorem Kp.grown {B g n cap : Nat} {f : Nat → Ev} {w w' : World} (h : w.grownBy w' (some g)) (hE : EvRow w g n cap f) (hB : B ≤ w.heap.size) (hg : B ≤ g) : Kp B w w' :=
  ⟨(Below.refl B w).grown h hB (fun k hk => by cases hk; exact hg), fun b cur t hb h1 _ => by
    rw [h.block b (lt_of_heap hb) (fun e => hE.ne hb h1 (by injection e))]
    exact hb⟩

theorem Kp.grownQ {B n cap : Nat} {so : Option Addr} {f : Nat → Ev} {w w' : World} (h : w.grownBy w' (Value.slice so n cap).ownBlock) (hE : QRow w B so n cap f) (hB : B ≤ w.heap.size) : Kp B w w' := by
  rcases hE with ⟨rfl, _, _⟩ | ⟨g, rfl, hg, hE⟩
  · exact ⟨(Below.refl B w).grown h hB (fun k hk => by cases hk), fun b cur t hb h1 _ => by
      rw [h.block b (lt_of_heap hb) (by simp [Value.ownBlock])]
      exact hb⟩
  · exact Kp.grown h hE hB hg

theorem QRow.ne {B n cap : Nat} {so : Option Addr} {f : Nat → Ev} {w : World} (hE : QRow w B so n cap f) {b : Nat} {cur : Array Value} {t : TypeId} {fz : Nat × Nat} (hb : w.heap[b]? = some (.cells cur t fz)) (ht : t ≠ 87) : some b ≠ (Value.slice so n cap).ownBlock := by
  rcases hE with ⟨rfl, _, _⟩ | ⟨g, rfl, hg, hE⟩
  · simp [Value.ownBlock]
  · intro e
    simp [Value.ownBlock] at e
    exact hE.ne hb ht e

theorem QRow.alloc {B n cap : Nat} {so : Option Addr} {f : Nat → Ev} {w : World} (h : QRow w B so n cap f) (o : Obj) : QRow (w.alloc o).drew B so n cap f := by
  rcases h with h | ⟨g, h1, h2, h3⟩
  · exact .inl h
  · exact .inr ⟨g, h1, h2, h3.kept (Below.heap_alloc w o g h3.lt)⟩

theorem cl_kept {B n cap cb : Nat} {so : Option Addr} {f : Nat → Ev} {C : Array Value} {w w3 : World} {o : Obj} (hc : w.heap[cb]? = some (.cells C 43 (0, 0))) (hq : QRow w B so n cap f) (hg : (w.alloc o).drew.grownBy w3 (Value.slice so n cap).ownBlock) : w3.heap[cb]? = some (.cells C 43 (0, 0)) := by
  have h1 : (w.alloc o).drew.heap[cb]? = some (.cells C 43 (0, 0)) := (Below.heap_alloc w o cb (lt_of_heap hc)).trans hc
  rw [hg.block cb (lt_of_heap h1) (hq.ne hc (by decide))]
  exact h1

theorem Kp.cluster {B b o : Nat} {C : Array Value} {v : Value} {w : World} (hb : w.heap[b]? = some (.cells C 43 (0, 0))) (hB : B ≤ b) : Kp B w (w.setCell ⟨b, o, none⟩ v) :=
  ⟨(Below.refl B w).setCell hB v, fun c cur t hc _ h2 => by
    rw [Below.heap_setCell _ _ _ _ (fun e => ?_)]
    · exact hc
    · subst e
      rw [hb] at hc
      injection hc with hc
      injection hc with _ e2 _
      exact h2 e2.symm⟩

theorem QRow.own {B n cap : Nat} {so : Option Addr} {f : Nat → Ev} {w : World} (h : QRow w B so n cap f) :
    ∃ xs, w.ownsRow B 87 3 (.slice so n cap) n xs ∧ xs.length = n * 3 ∧ ∀ i, i < n → xs[i * 3]? = some (.int .i64 (f i).1) ∧ xs[i * 3 + 1]? = some (.int .u64 (f i).2.1) ∧ xs[i * 3 + 2]? = some (.func (.func 7) #[] (f i).2.2) := by
  rcases h with ⟨rfl, rfl, rfl⟩ | ⟨g, rfl, hg, cur, hb, ⟨h1, h2, h3⟩, hc⟩
  · exact ⟨[], ⟨rfl, .inl ⟨rfl, rfl⟩⟩, rfl, fun i hi => absurd hi (Nat.not_lt_zero _)⟩
  · have hl : (cur.toList.take (n * 3)).length = n * 3 := by simp; omega
    refine ⟨cur.toList.take (n * 3), ⟨hl, .inr ⟨g, cap, cur, rfl, hg, hb, h1, h2, h3, rfl⟩⟩, hl, fun i hi => ?_⟩
    have q := hc i hi
    simp only [List.getElem?_take, Array.getElem?_toList]
    rw [if_pos (by omega), if_pos (by omega), if_pos (by omega)]
    exact q

theorem EvRow.of_own {B g n cap : Nat} {xs : List Value} {f : Nat → Ev} {w : World} {e : Ev} (h : w.ownsRow B 87 3 (.slice (some ⟨g, 0, none⟩) (n + 1) cap) (n + 1) (xs ++ [.int .i64 e.1, .int .u64 e.2.1, .func (.func 7) #[] e.2.2])) (hl : xs.length = n * 3)
    (hx : ∀ i, i < n → xs[i * 3]? = some (.int .i64 (f i).1) ∧ xs[i * 3 + 1]? = some (.int .u64 (f i).2.1) ∧ xs[i * 3 + 2]? = some (.func (.func 7) #[] (f i).2.2)) : B ≤ g ∧ EvRow w g (n + 1) cap (Ybulkdddk.put f n e) := by
  rcases h.2 with ⟨h1, _⟩ | ⟨g', cap', cur, hv, hB, hg, h1, h2, h3, ht⟩
  · simp at h1
  · simp at hv
    obtain ⟨rfl, rfl⟩ := hv
    refine ⟨hB, cur, hg, ⟨h1, h2, h3⟩, fun i hi => ?_⟩
    have e1 : ∀ j, j < (n + 1) * 3 → cur[j]? = (xs ++ [.int .i64 e.1, .int .u64 e.2.1, .func (.func 7) #[] e.2.2])[j]? := by
      intro j hj
      rw [← ht]
      simp [hj]
    rw [e1 _ (by omega), e1 _ (by omega), e1 _ (by omega)]
    unfold Ybulkdddk.put
    by_cases hin : i = n
    · subst hin
      simp only [if_true]
      rw [List.getElem?_append_right (by omega), List.getElem?_append_right (by omega), List.getElem?_append_right (by omega), hl]
      simp
    · simp only [hin, if_false]
      rw [List.getElem?_append_left (by omega), List.getElem?_append_left (by omega), List.getElem?_append_left (by omega)]
      exact hx i (by omega)

/-- What Push leaves: the queue's slice and row, the cluster's block. -/
def PushPost (B cb n : Nat) (C : Array Value) (f : Nat → Ev) (w w' : World) : Prop :=
  ∃ g cap, B ≤ g ∧ EvRow w' g n cap f ∧ w'.heap[cb]? = some (.cells (C.setIfInBounds 1 (.slice (some ⟨g, 0, none⟩) n cap)) 43 (0, 0)) ∧ Kp B w w'

set_option maxRecDepth 100000 in
set_option maxHeartbeats 1000000 in
theorem qpush_run (B cb n cap : Nat) (so : Option Addr) (C : Array Value) (f : Nat → Ev) (t s : Int) (x : Array Value) (w : World) (hcb : w.heap[cb]? = some (.cells C 43 (0, 0))) (hC : C[1]? = some (.slice so n cap)) (hq : QRow w B so n cap f) (hB : B ≤ w.heap.size) (hBc : B ≤ cb) (hn : n < 1024) :
    Calls Yba.prog 40 #[.pointer (some ⟨cb, 1, none⟩), .iface 87 (.agg #[.int .i64 t, .int .u64 s, .func (.func 7) #[] x])] w fun r w' => r = .returned (.tuple #[]) ∧ PushPost B cb (n + 1) C (put f n (t, s, x)) w w' := by
  have c1 : w.cell? ⟨cb, 1, none⟩ = some (.slice so n cap) := by rw [cell_of_row _ _ _ _ _ _ hcb]; exact hC
  have f1 : w.frozen? ⟨cb, 1, none⟩ = false := by simp [World.frozen?, hcb]
  obtain ⟨xs, hown, hxl, hx⟩ := hq.own
  obtain ⟨i87, hi, hz0, hz1, hz2⟩ := info_parts info87
  have HQ := hid_of hq
  have HX := hid_of hx
  have HC := hid_of hcb
  have HO := hid_of hown
  have hlt := lt_of_heap hcb
  clear hq hx hcb hown
  have ta := assert87 (.agg #[.int .i64 t, .int .u64 s, .func (.func 7) #[] x]) w.drew
  go_enter Yba.func40, Yba.ntmps40
  go_wp2_with fail
  go_region_law (refine step_append_own rfl (.tmp 7) (.tmp 10) 25 rfl B 87 i87 _ 3 24 Yba.underlying25 hi hz0 hz1 hz2 rfl (by decide) so n cap xs rfl (by exact (HO.out.alloc _).drew) ⟨w.heap.size, 0, Option.none⟩ 1 [.int .i64 t, .int .u64 s, .func (.func 7) #[] x] rfl rfl (by exact new_cells _ _ _) (by simp [Value.oneCell']) (by unfold maxLen; omega) (by omega) (by simp; omega) ?_; intro g cap' w3 hrow3 hg3; have hk3 := cl_kept HC.out HQ.out hg3; have qa : w3.cell? ⟨cb, 1, Option.none⟩ = some (.slice so n cap) := (by rw [cell_of_row _ _ _ _ _ _ hk3]; exact hC); have qb : w3.frozen? ⟨cb, 1, Option.none⟩ = false := (by simp [World.frozen?, hk3]); have HK3 := hid_of hk3; have HG3 := hid_of hg3; have HR3 := hid_of hrow3; clear hk3 hg3 hrow3)
  all_goals
    go_end0
    have hev := EvRow.of_own (f := f) (e := (t, s, x)) HR3.out hxl HX.out
    exact ⟨rfl, g, cap', hev.1, hev.2.kept (Below.heap_setCell _ _ _ _ (fun e => by first | exact hev.2.ne HK3.out (by decide) e.symm | exact hev.2.ne HK3.out (by decide) e)), heap_setCell_at HK3.out, ((Kp.alloc hB _).drew.trans (Kp.grownQ (w := (w.alloc _).drew) HG3.out (HQ.out.alloc _) (by simp; omega))).trans (Kp.cluster HK3.out hBc)⟩

theorem len_run (so : Option Addr) (n cap : Nat) (w : World) : Calls Yba.prog 28 #[.slice so n cap] w fun r w' => r = .returned (.int .i64 n) ∧ w' = w := by
  go_enter Yba.func28, Yba.ntmps28
  go_wp2
  go_ret
  exact ⟨rfl, rfl⟩

/-- What heap.Push leaves: a permutation of the events and the new one. -/
def HPost (B cb n : Nat) (C : Array Value) (f : Nat → Ev) (w w' : World) : Prop := ∃ f', Perm n f f' ∧ PushPost B cb n C f' w w'

set_option maxRecDepth 100000 in
set_option maxHeartbeats 1000000 in
theorem hpush_run (B cb n cap : Nat) (so : Option Addr) (C : Array Value) (f : Nat → Ev) (t s : Int) (x : Array Value) (w : World) (hcb : w.heap[cb]? = some (.cells C 43 (0, 0))) (hC : C[1]? = some (.slice so n cap)) (hq : QRow w B so n cap f) (hB : B ≤ w.heap.size) (hBc : B ≤ cb) (hn : n < 1024) :
    Calls Yba.prog 9 #[.iface 92 (.pointer (some ⟨cb, 1, none⟩)), .iface 87 (.agg #[.int .i64 t, .int .u64 s, .func (.func 7) #[] x])] w fun r w' => r = .returned (.tuple #[]) ∧ HPost B cb (n + 1) C (put f n (t, s, x)) w w' := by
  have mp := meth_push cb 1 w
  have HQ := hid_of hq
  have HC := hid_of hcb
  clear hq hcb
  go_enter Yba.func9, Yba.ntmps9
  go_wp2_with fail
  refine (qpush_run B cb n cap so C f t s x w HC.out hC HQ.out hB hBc hn).mono ?_
  rintro _ w1 ⟨rfl, g, cap1, hg, hE, hc1, hk⟩
  have hC1 : (C.setIfInBounds 1 (.slice (some ⟨g, 0, none⟩) (n + 1) cap1))[1]? = some (.slice (some ⟨g, 0, none⟩) (n + 1) cap1) := by
    have : 1 < C.size := (Array.getElem?_eq_some_iff.1 hC).1
    simp [this]
  have cc : w1.cell? ⟨cb, 1, none⟩ = some (.slice (some ⟨g, 0, none⟩) (n + 1) cap1) := by rw [cell_of_row _ _ _ _ _ _ hc1]; exact hC1
  have ml := meth_len cb 1 _ w1 cc
  have HE := hid_of hE
  have HC1 := hid_of hc1
  have HK := hid_of hk
  clear hE hc1 hk hC1
  go_wp2_with fail
  refine (len_run _ _ _ _).mono ?_
  rintro _ wl ⟨rfl, hwl⟩
  rw [hwl]
  clear hwl wl ml
  go_wp2_with fail
  refine (up_run cb g (n + 1) cap1 n (put f n (t, s, x)) w1 HE.out cc (fun e => HE.out.ne HC1.out (by decide) e) (by omega) (by omega)).mono ?_
  rintro _ w2 ⟨rfl, f', hp, hE2, hg2⟩
  have HE2 := hid_of hE2
  have HG2 := hid_of hg2
  have HP := hid_of hp
  clear hE2 hg2 hp
  go_wp2_with fail
  go_end0
  refine ⟨rfl, f', HP.out, g, cap1, hg, HE2.out, ?_, HK.out.trans (Kp.grown HG2.out HE.out ?_ hg)⟩
  · rw [HG2.out.block cb (lt_of_heap HC1.out) (fun e => HE.out.ne HC1.out (by decide) (by injection e))]
    exact HC1.out
  · exact Nat.le_trans hB HK.out.below.size

end Go.Proofs.Ybulkdddk
