/-
  OWN WORK. The walk of 'LawS5210AOnce'.
-/
import Derived.Test.YbulkdcwkFmtWarn
import Derived.Deep.QuietTactic
import Derived.BigQuiet
import Derived.WalkSmall
namespace Go.Proofs.YbulkdcwkFmt
open Go.RowKit Go.Extern.Stop Go.Stop Go.Extern

theorem build47 (d : Int) : ∃ cs : Array Value, (∀ w, (Instr.build 47 #[(6, .int .i64 d)]).run Ybaf.prog w = .ok (.agg cs) w) ∧ cs[1055]? = some (.int .i64 0) ∧ cs[1056]? = some (.int .i64 d) ∧
    cs[1061]? = some (.slice Option.none 0 0) ∧ cs[1062]? = some (.map Option.none) ∧ cs[1063]? = some (.map Option.none) :=
  ⟨(((Ybaf.prog.info? 47).bind (·.zero)).elim #[] Value.cells).setIfInBounds 1056 (.int .i64 d), fun w => by kernel_rfl, by kernel_rfl, by kernel_rfl, by kernel_rfl, by kernel_rfl, by kernel_rfl⟩

theorem wpList_exec {P : Program} {w w' : World} {ops : Array Oper} {rest : List Oper} {o : Oper} {a : Act} {Q : Exit → Act → World → Prop} {v : Value} (hg : o.guard = Option.none)
    (hrun : (execOp a.eval o).run P w = .ok (.value v) w') (hK : wpList P ops Q rest (a.put o.dst v) w') : wpList P ops Q (o :: rest) a w := by
  refine wpList_plain hg fun K hK' => ?_
  unfold Oper.wp
  rw [hrun]
  exact hK' _ _ hK

theorem wpList_build47 {w : World} {ops : Array Oper} {rest : List Oper} {o : Oper} {a : Act} {Q : Exit → Act → World → Prop} (hg : o.guard = Option.none) (x : Operand) (hop : o.op = Op.build 47 #[(6, x)])
    (d : Int) (cs : Array Value) (hx : a.eval x = .int .i64 d) (hb : ∀ w, (Instr.build 47 #[(6, .int .i64 d)]).run Ybaf.prog w = .ok (.agg cs) w)
    (hK : wpList Ybaf.prog ops Q rest (a.put o.dst (.agg cs)) w) : wpList Ybaf.prog ops Q (o :: rest) a w := by
  refine wpList_exec hg (v := .agg cs) (w' := w) ?_ hK
  simp only [execOp, hop]
  simp [hx, hb]

theorem three_cell (w : World) (cs : Array Value) (e : TypeId) (o1 o2 : Obj) (k : Nat) : (((w.alloc (.cells cs e)).alloc o1).alloc o2).cell? ⟨w.heap.size, k, Option.none⟩ = cs[k]? := by
  have h : (((w.alloc (.cells cs e)).alloc o1).alloc o2).heap[w.heap.size]? = some (.cells cs e) :=
    (Below.heap_alloc _ _ _ (by simp; omega)).trans ((Below.heap_alloc _ _ _ (by simp)).trans (heap_alloc_new w _))
  rw [cell_of_row _ _ k _ _ _ h]

theorem three_frozen (w : World) (cs : Array Value) (e : TypeId) (o1 o2 : Obj) (k : Nat) : (((w.alloc (.cells cs e)).alloc o1).alloc o2).frozen? ⟨w.heap.size, k, Option.none⟩ = false := by
  have h : (((w.alloc (.cells cs e)).alloc o1).alloc o2).heap[w.heap.size]? = some (.cells cs e) :=
    (Below.heap_alloc _ _ _ (by simp; omega)).trans ((Below.heap_alloc _ _ _ (by simp)).trans (heap_alloc_new w _))
  simp only [World.frozen?, h]
  simp

theorem St.cell_at {w : World} {pb B g cap mb : Nat} {ms : List ByteArray} {xs : List Value} (h : St w pb B (some ⟨g, 0, Option.none⟩) cap mb ms xs) {j : Nat} {u : Value} (hj : xs[j]? = some u) : w.cell? ⟨g, j, Option.none⟩ = some u := by
  have := h.row.cells (g := g) rfl j u hj
  rwa [Addr.add_lit, Nat.zero_add] at this

theorem St.drewN {w : World} {pb B cap mb n : Nat} {so : Option Addr} {ms : List ByteArray} {xs : List Value} (h : St w pb B so cap mb ms xs) : St (w.drewN n) pb B so cap mb ms xs :=
  ⟨h.pbB, h.hB, h.c10, h.f10, h.c11, h.row, h.map.kept (w' := w.drewN n) rfl⟩

theorem eqNil45 (w : World) : (binOp .eql 45 (.map Option.none) (.map Option.none)).run Ybaf.prog w = .ok (.bool true) w := by kernel_rfl

set_option maxRecDepth 100000 in
set_option maxHeartbeats 400000 in
/-- THE WALK of 'LawS5210AOnce'. -/
theorem once_walk (F : Interp) (f : ByteArray) (l1 c1 l2 c2 d : Int) (w : World) (hF : F.answers w.tape) :
    Calls Ybaf.prog 4 #[.string f, .int .i64 l1, .int .i64 c1, .int .i64 l2, .int .i64 c2, .int .i64 d] w fun e w' => e = .returned (.bool true) ∧ Below w.heap.size w w' := by
  obtain ⟨cs, hb, k5, k6, k10, k11, k12⟩ := build47 d
  have HB := hide hb
  clear hb
  go_enter Ybaf.func4, Ybaf.ntmps4
  go_wp2_with (refine wpList_build47 rfl _ rfl d cs rfl HB.out ?_)
  refine (warn_first F w.heap.size (w.heap.size + 1) f _ 0 l1 c1 _ (by exact hF) (by omega) (by simp) (by rw [three_cell]; exact k10) (three_frozen _ _ _ _ _ _) (by rw [three_cell]; exact k11) (three_frozen _ _ _ _ _ _)).mono ?_
  rintro e w1 ⟨rfl, g, cap, mb, hst, hkp, hmb⟩
  have hw1 := hkp.size
  have hpb : ∀ k, k = w.heap.size + 1 ∨ k = w.heap.size + 2 → w1.heap[k]? = (((w.alloc (Obj.cells cs 47)).alloc (.cells #[.string ⟨#[97]⟩, .int .i64 0, .int .i64 l1, .int .i64 c1] 37)).alloc (.cells #[.string ⟨#[98]⟩, .int .i64 0, .int .i64 l2, .int .i64 c2] 37)).heap[k]? := fun k hk => hkp.block k (by simp; omega) (by omega) (by simp at hmb; omega) (by simp)
  have a0 : w1.cell? ⟨w.heap.size + 1, 0, none⟩ = some (.string ⟨#[97]⟩) := (World.cell?_of_block (hpb (w.heap.size + 1) (.inl rfl))).trans (by go_simp)
  have a1 : w1.cell? ⟨w.heap.size + 1, 1, none⟩ = some (.int .i64 0) := (World.cell?_of_block (hpb (w.heap.size + 1) (.inl rfl))).trans (by go_simp)
  have a2 : w1.cell? ⟨w.heap.size + 1, 2, none⟩ = some (.int .i64 l1) := (World.cell?_of_block (hpb (w.heap.size + 1) (.inl rfl))).trans (by go_simp)
  have a3 : w1.cell? ⟨w.heap.size + 1, 3, none⟩ = some (.int .i64 c1) := (World.cell?_of_block (hpb (w.heap.size + 1) (.inl rfl))).trans (by go_simp)
  have b0 : w1.cell? ⟨w.heap.size + 1 + 1, 0, none⟩ = some (.string ⟨#[98]⟩) := (World.cell?_of_block (hpb (w.heap.size + 1 + 1) (.inr rfl))).trans (by go_simp)
  have b1 : w1.cell? ⟨w.heap.size + 1 + 1, 1, none⟩ = some (.int .i64 0) := (World.cell?_of_block (hpb (w.heap.size + 1 + 1) (.inr rfl))).trans (by go_simp)
  have b2 : w1.cell? ⟨w.heap.size + 1 + 1, 2, none⟩ = some (.int .i64 l2) := (World.cell?_of_block (hpb (w.heap.size + 1 + 1) (.inr rfl))).trans (by go_simp)
  have b3 : w1.cell? ⟨w.heap.size + 1 + 1, 3, none⟩ = some (.int .i64 c2) := (World.cell?_of_block (hpb (w.heap.size + 1 + 1) (.inr rfl))).trans (by go_simp)
  have d5 : w1.cell? ⟨w.heap.size, 1055, none⟩ = some (.int .i64 0) := (hkp.cell 1055 (by omega) (by omega)).trans (by rw [three_cell]; exact k5)
  have d6 : w1.cell? ⟨w.heap.size, 1056, none⟩ = some (.int .i64 d) := (hkp.cell 1056 (by omega) (by omega)).trans (by rw [three_cell]; exact k6)
  have d12 : w1.cell? ⟨w.heap.size, 1063, none⟩ = some (.map none) := (hkp.cell 1063 (by omega) (by omega)).trans (by rw [three_cell]; exact k12)
  have r0 := hst.cell_at (j := 0) rfl
  have r1 := hst.cell_at (j := 1) rfl
  have r2 := hst.cell_at (j := 2) rfl
  have r3 := hst.cell_at (j := 3) rfl
  have r4 := hst.cell_at (j := 4) rfl
  have s10 : w1.cell? ⟨w.heap.size, 1061, none⟩ = some (.slice (some ⟨g, 0, none⟩) 1 cap) := hst.c10
  have s11 := hst.c11
  have hlen : ∀ (n : Nat) (ty : TypeId), (Builtin.len_ #[44] ty #[.map (some mb)]).run Ybaf.prog (w1.drewN n) = .ok (.int .i64 1) (w1.drewN n) := fun n ty => len_map (w := w1.drewN n) (hst.map.kept (w' := w1.drewN n) rfl) ty
  have hF1 : F.answers w1.tape := by rw [hkp.tape]; exact hF
  have HS := hide hst
  have HK : Hid (Below w.heap.size w w1) := ⟨hkp.os, hkp.tape, hkp.output, by simp at hw1; omega, fun k hk => (hkp.block k (by simp; omega) (by omega) (by simp at hmb; omega) (by simp)).trans
    ((Below.heap_alloc _ _ _ (by simp; omega)).trans ((Below.heap_alloc _ _ _ (by simp; omega)).trans (Below.heap_alloc _ _ _ hk)))⟩
  have e44 := eqNil44
  clear hst hkp hpb k5 k6 k10 k11 k12 HB hmb
  generalize hM : msgOf F f = M at *
  go_wp2_with fail
  go_quiet (fail)
  go_wp2_with (at_lookup; refine wpList_look44 rfl _ _ rfl _ M true rfl rfl (look_yes (ms := [M]) (by exact MapIs.kept HS.out.map rfl) (by simp)) ?_)
  refine (warn_old F w.heap.size (w.heap.size + 1) cap mb _ [M] _ f _ 0 l2 c2 _ (by exact hF1) (by exact HS.out.drewN) (by rw [hM]; simp)).mono ?_
  rintro e w2 ⟨rfl, hst2, hbl⟩
  have tr : ∀ (b o : Nat) (v : Value), w1.cell? ⟨b, o, none⟩ = some v → w2.cell? ⟨b, o, none⟩ = some v := fun b o v h => (hbl.cell (p := ⟨b, o, none⟩) (by exact World.block_lt_of_cell? w1 _ h)).trans (by exact h)
  replace a0 := tr _ _ _ a0
  replace a1 := tr _ _ _ a1
  replace a2 := tr _ _ _ a2
  replace a3 := tr _ _ _ a3
  replace d5 := tr _ _ _ d5
  replace d6 := tr _ _ _ d6
  replace d12 := tr _ _ _ d12
  replace r0 := tr _ _ _ r0
  replace r1 := tr _ _ _ r1
  replace r2 := tr _ _ _ r2
  replace r3 := tr _ _ _ r3
  replace r4 := tr _ _ _ r4
  replace s10 := tr _ _ _ s10
  replace s11 := tr _ _ _ s11
  replace hlen : ∀ (n : Nat) (ty : TypeId), (Builtin.len_ #[44] ty #[.map (some mb)]).run Ybaf.prog (w2.drewN n) = .ok (.int .i64 1) (w2.drewN n) := fun n ty => len_map (w := w2.drewN n) (hst2.map.kept (w' := w2.drewN n) rfl) ty
  have HB := hide hbl
  clear tr hst2 hbl b0 b1 b2 b3
  go_wp2_with fail
  have e45 := eqNil45
  go_quiet (fail)
  go_wp2_with fail
  go_ret
  exact ⟨rfl, below_drewN (HK.out.trans (((below_drewN (Below.refl _ _) _).trans HB.out).mono (by exact HK.out.size))) _⟩
end Go.Proofs.YbulkdcwkFmt
