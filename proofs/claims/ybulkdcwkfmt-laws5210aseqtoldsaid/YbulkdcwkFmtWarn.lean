/-
  OWN WORK. '(*parser).warn' without operands: what one call does to the parser: three contracts (the message is recorded already; a new one; the first one).
-/
import Derived.Test.YbulkdcwkFmtBase
import Derived.Deep.RegionLaw
namespace Go.Proofs.YbulkdcwkFmt
open Go.RowKit Go.Extern.Stop Go.Stop Go.Extern

theorem info52 : (Ybaf.prog.info? 52).map (fun i => (i.zero, i.size, i.bytes)) = some (some (.agg #[.string ⟨#[]⟩, .int .i64 0, .int .i64 0, .int .i64 0, .string ⟨#[]⟩]), 5, 56) := by kernel_rfl

/-- 'x.f = append(x.f, v)' as one step of a region that draws, the row the call's own. -/
theorem step_append_own {P : Program} {ops : Array Oper} {o : Oper} {a : Act} {w : World} {K : Act → World → Prop} {Q : Exit → Act → World → Prop} {E : Prop}
    (hg : o.guard = Option.none) (s x : Operand) (t : TypeId) (hop : o.op = Op.call { callee := Callee.builtin Builtin.append, args := #[s, x], argTypes := #[t, t] })
    (base : Nat) (e : TypeId) (i : TypeInfo) (z : Value) (size bytes : Nat) (h1 : P.underlying t = some (.slice e)) (h2 : P.info? e = some i) (h3 : i.zero = some z) (h4 : i.size = size) (h5 : i.bytes = bytes) (h6 : z.cells.size = size) (h7 : 0 < size)
    (so : Option Addr) (n cap : Nat) (xs : List Value) (hs : a.eval s = .slice so n cap) (hown : w.ownsRow base e size (.slice so n cap) n xs)
    (ad : Addr) (c : Nat) (news : List Value) (hx : a.eval x = .slice (some ad) 1 c) (hn : news.length = 1 * size) (hc : ∀ j u, news[j]? = some u → w.cell? (ad.add j) = some u) (h1c : ∀ u ∈ news, u.oneCell' = true)
    (b1 : n + 1 ≤ maxLen) (b2 : (n + 1) * bytes ≤ 140737488355328) (hb : base ≤ w.heap.size)
    (hK : ∀ g cap' w', w'.ownsRow base e size (.slice (some ⟨g, 0, Option.none⟩) (n + 1) cap') (n + 1) (xs ++ news) → w.grownBy w' (Value.slice so n cap).ownBlock → K (a.put o.dst (.slice (some ⟨g, 0, Option.none⟩) (n + 1) cap')) w') :
    if Region.wanted o (yielded ops a.tmps) = true then Oper.wp P o a w K Q else E := by
  have hw : Region.wanted o (yielded ops a.tmps) = true := by simp [Region.wanted, hg]
  rw [if_pos hw]
  obtain ⟨v', w', hrun, r1, r2, r3⟩ := run_append_own (P := P) w base t o.type e i z size bytes h1 h2 h3 h4 h5 h6 h7 (.slice so n cap) n xs hown ad 1 c news hn hc h1c b1 b2 hb
  unfold Oper.wp
  simp [execOp, hop, resolve, invoke, builtin, hs, hx, hrun, Result.andThen]
  rcases r1.2 with ⟨hv, hn0⟩ | ⟨g, cap', cur, hv, _⟩
  · omega
  · subst hv
    exact hK g cap' w' r1 r2

theorem eqNil44 (b : Nat) (w : World) : (binOp .eql 44 (.map (some b)) (.map Option.none)).run Ybaf.prog w = .ok (.bool false) w := by kernel_rfl
theorem eqNil44n (w : World) : (binOp .eql 44 (.map Option.none) (.map Option.none)).run Ybaf.prog w = .ok (.bool true) w := by kernel_rfl

/-! ### the parser's state -/

/-- The parser at block pb: 'warnings' is a row of the call's own with the cells xs, 'warned' the map at block mb with the keys ms, one a warning. -/
structure St (w : World) (pb B : Nat) (so : Option Addr) (cap mb : Nat) (ms : List ByteArray) (xs : List Value) : Prop where
  pbB : pb < B
  hB : B ≤ w.heap.size
  c10 : w.cell? ⟨pb, 1061, Option.none⟩ = some (.slice so ms.length cap)
  f10 : w.frozen? ⟨pb, 1061, Option.none⟩ = false
  c11 : w.cell? ⟨pb, 1062, Option.none⟩ = some (.map (some mb))
  row : w.ownsRow B 52 5 (.slice so ms.length cap) ms.length xs
  map : MapIs w mb ms

/-- What a call of 'warn' leaves as it was. -/
structure Kp (w w' : World) (pb mb : Nat) (rb : Option Nat) : Prop where
  os : w'.os = w.os
  tape : w'.tape = w.tape
  output : w'.output = w.output
  size : w.heap.size ≤ w'.heap.size
  block : ∀ k, k < w.heap.size → k ≠ pb → k ≠ mb → some k ≠ rb → w'.heap[k]? = w.heap[k]?
  cell : ∀ o, o ≠ 1061 → o ≠ 1062 → w'.cell? ⟨pb, o, Option.none⟩ = w.cell? ⟨pb, o, Option.none⟩

theorem row_ne_map {w : World} {B e size n mb : Nat} {v : Value} {xs : List Value} {ms : List ByteArray} (hrow : w.ownsRow B e size v n xs) (hmap : MapIs w mb ms) : v.ownBlock = Option.none ∨ v.ownBlock ≠ some mb := by
  rcases hrow.2 with ⟨rfl, _⟩ | ⟨g', cap', cur, rfl, _, h3, _⟩
  · exact .inl rfl
  · right
    intro h
    simp [Value.ownBlock] at h
    subst h
    obtain ⟨es, clock, h4, _⟩ := hmap
    rw [h3] at h4
    cases h4

section
variable {w w2 w3 : World} {pb B cap mb bb : Nat} {so : Option Addr} {ms : List ByteArray} {xs : List Value} {s : ByteArray}

theorem St.pb_lt (h : St w pb B so cap mb ms xs) : pb < w.heap.size := Nat.lt_of_lt_of_le h.pbB h.hB

theorem St.ne_mb (h : St w pb B so cap mb ms xs) : mb ≠ pb := by
  intro e
  have h1 := h.map.no_cell 1062
  have h2 := h.c11
  rw [e] at h1
  rw [h1] at h2
  cases h2

theorem St.rb_ge (h : St w pb B so cap mb ms xs) : ∀ k, (Value.slice so ms.length cap).ownBlock = some k → B ≤ k ∧ k < w.heap.size := h.row.lt

/-- Behind the store into the map. -/
theorem St.stored (h : St w pb B so cap mb ms xs) (hg : w.grownBy w2 (some mb)) :
    w2.cell? ⟨pb, 1061, Option.none⟩ = some (.slice so ms.length cap) ∧ w2.frozen? ⟨pb, 1061, Option.none⟩ = false ∧ w2.cell? ⟨pb, 1062, Option.none⟩ = some (.map (some mb)) ∧
      w2.ownsRow B 52 5 (.slice so ms.length cap) ms.length xs ∧ B ≤ w2.heap.size := by
  have hb := hg.block pb h.pb_lt (by have := h.ne_mb; simp; omega)
  exact ⟨(World.cell?_of_block hb).trans h.c10, (World.frozen?_of_block hb).trans h.f10, (World.cell?_of_block hb).trans h.c11, h.row.kept hg (row_ne_map h.row h.map), Nat.le_trans h.hB hg.size⟩

/-- A box below stays. -/
theorem St.box_stays (h : St w pb B so cap mb ms xs) (hg : w.grownBy w2 (some mb)) {o : Nat} {v : Value} (hc : w.cell? ⟨bb, o, Option.none⟩ = some v) : w2.cell? ⟨bb, o, Option.none⟩ = some v :=
  hg.cell hc (by
    intro e
    simp at e
    subst e
    rw [h.map.no_cell] at hc
    cases hc)

/-- Behind the append, in its world: the parser's two cells. -/
theorem appended_cells (nb : Obj) (hp : pb < w2.heap.size) (hrb : ∀ k, (Value.slice so ms.length cap).ownBlock = some k → B ≤ k) (hpB : pb < B) (hg3 : ((w2.alloc nb).drew).grownBy w3 (Value.slice so ms.length cap).ownBlock) :
    (∀ o, w3.cell? ⟨pb, o, Option.none⟩ = w2.cell? ⟨pb, o, Option.none⟩) ∧ (∀ o, w3.frozen? ⟨pb, o, Option.none⟩ = w2.frozen? ⟨pb, o, Option.none⟩) := by
  have hb : w3.heap[pb]? = w2.heap[pb]? := (hg3.block pb (by simp; omega) (fun e => by have := hrb pb e.symm; omega)).trans (Below.heap_alloc _ _ _ hp)
  exact ⟨fun o => World.cell?_of_block (w := w2) (a := ⟨pb, o, Option.none⟩) hb, fun o => World.frozen?_of_block (w := w2) (a := ⟨pb, o, Option.none⟩) hb⟩

/-- THE END: behind the store of the longer slice. -/
theorem St.done (h : St w pb B so cap mb ms xs) (hmap : MapIs w2 mb (ms ++ [s])) (hg : w.grownBy w2 (some mb)) (nb : Obj) (hg3 : ((w2.alloc nb).drew).grownBy w3 (Value.slice so ms.length cap).ownBlock)
    {g cap' : Nat} {news : List Value} (hrow3 : w3.ownsRow B 52 5 (.slice (some ⟨g, 0, Option.none⟩) (ms.length + 1) cap') (ms.length + 1) (xs ++ news)) :
    St (w3.setCell ⟨pb, 1061, Option.none⟩ (.slice (some ⟨g, 0, Option.none⟩) (ms.length + 1) cap')) pb B (some ⟨g, 0, Option.none⟩) cap' mb (ms ++ [s]) (xs ++ news) ∧
      Kp w (w3.setCell ⟨pb, 1061, Option.none⟩ (.slice (some ⟨g, 0, Option.none⟩) (ms.length + 1) cap')) pb mb (Value.slice so ms.length cap).ownBlock := by
  obtain ⟨q1, q2, q3, q4, q5⟩ := h.stored hg
  have hp2 : pb < w2.heap.size := Nat.lt_of_lt_of_le h.pb_lt hg.size
  obtain ⟨e1, e2⟩ := appended_cells nb hp2 (fun k hk => (h.rb_ge k hk).1) h.pbB hg3
  have hs3 : w2.heap.size + 1 ≤ w3.heap.size := by have := hg3.size; simpa using this
  have hmb2 := hmap.lt
  have hmap3 : MapIs w3 mb (ms ++ [s]) := hmap.kept ((hg3.block mb (by simp; omega) (fun e => by
      rcases row_ne_map h.row h.map with h1 | h1
      · rw [h1] at e; cases e
      · exact h1 e.symm)).trans (Below.heap_alloc _ _ _ hmb2))
  have hne := h.ne_mb
  refine ⟨⟨h.pbB, ?_, ?_, ?_, ?_, ?_, ?_⟩, ⟨?_, ?_, ?_, ?_, ?_, ?_⟩⟩
  · simp only [World.setCell, Array.size_modify]; omega
  · have : (w3.cell? ⟨pb, 1061, Option.none⟩).isSome = true := by rw [e1, q1]; rfl
    rw [World.cell?_setCell_same' _ _ _ this]
    simp
  · simp [e2, q2]
  · rw [World.cell?_setCell_other _ _ _ _ (by simp), e1, q3]
  · have := ownsRow_setCell_below hrow3 (a := ⟨pb, 1061, Option.none⟩) h.pbB (.slice (some ⟨g, 0, Option.none⟩) (ms.length + 1) cap')
    simpa using this
  · exact hmap3.kept (Below.heap_setCell _ _ _ _ hne)
  · exact hg3.os.trans hg.os
  · exact hg3.tape.trans hg.tape
  · exact hg3.output.trans hg.output
  · simp only [World.setCell, Array.size_modify]; have := hg.size; omega
  · intro k hk h1 h2 h3
    rw [Below.heap_setCell _ _ _ _ h1, hg3.block k (by have := hg.size; simp; omega) h3]
    have hk2 : k < w2.heap.size := Nat.lt_of_lt_of_le hk hg.size
    exact (Below.heap_alloc _ _ _ hk2).trans (hg.block k hk (by simpa using h2))
  · intro o h1 h2
    rw [World.cell?_setCell_other _ _ _ _ (by simp), e1]
    exact World.cell?_of_block (hg.block pb h.pb_lt (by simpa using fun e => hne e.symm))

theorem St.boxed (h : St w pb B so cap mb ms xs) (o : Obj) : St (w.alloc o).drew pb B so cap mb ms xs := by
  have hb : (w.alloc o).heap[pb]? = w.heap[pb]? := Below.heap_alloc _ _ _ h.pb_lt
  exact ⟨h.pbB, by have := h.hB; simp; omega, (World.cell?_of_block hb).trans h.c10, (World.frozen?_of_block hb).trans h.f10, (World.cell?_of_block hb).trans h.c11, (h.row.alloc o).drew, h.map.kept (Below.heap_alloc _ _ _ h.map.lt)⟩

theorem Kp.unbox {o : Obj} {rb : Option Nat} (hp : pb < w.heap.size) (h : Kp (w.alloc o).drew w2 pb mb rb) : Kp w w2 pb mb rb :=
  ⟨h.os, h.tape, h.output, by have := h.size; simp at this; omega, fun k hk h1 h2 h3 => (h.block k (by simp; omega) h1 h2 h3).trans (Below.heap_alloc _ _ _ hk),
    fun o' h1 h2 => (h.cell o' h1 h2).trans (World.cell?_of_block (Below.heap_alloc _ _ _ hp))⟩

theorem new_cells (w : World) (l : List Value) (e : TypeId) : ∀ j u, l[j]? = some u → ((w.alloc (.cells l.toArray e)).drew).cell? ((⟨w.heap.size, 0, Option.none⟩ : Addr).add j) = some u := by
  intro j u h
  have hn : ((w.alloc (.cells l.toArray e)).drew).heap[w.heap.size]? = some (.cells l.toArray e) := heap_alloc_new w _
  rw [Addr.add_lit, Nat.zero_add, cell_of_row _ _ j _ _ _ hn]
  simpa using h

theorem hide {p : Prop} (h : p) : Hid p := h

end


set_option maxHeartbeats 400000 in
/-- A message that is not recorded yet, the map being made. -/
theorem warn_new (F : Interp) (pb B cap mb : Nat) (so : Option Addr) (ms : List ByteArray) (xs : List Value) (f fn : ByteArray) (o l c : Int) (w : World) (hF : F.answers w.tape)
    (hst : St w pb B so cap mb ms xs) (hs : msgOf F f ∉ ms) (hbound : ms.length ≤ 100000) :
    Calls Ybaf.prog 5 #[.pointer (some ⟨pb, 0, Option.none⟩), .agg #[.string fn, .int .i64 o, .int .i64 l, .int .i64 c], .string f, .slice Option.none 0 0] w fun e w' => e = .returned (.tuple #[]) ∧
      ∃ g cap', St w' pb B (some ⟨g, 0, Option.none⟩) cap' mb (ms ++ [msgOf F f]) (xs ++ [.string fn, .int .i64 o, .int .i64 l, .int .i64 c, .string (msgOf F f)]) ∧ Kp w w' pb mb (Value.slice so ms.length cap).ownBlock := by
  have e44 := eqNil44
  have hpb := hst.pb_lt
  have hm := hst.c11
  have hml := hst.map.lt
  have HS : Hid (St w pb B so cap mb ms xs) := hst
  clear hst
  go_enter Ybaf.func5, Ybaf.ntmps5
  go_wp2_with fail
  refine upon_sprintf0 F f (by exact hF) ?_
  go_wp2_with (first
    | (at_lookup; refine wpList_look44 rfl _ _ rfl _ _ false rfl rfl (look_no (MapIs.kept HS.out.map (by exact Below.heap_alloc _ _ _ hml)) hs) ?_)
    | (at_mapUpdate; refine wpList_upd44 rfl _ _ _ rfl mb _ ms rfl rfl rfl (MapIs.kept HS.out.map (by exact Below.heap_alloc _ _ _ hml)) hs ?_))
  intro w2 hmap2 hg2
  have hst1 := HS.out.boxed (.cells #[.string fn, .int .i64 o, .int .i64 l, .int .i64 c] 37)
  obtain ⟨q10, q4, _, hrow2, hB2⟩ := hst1.stored hg2
  have q0 : w2.cell? ⟨w.heap.size, 0, none⟩ = some (.string fn) := hst1.box_stays hg2 (by go_simp)
  have q1 : w2.cell? ⟨w.heap.size, 1, none⟩ = some (.int .i64 o) := hst1.box_stays hg2 (by go_simp)
  have q2 : w2.cell? ⟨w.heap.size, 2, none⟩ = some (.int .i64 l) := hst1.box_stays hg2 (by go_simp)
  have q3 : w2.cell? ⟨w.heap.size, 3, none⟩ = some (.int .i64 c) := hst1.box_stays hg2 (by go_simp)
  have hp2 : pb < w2.heap.size := Nat.lt_of_lt_of_le hst1.pb_lt hg2.size
  have hN2 : w.heap.size < w2.heap.size := by have := hg2.size; simp at this; omega
  have HG := hide hg2
  have HS1 := hide hst1
  have HM := hide hmap2
  clear hm hg2 e44 hst1 hmap2
  obtain ⟨i52, hi, hz0, hz1, hz2⟩ := info_parts info52
  go_wp2_with fail
  generalize hNN : w.heap.size = N at q0 q1 q2 q3 hN2 ⊢
  generalize hM : msgOf F f = M at hs HM ⊢
  go_region_law (refine step_append_own rfl (.tmp 36) (.tmp 40) 43 rfl B 52 i52 _ 5 56 Ybaf.underlying43 hi hz0 hz1 hz2 rfl (by decide) so ms.length cap xs rfl (by exact (hrow2.alloc _).drew) ⟨w2.heap.size, 0, Option.none⟩ 1 [.string fn, .int .i64 o, .int .i64 l, .int .i64 c, .string M] rfl rfl (by exact new_cells _ _ _) (by simp [Value.oneCell']) (by unfold maxLen; omega) (by omega) (by simp; omega) ?_; intro g cap' w3 hrow3 hg3; have qc := appended_cells _ hp2 (fun k hk => (HS1.out.rb_ge k hk).1) HS1.out.pbB hg3; have qa : w3.cell? ⟨pb, 1061, Option.none⟩ = some (.slice so ms.length cap) := (qc.1 _).trans q10; have qb : w3.frozen? ⟨pb, 1061, Option.none⟩ = false := (qc.2 _).trans q4; have HG3 := hide hg3; have HR3 := hide hrow3; clear qc hg3 hrow3)
  all_goals
    go_end0
    subst hNN
    subst hM
    have hend := HS1.out.done HM.out HG.out _ HG3.out HR3.out
    exact ⟨rfl, g, cap', hend.1, hend.2.unbox hpb⟩

set_option maxHeartbeats 400000 in
/-- A message that is recorded already: nothing turns. -/
theorem warn_old (F : Interp) (pb B cap mb : Nat) (so : Option Addr) (ms : List ByteArray) (xs : List Value) (f fn : ByteArray) (o l c : Int) (w : World) (hF : F.answers w.tape)
    (hst : St w pb B so cap mb ms xs) (hs : msgOf F f ∈ ms) :
    Calls Ybaf.prog 5 #[.pointer (some ⟨pb, 0, Option.none⟩), .agg #[.string fn, .int .i64 o, .int .i64 l, .int .i64 c], .string f, .slice Option.none 0 0] w fun e w' => e = .returned (.tuple #[]) ∧
      St w' pb B so cap mb ms xs ∧ Below w.heap.size w w' := by
  have hpb := hst.pb_lt
  have hm := hst.c11
  have hml := hst.map.lt
  have HS : Hid (St w pb B so cap mb ms xs) := hst
  clear hst
  go_enter Ybaf.func5, Ybaf.ntmps5
  go_wp2_with fail
  refine upon_sprintf0 F f (by exact hF) ?_
  go_wp2_with (at_lookup; refine wpList_look44 rfl _ _ rfl _ _ true rfl rfl (look_yes (MapIs.kept HS.out.map (by exact Below.heap_alloc _ _ _ hml)) hs) ?_)
  first | go_end0 | refine bodyPost_ret (results_none rfl _ _ _) rfl ?_
  exact ⟨rfl, HS.out.boxed _, ((Below.refl _ _).alloc (Nat.le_refl _) _).drew⟩

/-- The fresh parser behind the making of the map. -/
theorem St.first {w : World} {pb B : Nat} (bx : Obj) (hpB : pb < B) (hB : B ≤ w.heap.size) (c10 : w.cell? ⟨pb, 1061, Option.none⟩ = some (.slice Option.none 0 0)) (f10 : w.frozen? ⟨pb, 1061, Option.none⟩ = false)
    (c11 : w.cell? ⟨pb, 1062, Option.none⟩ = some (.map Option.none)) :
    St ((((w.setCell ⟨pb, 1062, Option.none⟩ (.map (some (w.heap.size + 1)))).alloc bx).alloc (.map #[] 0)).drew) pb B Option.none 0 (w.heap.size + 1) [] [] := by
  have hpb : pb < w.heap.size := Nat.lt_of_lt_of_le hpB hB
  have hs0 : (w.setCell ⟨pb, 1062, Option.none⟩ (.map (some (w.heap.size + 1)))).heap.size = w.heap.size := by simp [World.setCell]
  generalize hv : w.setCell ⟨pb, 1062, Option.none⟩ (.map (some (w.heap.size + 1))) = v at *
  have h1 : ((v.alloc bx).alloc (.map #[] 0)).heap[pb]? = v.heap[pb]? := (Below.heap_alloc _ _ _ (by simp; omega)).trans (Below.heap_alloc _ _ _ (by omega))
  refine ⟨hpB, ?_, ?_, ?_, ?_, ?_, ?_⟩
  · simp; omega
  · refine (World.cell?_of_block (w := v) h1).trans ?_
    rw [← hv, World.cell?_setCell_other _ _ _ _ (by simp)]
    exact c10
  · refine (World.frozen?_of_block (w := v) h1).trans ?_
    rw [← hv]
    simpa using f10
  · refine (World.cell?_of_block (w := v) h1).trans ?_
    rw [← hv, World.cell?_setCell_same' _ _ _ (by rw [c11]; rfl)]
  · exact World.ownsRow_nil _ _ _ _
  · have := MapIs.made (v.alloc bx)
    have e : (v.alloc bx).heap.size = w.heap.size + 1 := by simp [hs0]
    rwa [e] at this

theorem Kp.first {w w4 : World} {pb : Nat} {bx : Obj} {v : Value} (hpb : pb < w.heap.size) (h : Kp ((((w.setCell ⟨pb, 1062, Option.none⟩ v).alloc bx).alloc (.map #[] 0)).drew) w4 pb (w.heap.size + 1) Option.none) :
    Kp w w4 pb (w.heap.size + 1) Option.none := by
  have hs0 : (w.setCell ⟨pb, 1062, Option.none⟩ v).heap.size = w.heap.size := by simp [World.setCell]
  have h1 : ∀ k, k < w.heap.size → (((w.setCell ⟨pb, 1062, Option.none⟩ v).alloc bx).alloc (.map #[] 0)).heap[k]? = (w.setCell ⟨pb, 1062, Option.none⟩ v).heap[k]? := fun k hk => (Below.heap_alloc _ _ _ (by simp; omega)).trans (Below.heap_alloc _ _ _ (by omega))
  refine ⟨h.os, h.tape, h.output, ?_, fun k hk a1 a2 a3 => ?_, fun o a1 a2 => ?_⟩
  · have := h.size
    simp [hs0] at this
    omega
  · exact (h.block k (by simp; omega) a1 a2 a3).trans ((h1 k hk).trans (Below.heap_setCell _ _ _ _ a1))
  · rw [h.cell o a1 a2]
    refine (World.cell?_of_block (w := w.setCell ⟨pb, 1062, Option.none⟩ v) (h1 pb hpb)).trans ?_
    rw [World.cell?_setCell_other _ _ _ _ (by simp)]

set_option maxHeartbeats 400000 in
/-- The first message of a fresh parser. -/
theorem warn_first (F : Interp) (pb B : Nat) (f fn : ByteArray) (o l c : Int) (w : World) (hF : F.answers w.tape)
    (hpB : pb < B) (hB : B ≤ w.heap.size) (c10 : w.cell? ⟨pb, 1061, Option.none⟩ = some (.slice Option.none 0 0)) (f10 : w.frozen? ⟨pb, 1061, Option.none⟩ = false)
    (c11 : w.cell? ⟨pb, 1062, Option.none⟩ = some (.map Option.none)) (f11 : w.frozen? ⟨pb, 1062, Option.none⟩ = false) :
    Calls Ybaf.prog 5 #[.pointer (some ⟨pb, 0, Option.none⟩), .agg #[.string fn, .int .i64 o, .int .i64 l, .int .i64 c], .string f, .slice Option.none 0 0] w fun e w' => e = .returned (.tuple #[]) ∧
      ∃ g cap' mb, St w' pb B (some ⟨g, 0, Option.none⟩) cap' mb [msgOf F f] [.string fn, .int .i64 o, .int .i64 l, .int .i64 c, .string (msgOf F f)] ∧ Kp w w' pb mb Option.none ∧ w.heap.size ≤ mb := by
  have e44 := eqNil44n
  have hmk : ∀ w : World, (Instr.makeMap 44 Option.none).run Ybaf.prog w = .ok (.map (some w.heap.size)) (w.alloc (.map #[] 0)) := fun w => rfl
  have hpb : pb < w.heap.size := Nat.lt_of_lt_of_le hpB hB
  have hst1 := St.first (.cells #[.string fn, .int .i64 o, .int .i64 l, .int .i64 c] 37) hpB hB c10 f10 c11
  have HS1 := hide hst1
  clear hst1
  go_enter Ybaf.func5, Ybaf.ntmps5
  go_wp2_with fail
  refine upon_sprintf0 F f (by exact hF) ?_
  go_wp2_with (first
    | (at_lookup; refine wpList_look44 rfl _ _ rfl _ _ false rfl rfl (look_nil _ _) ?_)
    | (at_mapUpdate; refine wpList_upd44 rfl _ _ _ rfl (w.heap.size + 1) _ [] rfl rfl rfl (by exact HS1.out.map) (by simp) ?_))
  intro w2 hmap2 hg2
  obtain ⟨q10, q4, _, hrow2, hB2⟩ := HS1.out.stored hg2
  have q0 : w2.cell? ⟨w.heap.size, 0, none⟩ = some (.string fn) := HS1.out.box_stays hg2 (by go_simp)
  have q1 : w2.cell? ⟨w.heap.size, 1, none⟩ = some (.int .i64 o) := HS1.out.box_stays hg2 (by go_simp)
  have q2 : w2.cell? ⟨w.heap.size, 2, none⟩ = some (.int .i64 l) := HS1.out.box_stays hg2 (by go_simp)
  have q3 : w2.cell? ⟨w.heap.size, 3, none⟩ = some (.int .i64 c) := HS1.out.box_stays hg2 (by go_simp)
  have hp2 : pb < w2.heap.size := Nat.lt_of_lt_of_le HS1.out.pb_lt hg2.size
  have hN2 : w.heap.size < w2.heap.size := by have := hg2.size; simp [World.setCell] at this; omega
  have HG := hide hg2
  have HM := hide hmap2
  clear hg2 e44 hmap2 hmk c10 c11 f10 f11
  obtain ⟨i52, hi, hz0, hz1, hz2⟩ := info_parts info52
  go_wp2_with fail
  generalize hNN : w.heap.size = N at q0 q1 q2 q3 hN2 ⊢
  generalize hM : msgOf F f = M at HM ⊢
  go_region_law (refine step_append_own rfl (.tmp 36) (.tmp 40) 43 rfl B 52 i52 _ 5 56 Ybaf.underlying43 hi hz0 hz1 hz2 rfl (by decide) Option.none 0 0 [] rfl (by exact (hrow2.alloc _).drew) ⟨w2.heap.size, 0, Option.none⟩ 1 [.string fn, .int .i64 o, .int .i64 l, .int .i64 c, .string M] rfl rfl (by exact new_cells _ _ _) (by simp [Value.oneCell']) (by unfold maxLen; omega) (by omega) (by simp; omega) ?_; intro g cap' w3 hrow3 hg3; have qc := appended_cells (ms := []) (cap := 0) (so := Option.none) _ hp2 (fun k hk => (HS1.out.rb_ge k hk).1) HS1.out.pbB hg3; have qa : w3.cell? ⟨pb, 1061, Option.none⟩ = some (.slice Option.none 0 0) := (qc.1 _).trans q10; have qb : w3.frozen? ⟨pb, 1061, Option.none⟩ = false := (qc.2 _).trans q4; have HG3 := hide hg3; have HR3 := hide hrow3; clear qc hg3 hrow3)
  all_goals
    go_end0
    subst hNN
    subst hM
    have hend := HS1.out.done HM.out HG.out _ HG3.out HR3.out
    exact ⟨rfl, g, cap', w.heap.size + 1, hend.1, hend.2.first hpb, by omega⟩
end Go.Proofs.YbulkdcwkFmt
