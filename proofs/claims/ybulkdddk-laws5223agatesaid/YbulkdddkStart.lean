/-
  OWN WORK. The start of the law: the nodes, the rows.
-/
import Derived.Test.YbulkdddkState
namespace Go.Proofs.Ybulkdddk
open Go.RowKit
set_option linter.unusedVariables false

/-- The two nodes, made one by one. -/
structure Nv (B cb nb : Nat) (W : World) (i : Nat) (nds : Nat → Nat) (co : Nat → Option Addr) : Prop where
  cb : ∃ C, W.heap[cb]? = some (.cells C 43 (0, 0)) ∧ C[1]? = some (.slice none 0 0) ∧ C[2]? = some (.int .u64 0)
  nb : ∃ P, W.heap[nb]? = some (.cells P 45 (0, 0)) ∧ P.size = 2 ∧ ∀ q, q < i → P[q]? = some (.pointer (some ⟨nds q, 0, none⟩))
  nd : ∀ q, q < i → ∃ N, W.heap[nds q]? = some (.cells N 54 (0, 0)) ∧ N[5]? = some (.int .i64 0) ∧ N[6]? = some (.pointer (co q))
  ge : ∀ q, q < i → B ≤ nds q
  ne : ∀ q q', q < i → q' < i → q ≠ q' → nds q ≠ nds q'

theorem build80 : ∃ cs : Array Value, ∀ w, (Instr.build 80 #[]).run Yba.prog w = .ok (.agg cs) w :=
  ⟨((Yba.prog.info? 80).bind (·.zero)).elim #[] Value.cells, fun w => by kernel_rfl⟩

theorem wpList_exec {P : Program} {w w' : World} {ops : Array Oper} {rest : List Oper} {o : Oper} {a : Act} {Q : Exit → Act → World → Prop} {v : Value} (hg : o.guard = Option.none)
    (hrun : (execOp a.eval o).run P w = .ok (.value v) w') (hK : wpList P ops Q rest (a.put o.dst v) w') : wpList P ops Q (o :: rest) a w := by
  refine wpList_plain hg fun K hK' => ?_
  unfold Oper.wp
  rw [hrun]
  exact hK' _ _ hK

theorem wpList_build80 {w : World} {ops : Array Oper} {rest : List Oper} {o : Oper} {a : Act} {Q : Exit → Act → World → Prop} (hg : o.guard = Option.none) (hop : o.op = Op.build 80 #[])
    (cs : Array Value) (hb : ∀ w, (Instr.build 80 #[]).run Yba.prog w = .ok (.agg cs) w)
    (hK : wpList Yba.prog ops Q rest (a.put o.dst (.agg cs)) w) : wpList Yba.prog ops Q (o :: rest) a w := by
  refine wpList_exec hg (v := .agg cs) (w' := w) ?_ hK
  simp only [execOp, hop]
  simp [hb]

/-- A node more. -/
theorem Nv.step {B cb nb : Nat} {W : World} {i : Nat} {nds : Nat → Nat} {co : Nat → Option Addr} (h : Nv B cb nb W i nds co) (hi : i < 2) (hB : B ≤ W.heap.size) (N : Array Value) (h5 : N[5]? = some (.int .i64 0)) {co' : Option Addr} (h6 : N[6]? = some (.pointer co')) :
    Nv B cb nb ((W.setCell ⟨nb, i, none⟩ (.pointer (some ⟨W.heap.size, 0, none⟩))).alloc (.cells N 54)) (i + 1) (fun q => if q = i then W.heap.size else nds q) (fun q => if q = i then co' else co q) := by
  obtain ⟨P, hp, hps, hpq⟩ := h.nb
  obtain ⟨C, hc, h1, h2⟩ := h.cb
  have k1 := (Kn.setCell W nb i (.pointer (some ⟨W.heap.size, 0, none⟩))).ty hp
  have hs : (W.setCell ⟨nb, i, none⟩ (.pointer (some ⟨W.heap.size, 0, none⟩))).heap.size = W.heap.size := by simp [World.setCell]
  have k2 := Kn.alloc (W.setCell ⟨nb, i, none⟩ (.pointer (some ⟨W.heap.size, 0, none⟩))) (.cells N 54)
  have hnew := new_block (W.setCell ⟨nb, i, none⟩ (.pointer (some ⟨W.heap.size, 0, none⟩))) (.cells N 54)
  rw [hs] at hnew
  refine ⟨⟨C, k2 _ _ _ (k1 _ _ _ hc (.inl (by decide))) trivial, h1, h2⟩, ⟨_, k2 _ _ _ (heap_setCell_at hp) trivial, by simpa using hps, fun q hq => ?_⟩, fun q hq => ?_, fun q hq => ?_, fun q q' hq hq' hne => ?_⟩
  · by_cases e : q = i
    · subst e
      simp [hps, hi]
    · rw [Array.getElem?_setIfInBounds, if_neg (fun e' => e e'.symm)]
      simp only [e, if_false]
      exact hpq q (by omega)
  · by_cases e : q = i
    · subst e
      simp only [if_true]
      exact ⟨N, hnew, h5, h6⟩
    · simp only [e, if_false]
      obtain ⟨N', a, b, c⟩ := h.nd q (by omega)
      exact ⟨N', k2 _ _ _ (k1 _ _ _ a (.inl (by decide))) trivial, b, c⟩
  · by_cases e : q = i
    · simp [e, hB]
    · simp only [e, if_false]
      exact h.ge q (by omega)
  · have lt : ∀ q, q < i → nds q < W.heap.size := fun q hq => by
      obtain ⟨N', a, _⟩ := h.nd q hq
      exact lt_of_heap a
    by_cases e : q = i
    · have e' : q' ≠ i := by omega
      have := lt q' (by omega)
      simp only [e, e', if_true, if_false]
      omega
    · by_cases e' : q' = i
      · have := lt q (by omega)
        simp only [e, e', if_true, if_false]
        omega
      · simp only [e, e', if_false]
        exact h.ne q q' (by omega) (by omega) hne

theorem Nv.alloc {B cb nb : Nat} {W : World} {i : Nat} {nds : Nat → Nat} {co : Nat → Option Addr} (h : Nv B cb nb W i nds co) (o : Obj) : Nv B cb nb (W.alloc o) i nds co := by
  obtain ⟨P, hp, hps, hpq⟩ := h.nb
  obtain ⟨C, hc, h1, h2⟩ := h.cb
  have k := Kn.alloc W o
  refine ⟨⟨C, k _ _ _ hc trivial, h1, h2⟩, ⟨P, k _ _ _ hp trivial, hps, hpq⟩, fun q hq => ?_, h.ge, h.ne⟩
  obtain ⟨N, a, b, c⟩ := h.nd q hq
  exact ⟨N, k _ _ _ a trivial, b, c⟩

theorem Kn.grown0 {W W' : World} (h : W.grownBy W' none) : Kn (fun _ _ => True) W W' := fun b cur t hb _ => (h.block b (lt_of_heap hb) (by simp)).trans hb

theorem RowI.made {w : World} {base b t : Nat} {k : IntKind} {N : Nat} (h : w.ownsRow base t 1 (.slice (some ⟨b, 0, none⟩) N N) N (madeCells #[Value.int k 0] N).toList) : RowI w b t k N (fun _ => 0) := by
  rcases h.2 with ⟨h1, _⟩ | ⟨g, cap, cur, hv, _, hg, _, _, hs, ht⟩
  · simp at h1
  · simp at hv
    obtain ⟨rfl, rfl⟩ := hv
    refine ⟨cur, hg, by omega, fun i hi => ?_⟩
    have e1 : (cur.toList.take (N * 1))[i]? = cur[i]? := by simp [show i < N by omega]
    rw [← e1, ht, toList_madeCells_one]
    simp [hi]

theorem Ro.made {w : World} {base b t n : Nat} {g : Nat → Int} (h : w.ownsRow base t 1 (.slice (some ⟨b, 0, none⟩) 0 n) 0 []) : Ro w b t 0 n g := by
  rcases h.2 with ⟨h1, _⟩ | ⟨g', cap', cur, hv, hB, hg, h1, h2, h3, ht⟩
  · simp at h1
  · simp at hv
    obtain ⟨rfl, rfl⟩ := hv
    exact ⟨cur, hg, ⟨h1, h2, by omega⟩, fun i hi => absurd hi (Nat.not_lt_zero _)⟩

theorem info3 : (Yba.prog.info? 3).map (fun i => (i.zero, i.size, i.bytes)) = some (some (.int .i64 0), 1, 8) := by kernel_rfl
theorem info2 : (Yba.prog.info? 2).map (fun i => (i.zero, i.size, i.bytes)) = some (some (.int .i64 0), 1, 8) := by kernel_rfl

def bx0 : Nat → Box := fun _ => ⟨0, 0, 0, 0, 0, 0, 0⟩

/-- The script's start. -/
theorem Sc.start {B n : Nat} {W1 w1 w2 w3 w4 w5 : World} {nds : Nat → Nat} {co : Nat → Option Addr} (h : Nv B B (B + 1) W1 2 nds co) (hn : n ≤ 1024)
    (o1 : w1.ownsRow B 3 1 (.slice (some ⟨W1.heap.size, 0, none⟩) n n) n (madeCells #[Value.int .i64 0] n).toList) (g1 : W1.grownBy w1 none)
    (e2 : w2 = w1.alloc (.cells #[.slice (some ⟨W1.heap.size, 0, none⟩) n n] 81))
    (o3 : w3.ownsRow B 2 1 (.slice (some ⟨w2.heap.size, 0, none⟩) 0 n) 0 []) (g3 : w2.grownBy w3 none)
    (o4 : w4.ownsRow B 3 1 (.slice (some ⟨w3.heap.size, 0, none⟩) 0 n) 0 []) (g4 : w3.grownBy w4 none)
    (o5 : w5.ownsRow B 3 1 (.slice (some ⟨w4.heap.size, 0, none⟩) 0 n) 0 []) (g5 : w4.grownBy w5 none) :
    ∃ c : Cs, c.n = n ∧ c.cb = B ∧ c.nb = B + 1 ∧ c.rb = w1.heap.size ∧ c.tb = w2.heap.size ∧ c.wb = w3.heap.size ∧ c.lb = w4.heap.size ∧ c.B = B ∧ c.ok ∧ Below B W1 w5 ∧ ∃ C, Sc c w5 0 0 0 0 0 bx0 (fun _ => 0) co none 0 C := by
  obtain ⟨C, hcb, hC1, hC2⟩ := h.cb
  obtain ⟨P, hp, hps, hpq⟩ := h.nb
  have r1 := RowI.made o1
  have l1 := r1.lt
  have s2 : w2.heap.size = w1.heap.size + 1 := by rw [e2]; simp
  have r3 : Ro w3 w2.heap.size 2 0 n (fun id => (bx0 id).T) := Ro.made o3
  have r4 : Ro w4 w3.heap.size 3 0 n (fun id => (bx0 id).wh) := Ro.made o4
  have r5 : Ro w5 w4.heap.size 3 0 n (fun id => (bx0 id).lf) := Ro.made o5
  have lt : ∀ {W : World} {b t k n : Nat} {g : Nat → Int}, Ro W b t k n g → b < W.heap.size := fun h => by obtain ⟨cur, hb, _⟩ := h; exact lt_of_heap hb
  have l3 := lt r3
  have l4 := lt r4
  have l5 := lt r5
  have lB : B < W1.heap.size := lt_of_heap hcb
  have k1 := Kn.grown0 g1
  have k2 : Kn (fun _ _ => True) w1 w2 := by rw [e2]; exact Kn.alloc _ _
  have k3 := Kn.grown0 g3
  have k4 := Kn.grown0 g4
  have k5 := Kn.grown0 g5
  have kk := (((k1.trans k2).trans k3).trans k4).trans k5
  have hrb : w2.heap[w1.heap.size]? = some (.cells #[.slice (some ⟨W1.heap.size, 0, none⟩) n n] 81 (0, 0)) := by rw [e2]; exact new_block _ _
  have hnb : W1.heap[B + 1]? = some (.cells #[.pointer (some ⟨nds 0, 0, none⟩), .pointer (some ⟨nds 1, 0, none⟩)] 45 (0, 0)) := by
    have : P = #[.pointer (some ⟨nds 0, 0, none⟩), .pointer (some ⟨nds 1, 0, none⟩)] := by
      have p0 := hpq 0 (by omega)
      have p1 := hpq 1 (by omega)
      apply Array.ext
      · rw [hps]; rfl
      · intro j h1 h2
        rw [hps] at h1
        rcases Nat.lt_or_ge j 1 with hj | hj
        · obtain rfl : j = 0 := by omega
          have := (Array.getElem?_eq_some_iff.1 p0).2
          simpa using this
        · obtain rfl : j = 1 := by omega
          have := (Array.getElem?_eq_some_iff.1 p1).2
          simpa using this
    rw [← this]
    exact hp
  have g0 := h.ge 0 (by omega)
  have g1' := h.ge 1 (by omega)
  have gs1 := g1.size
  have gs3 := g3.size
  have gs4 := g4.size
  have gs5 := g5.size
  refine ⟨⟨n, B, B + 1, w1.heap.size, W1.heap.size, w2.heap.size, w3.heap.size, w4.heap.size, nds 0, nds 1, w5.heap.size, B⟩, rfl, rfl, rfl, rfl, rfl, rfl, rfl, rfl, ⟨hn, ?_, ?_, ?_, ?_, ?_, ?_, ?_, ?_, ?_, ?_, ?_, ?_, ?_, ?_, ?_⟩, ?_, C, ⟨⟨kk _ _ _ hnb trivial, ((k3.trans k4).trans k5) _ _ _ hrb trivial⟩, r1.keptN (((k2.trans k3).trans k4).trans k5) trivial, ?_, fun id hid => absurd hid (Nat.not_lt_zero _), ⟨kk _ _ _ hcb trivial, hC1, hC2, fun _ => (0, 0, #[]), ⟨id, id, fun i hi => absurd hi (Nat.not_lt_zero _), fun i hi => absurd hi (Nat.not_lt_zero _)⟩, .inl ⟨rfl, rfl, rfl⟩⟩, r3.kept (k4.trans k5) trivial, r4.kept k5 trivial, r5, fun _ _ => Nat.le_refl _, Nat.le_refl _⟩⟩
  all_goals try (first | exact h.ne 0 1 (by omega) (by omega) (by omega) | exact g0 | exact g1' | (dsimp only; omega))
  · refine (((((Below.refl B W1).grown g1 (by omega) (fun k hk => by cases hk)).trans ?_).grown g3 (by omega) (fun k hk => by cases hk)).grown g4 (by omega) (fun k hk => by cases hk)).grown g5 (by omega) (fun k hk => by cases hk)
    rw [e2]
    exact (Below.refl B w1).alloc (by omega) _
  · intro q hq
    obtain ⟨N, a, b, d⟩ := h.nd q hq
    refine ⟨N, ?_, b, d⟩
    have e : Cs.nds ⟨n, B, B + 1, w1.heap.size, W1.heap.size, w2.heap.size, w3.heap.size, w4.heap.size, nds 0, nds 1, w5.heap.size, B⟩ q = nds q := by
      unfold Cs.nds
      rcases Nat.lt_or_ge q 1 with hj | hj
      · obtain rfl : q = 0 := by omega
        rfl
      · obtain rfl : q = 1 := by omega
        rfl
    rw [e]
    exact kk _ _ _ a trivial

end Go.Proofs.Ybulkdddk
