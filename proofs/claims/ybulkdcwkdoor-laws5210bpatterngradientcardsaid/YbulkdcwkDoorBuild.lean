/-
  OWN WORK. The pigment's literal: what holds of its operations, in whatever order they come up.
-/
import Derived.Test.YbulkdcwkDoorAny
import Derived.Test.YbulkdcwkDoorPig
namespace Go.Proofs.YbulkdcwkDoor
open Go.RowKit
set_option linter.unusedVariables false

abbrev fl (x : Nat) : Value := .float .f64 x

def dst29 (j : Nat) : Nat := if j < 20 then 105 + j else 28

/-- What operation j has yielded. -/
def Val (gb g0 g1 g2 r g b r' g' b' sc S : Nat) (j : Nat) (v : Value) (W : World) : Prop :=
  match j with
  | 0 => v = .agg #[fl 4619567317775286272, fl 4619567317775286272, fl 4619567317775286272]
  | 1 => v = .agg #[fl g0, fl g1, fl g2]
  | 2 => v = fl r
  | 3 => v = fl g
  | 4 => v = fl b
  | 5 => v = .agg #[fl r, fl g, fl b]
  | 6 => v = .agg #[fl 0, fl r, fl g, fl b]
  | 7 => v = fl r'
  | 8 => v = fl g'
  | 9 => v = fl b'
  | 10 => v = .agg #[fl r', fl g', fl b']
  | 11 => v = .agg #[fl 4607182418800017408, fl r', fl g', fl b']
  | 12 => ∃ mb, v = .slice (some ⟨mb, 0, none⟩) 2 2 ∧ W.heap[mb]? = some (.cells (ents r g b r' g' b') 29 (0, 0))
  | 13 => v = .agg (affV (dgm 4607182418800017408))
  | 14 => v = fl sc
  | 15 => v = fl sc
  | 16 => v = fl sc
  | 17 => v = .agg #[fl sc, fl sc, fl sc]
  | 18 => v = .agg (affV (dgm S))
  | 19 => ∃ mb, v = .agg (pigV g0 g1 g2 mb (dgm S)) ∧ W.heap[mb]? = some (.cells (ents r g b r' g' b') 29 (0, 0))
  | 20 => ∃ pb old, v = .pointer (some ⟨pb, 0, none⟩) ∧ W.heap[pb]? = some (.cells old 41 (0, 0)) ∧ old.size = 21 ∧ gb ≤ pb
  | 21 => ∃ pb mb, v = .pointer (some ⟨pb, 0, none⟩) ∧ W.heap[pb]? = some (.cells (pigV g0 g1 g2 mb (dgm S)) 41 (0, 0)) ∧ W.heap[mb]? = some (.cells (ents r g b r' g' b') 29 (0, 0))
  | _ => True

section
variable {gb g0 g1 g2 r g b r' g' b' sc S : Nat}

/-- Only operations 12, 19, 20, 21 tell of the world. -/
theorem Val.kept {j : Nat} {v : Value} {W W' : World} (h : Val gb g0 g1 g2 r g b r' g' b' sc S j v W) (k : Below W.heap.size W W') : Val gb g0 g1 g2 r g b r' g' b' sc S j v W' := by
  unfold Val at h ⊢
  split at h
  all_goals first
    | exact h
    | (obtain ⟨mb, e, hm⟩ := h; exact ⟨mb, e, Below.blk k hm (blk_lt hm)⟩)
    | (obtain ⟨pb, old, e, hp, hs, hg⟩ := h; exact ⟨pb, old, e, Below.blk k hp (blk_lt hp), hs, hg⟩)
    | (obtain ⟨pb, mb, e, hp, hm⟩ := h; exact ⟨pb, mb, e, Below.blk k hp (blk_lt hp), Below.blk k hm (blk_lt hm)⟩)
    | trivial

/-- What stays: the gradient's block; the package's variable; all that was there. -/
structure Wd (gb g0 g1 g2 : Nat) (w W : World) : Prop where
  g : W.heap[gb]? = some (.cells #[fl g0, fl g1, fl g2] 32 (0, 0))
  id : Ident W 4607182418800017408 0 0 0 4607182418800017408 0 0 0 4607182418800017408
  bel : Below gb w W
  pos : 0 < gb

theorem Wd.kept {w W W' : World} (h : Wd gb g0 g1 g2 w W) (k : Below W.heap.size W W') : Wd gb g0 g1 g2 w W' := by
  have hp : 0 < W.heap.size := World.block_lt_of_cell? W _ h.id.c0
  exact ⟨Below.blk k h.g (blk_lt h.g), ⟨(k.cell (p := ⟨0, 0, none⟩) hp).trans h.id.c0, (k.cell (p := ⟨0, 1, none⟩) hp).trans h.id.c1, (k.cell (p := ⟨0, 2, none⟩) hp).trans h.id.c2, (k.cell (p := ⟨0, 3, none⟩) hp).trans h.id.c3, (k.cell (p := ⟨0, 4, none⟩) hp).trans h.id.c4, (k.cell (p := ⟨0, 5, none⟩) hp).trans h.id.c5, (k.cell (p := ⟨0, 6, none⟩) hp).trans h.id.c6, (k.cell (p := ⟨0, 7, none⟩) hp).trans h.id.c7, (k.cell (p := ⟨0, 8, none⟩) hp).trans h.id.c8⟩, h.bel.trans (k.mono (Nat.le_of_lt (blk_lt h.g))), h.pos⟩

theorem Val.big {j : Nat} {v : Value} {W : World} (hj : 22 ≤ j) : Val gb g0 g1 g2 r g b r' g' b' sc S j v W := by
  unfold Val
  split
  all_goals first
    | omega
    | trivial

/-- The invariant. -/
structure J29 (gb g0 g1 g2 r g b r' g' b' sc S : Nat) (w : World) (L : Nat → Bool) (vals : Nat → Value) (W : World) : Prop where
  wd : Wd gb g0 g1 g2 w W
  val : ∀ j, L j = true → Val gb g0 g1 g2 r g b r' g' b' sc S j (vals (dst29 j)) W
  imp : L 21 = true → L 20 = true

/-- One more has come up, in a world that has grown. -/
theorem J29.step {w W W' : World} {L : Nat → Bool} {vals : Nat → Value} (h : J29 gb g0 g1 g2 r g b r' g' b' sc S w L vals W) {i : Nat} (hi : i < 21) (hL : L i = false) (k : Below W.heap.size W W') {v : Value} (hv : Val gb g0 g1 g2 r g b r' g' b' sc S i v W') :
    J29 gb g0 g1 g2 r g b r' g' b' sc S w (mark L i) (upv vals (dst29 i) v) W' := by
  refine ⟨h.wd.kept k, fun j hj => ?_, fun h21 => ?_⟩
  · by_cases e : j = i
    · subst e
      unfold upv
      rw [if_pos rfl]
      exact hv
    · have hj' : L j = true := by
        unfold mark at hj
        rw [if_neg e] at hj
        exact hj
      by_cases h22 : 22 ≤ j
      · exact Val.big h22
      have hne : dst29 j ≠ dst29 i := by
        unfold dst29
        by_cases h1 : j < 20
        · by_cases h2 : i < 20
          · simp only [h1, h2, if_true]; omega
          · simp only [h1, h2, if_true, if_false]; omega
        · by_cases h2 : i < 20
          · simp only [h1, h2, if_true, if_false]; omega
          · exfalso
            have hi20 : i = 20 := by omega
            subst hi20
            by_cases h21 : j = 21
            · subst h21
              rw [h.imp hj'] at hL
              cases hL
            · omega
      unfold upv
      rw [if_neg hne]
      exact (h.val j hj').kept k
  · unfold mark at h21 ⊢
    by_cases e : i = 20
    · subst e; simp
    · have e1 : ¬ 21 = i := by omega
      have e2 : ¬ 20 = i := fun h => e h.symm
      rw [if_neg e1] at h21
      rw [if_neg e2]
      exact h.imp h21

/-- The last: the pigment is stored. -/
theorem J29.last {w W : World} {L : Nat → Bool} {vals : Nat → Value} (h : J29 gb g0 g1 g2 r g b r' g' b' sc S w L vals W) (h20 : L 20 = true) {pb mb : Nat} {old : Array Value} (e : vals 28 = .pointer (some ⟨pb, 0, none⟩)) (hp : W.heap[pb]? = some (.cells old 41 (0, 0))) (hgp : gb ≤ pb) (hm : W.heap[mb]? = some (.cells (ents r g b r' g' b') 29 (0, 0))) :
    J29 gb g0 g1 g2 r g b r' g' b' sc S w (mark L 21) vals (W.setRow pb (pigV g0 g1 g2 mb (dgm S))) := by
  have hnew : (W.setRow pb (pigV g0 g1 g2 mb (dgm S))).heap[pb]? = some (.cells (pigV g0 g1 g2 mb (dgm S)) 41 (0, 0)) := setRow_heap W pb _ _ 41 _ hp
  have hne : ∀ {c : Nat} {C : Array Value} {t : TypeId}, W.heap[c]? = some (.cells C t (0, 0)) → t ≠ 41 → c ≠ pb := by
    intro c C t hc ht e'
    subst e'
    rw [hp] at hc
    injection hc with hc
    injection hc with _ h2 _
    exact ht h2.symm
  have hkeep : ∀ {c : Nat} {C : Array Value} {t : TypeId}, W.heap[c]? = some (.cells C t (0, 0)) → t ≠ 41 → (W.setRow pb (pigV g0 g1 g2 mb (dgm S))).heap[c]? = some (.cells C t (0, 0)) := fun hc ht => (setRow_other W pb _ _ (hne hc ht)).trans hc
  have hm' := hkeep hm (by decide)
  have hb0 : (W.setRow pb (pigV g0 g1 g2 mb (dgm S))).heap[0]? = W.heap[0]? := setRow_other W pb _ _ (by have := h.wd.pos; omega)
  refine ⟨⟨hkeep h.wd.g (by decide), ⟨(World.cell?_of_block (a := ⟨0, 0, none⟩) hb0).trans h.wd.id.c0, (World.cell?_of_block (a := ⟨0, 1, none⟩) hb0).trans h.wd.id.c1, (World.cell?_of_block (a := ⟨0, 2, none⟩) hb0).trans h.wd.id.c2, (World.cell?_of_block (a := ⟨0, 3, none⟩) hb0).trans h.wd.id.c3, (World.cell?_of_block (a := ⟨0, 4, none⟩) hb0).trans h.wd.id.c4, (World.cell?_of_block (a := ⟨0, 5, none⟩) hb0).trans h.wd.id.c5, (World.cell?_of_block (a := ⟨0, 6, none⟩) hb0).trans h.wd.id.c6, (World.cell?_of_block (a := ⟨0, 7, none⟩) hb0).trans h.wd.id.c7, (World.cell?_of_block (a := ⟨0, 8, none⟩) hb0).trans h.wd.id.c8⟩, below_setRow h.wd.bel hgp _, h.wd.pos⟩, fun j hj => ?_, fun _ => ?_⟩
  · by_cases e21 : j = 21
    · subst e21
      exact ⟨pb, mb, e, hnew, hm'⟩
    · have hj' : L j = true := by
        unfold mark at hj
        rw [if_neg e21] at hj
        exact hj
      have hv := h.val j hj'
      by_cases e20 : j = 20
      · subst e20
        exact ⟨pb, _, e, hnew, rfl, hgp⟩
      · unfold Val at hv ⊢
        split at hv
        all_goals first
          | exact hv
          | (obtain ⟨mb', e', hm2⟩ := hv; exact ⟨mb', e', hkeep hm2 (by decide)⟩)
          | omega
          | trivial
  · unfold mark
    simp [h20]
end

/-! ### the operations, one by one -/

theorem b27 (x y z : Nat) (w : World) : (Instr.build 27 #[(0, fl x), (1, fl y), (2, fl z)]).run Ybad.prog w = .ok (.agg #[fl x, fl y, fl z]) w := by kernel_rfl
theorem b32 (x y z : Nat) (w : World) : (Instr.build 32 #[(0, fl x), (1, fl y), (2, fl z)]).run Ybad.prog w = .ok (.agg #[fl x, fl y, fl z]) w := by kernel_rfl
theorem b29 (v x y z : Nat) (w : World) : (Instr.build 29 #[(0, fl v), (1, .agg #[fl x, fl y, fl z])]).run Ybad.prog w = .ok (.agg #[fl v, fl x, fl y, fl z]) w := by kernel_rfl
theorem b41 (g0 g1 g2 mb : Nat) (m : Nat → Nat) (w : World) : (Instr.build 41 #[(0, .agg #[fl 4619567317775286272, fl 4619567317775286272, fl 4619567317775286272]), (3, .agg #[fl g0, fl g1, fl g2]), (4, .slice (some ⟨mb, 0, none⟩) 2 2), (5, .agg (affV m))]).run Ybad.prog w = .ok (.agg (pigV g0 g1 g2 mb m)) w := by kernel_rfl

/-- What is known of the frame. -/
structure Fr (a a0 : Act) (ds : List Nat) (vals : Nat → Value) : Prop where
  inn : ∀ k, k ∈ ds → k < a0.tmps.size → a.eval (.tmp k) = vals k
  out : ∀ k, k ∉ ds → a.eval (.tmp k) = a0.eval (.tmp k)
  put : ∀ d, d ∈ ds → ∀ v, a.put (some d) v = fr a0 ds (upv vals d v)
  same : a = fr a0 ds vals

theorem Fr.of (a0 : Act) (ds : List Nat) (vals : Nat → Value) : Fr (fr a0 ds vals) a0 ds vals := ⟨fun _ h1 h2 => fr_in h1 h2, fun _ h => fr_out h, fun _ h v => fr_put h v, rfl⟩

def ds29 : List Nat := [105, 106, 107, 108, 109, 110, 111, 112, 113, 114, 115, 116, 117, 118, 119, 120, 121, 122, 123, 124, 28]

theorem dst_mem {i : Nat} (hi : i < 21) : dst29 i ∈ ds29 := by
  have : i = 0 ∨ i = 1 ∨ i = 2 ∨ i = 3 ∨ i = 4 ∨ i = 5 ∨ i = 6 ∨ i = 7 ∨ i = 8 ∨ i = 9 ∨ i = 10 ∨ i = 11 ∨ i = 12 ∨ i = 13 ∨ i = 14 ∨ i = 15 ∨ i = 16 ∨ i = 17 ∨ i = 18 ∨ i = 19 ∨ i = 20 := by omega
  rcases this with rfl | rfl | rfl | rfl | rfl | rfl | rfl | rfl | rfl | rfl | rfl | rfl | rfl | rfl | rfl | rfl | rfl | rfl | rfl | rfl | rfl <;> decide

section
variable {gb g0 g1 g2 r g b r' g' b' sc S : Nat} {w W : World} {L : Nat → Bool} {vals : Nat → Value} {a a0 : Act} {Q : Exit → Act → World → Prop} {o : Oper} {i : Nat}

/-- What is asked behind an operation. -/
def Next29 (gb g0 g1 g2 r g b r' g' b' sc S : Nat) (w : World) (a0 : Act) (L : Nat → Bool) (i : Nat) (a' : Act) (W' : World) : Prop := ∃ vals', a' = fr a0 ds29 vals' ∧ J29 gb g0 g1 g2 r g b r' g' b' sc S w (mark L i) vals' W'

theorem st_value (hJ : J29 gb g0 g1 g2 r g b r' g' b' sc S w L vals W) (hF : Fr a a0 ds29 vals) (hL : L i = false) (hi : i < 21) (hd : o.dst = some (dst29 i)) {v : Value} {W' : World}
    (hrun : (execOp a.eval o).run Ybad.prog W = .ok (.value v) W') (k : Below W.heap.size W W') (hv : Val gb g0 g1 g2 r g b r' g' b' sc S i v W') : o.wp Ybad.prog a W (Next29 gb g0 g1 g2 r g b r' g' b' sc S w a0 L i) Q := by
  refine wp_value hrun ?_
  rw [hd]
  exact ⟨_, hF.put _ (dst_mem hi) v, hJ.step hi hL k hv⟩

theorem st_call (hJ : J29 gb g0 g1 g2 r g b r' g' b' sc S w L vals W) (hF : Fr a a0 ds29 vals) (hL : L i = false) (hi : i < 21) (hd : o.dst = some (dst29 i)) {v : Value} {f : FuncId} {args : Array Value}
    (hrun : (execOp a.eval o).run Ybad.prog W = .ok (.enter f args) W) (hc : Calls Ybad.prog f args W fun e W' => e = .returned v ∧ Below W.heap.size W W') (hv : ∀ W', Val gb g0 g1 g2 r g b r' g' b' sc S i v W') : o.wp Ybad.prog a W (Next29 gb g0 g1 g2 r g b r' g' b' sc S w a0 L i) Q := by
  refine wp_enter hrun hc fun W' k => ?_
  rw [hd]
  exact ⟨_, hF.put _ (dst_mem hi) v, hJ.step hi hL k (hv W')⟩
end

end Go.Proofs.YbulkdcwkDoor
