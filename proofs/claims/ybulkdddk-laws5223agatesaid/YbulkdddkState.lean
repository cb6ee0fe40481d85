/-
  OWN WORK. The state of the script.
-/
import Derived.Test.YbulkdddkRun
namespace Go.Proofs.Ybulkdddk
open Go.RowKit
set_option linter.unusedVariables false

/-- The blocks of whole cells that stay as they are. -/
def Kn (ok : Nat → TypeId → Prop) (W W' : World) : Prop := ∀ (b : Nat) (cur : Array Value) (t : TypeId), W.heap[b]? = some (.cells cur t (0, 0)) → ok b t → W'.heap[b]? = some (.cells cur t (0, 0))

section
variable {W W' W'' : World} {ok ok' : Nat → TypeId → Prop}

theorem Kn.mono (h : Kn ok W W') (hm : ∀ b t, ok' b t → ok b t) : Kn ok' W W' := fun b cur t hb ho => h b cur t hb (hm b t ho)
theorem Kn.trans (h : Kn ok W W') (k : Kn ok W' W'') : Kn ok W W'' := fun b cur t hb ho => k b cur t (h b cur t hb ho) ho
theorem Kn.alloc (W : World) (o : Obj) : Kn (fun _ _ => True) W (W.alloc o) := fun b cur t hb _ => (Below.heap_alloc W o b (lt_of_heap hb)).trans hb
theorem Kn.setCell (W : World) (p o : Nat) (v : Value) : Kn (fun b _ => b ≠ p) W (W.setCell ⟨p, o, none⟩ v) := fun b cur t hb hne => (Below.heap_setCell _ _ _ _ hne).trans hb
theorem Kn.of_kp {B : Nat} (h : Kp B W W') : Kn (fun _ t => t ≠ 87 ∧ t ≠ 43) W W' := fun b cur t hb ho => h.keep b cur t hb ho.1 ho.2
theorem Kn.grown {g : Nat} (h : W.grownBy W' (some g)) : Kn (fun b _ => b ≠ g) W W' := fun b cur t hb hne => (h.block b (lt_of_heap hb) (by simpa using hne)).trans hb
theorem Kn.drew (h : Kn ok W W') : Kn ok W W'.drew := h

/-- Two blocks of different types are two. -/
theorem ty_ne {b b' : Nat} {c c' : Array Value} {t t' : TypeId} (h : W.heap[b]? = some (.cells c t (0, 0))) (h' : W.heap[b']? = some (.cells c' t' (0, 0))) (ht : t ≠ t') : b ≠ b' := by
  rintro rfl
  rw [h] at h'
  injection h' with h'
  injection h' with _ e _
  exact ht e

/-- So a change of one block turns no block of another type. -/
theorem Kn.ty {p : Nat} {c : Array Value} {t0 : TypeId} (h : Kn (fun b _ => b ≠ p) W W') (hp : W.heap[p]? = some (.cells c t0 (0, 0))) : Kn (fun b t => t ≠ t0 ∨ b ≠ p) W W' := fun b cur t hb ho => h b cur t hb (by
  rcases ho with ho | ho
  · exact ty_ne hb hp ho
  · exact ho)
end

/-! ### rows of integers in a capacity -/

/-- Block b: a row of k integers in a capacity of n. -/
def Ro (W : World) (b : Nat) (t : TypeId) (k n : Nat) (g : Nat → Int) : Prop :=
  ∃ cur : Array Value, W.heap[b]? = some (.cells cur t (0, 0)) ∧ (k ≤ n ∧ n ≤ maxLen ∧ cur.size = n) ∧ ∀ i, i < k → cur[i]? = some (.int .i64 (g i))

section
variable {W W' : World} {b : Nat} {t : TypeId} {k n : Nat} {g g' : Nat → Int} {ok : Nat → TypeId → Prop}

theorem Ro.kept (h : Ro W b t k n g) (hk : Kn ok W W') (ho : ok b t) : Ro W' b t k n g := by
  obtain ⟨cur, hb, hs, hc⟩ := h
  exact ⟨cur, hk _ _ _ hb ho, hs, hc⟩
theorem Ro.congr (h : Ro W b t k n g) (e : ∀ i, i < k → g i = g' i) : Ro W b t k n g' := by
  obtain ⟨cur, hb, hs, hc⟩ := h
  exact ⟨cur, hb, hs, fun i hi => by rw [hc i hi, e i hi]⟩
theorem Ro.cell (h : Ro W b t k n g) {i : Nat} (hi : i < k) : W.cell? ⟨b, i, none⟩ = some (.int .i64 (g i)) := by
  obtain ⟨cur, hb, _, hc⟩ := h
  exact cell_of_blk hb (hc i hi)
theorem Ro.blk (h : Ro W b t k n g) : ∃ cur, W.heap[b]? = some (.cells cur t (0, 0)) := by
  obtain ⟨cur, hb, _⟩ := h
  exact ⟨cur, hb⟩
theorem Ro.own {B : Nat} (h : Ro W b t k n g) (hB : B ≤ b) : ∃ xs, W.ownsRow B t 1 (.slice (some ⟨b, 0, none⟩) k n) k xs ∧ xs.length = k ∧ ∀ i, i < k → xs[i]? = some (.int .i64 (g i)) := by
  obtain ⟨cur, hb, ⟨h1, h2, h3⟩, hc⟩ := h
  have hl : (cur.toList.take (k * 1)).length = k * 1 := by simp; omega
  refine ⟨cur.toList.take (k * 1), ⟨hl, .inr ⟨b, n, cur, rfl, hB, hb, h1, h2, by omega, rfl⟩⟩, by omega, fun i hi => ?_⟩
  simp only [List.getElem?_take, Array.getElem?_toList]
  rw [if_pos (by omega)]
  exact hc i hi
theorem Ro.of_own {B : Nat} {xs : List Value} {v : Int} (h : W.ownsRow B t 1 (.slice (some ⟨b, 0, none⟩) (k + 1) n) (k + 1) (xs ++ [.int .i64 v])) (hl : xs.length = k) (hx : ∀ i, i < k → xs[i]? = some (.int .i64 (g i))) : Ro W b t (k + 1) n (fun i => if i = k then v else g i) := by
  rcases h.2 with ⟨h1, _⟩ | ⟨g', cap', cur, hv, hB, hg, h1, h2, h3, ht⟩
  · simp at h1
  · simp at hv
    obtain ⟨rfl, rfl⟩ := hv
    refine ⟨cur, hg, ⟨h1, h2, by omega⟩, fun i hi => ?_⟩
    have e1 : ∀ j, j < (k + 1) * 1 → cur[j]? = (xs ++ [.int .i64 v])[j]? := by
      intro j hj
      rw [← ht, List.getElem?_take, if_pos hj, Array.getElem?_toList]
    rw [e1 _ (by omega)]
    by_cases hin : i = k
    · subst hin
      simp only [if_true]
      rw [List.getElem?_append_right (by omega), hl]
      simp
    · simp only [hin, if_false]
      rw [List.getElem?_append_left (by omega)]
      exact hx i (by omega)
end

/-! ### the state -/

structure Cs where
  n : Nat
  cb : Nat
  nb : Nat
  rb : Nat
  rr : Nat
  tb : Nat
  wb : Nat
  lb : Nat
  n0 : Nat
  n1 : Nat
  M : Nat
  B : Nat

def Cs.nds (c : Cs) (w : Nat) : Nat := if w = 0 then c.n0 else c.n1

structure Cs.ok (c : Cs) : Prop where
  n : c.n ≤ 1024
  Mrr : c.rr < c.M
  Mwb : c.wb < c.M
  Mlb : c.lb < c.M
  rw : c.rr ≠ c.wb
  rl : c.rr ≠ c.lb
  wl : c.wb ≠ c.lb
  nn : c.n0 ≠ c.n1
  Bcb : c.B ≤ c.cb
  Brr : c.B ≤ c.rr
  Btb : c.B ≤ c.tb
  Bwb : c.B ≤ c.wb
  Blb : c.B ≤ c.lb
  Bn0 : c.B ≤ c.n0
  Bn1 : c.B ≤ c.n1
  BM : c.B ≤ c.M

theorem Cs.nds_ne {c : Cs} (h : c.ok) {w w' : Nat} (hw : w < 2) (hw' : w' < 2) (hne : w ≠ w') : c.nds w ≠ c.nds w' := by
  have := h.nn
  unfold Cs.nds
  by_cases h0 : w = 0
  · have : w' ≠ 0 := by omega
    simp [h0, this]; omega
  · have : w' = 0 := by omega
    simp [h0, this]; omega

theorem Cs.nds_B {c : Cs} (h : c.ok) (w : Nat) : c.B ≤ c.nds w := by
  unfold Cs.nds
  split
  · exact h.Bn0
  · exact h.Bn1

structure Fix (c : Cs) (W : World) : Prop where
  nb : W.heap[c.nb]? = some (.cells #[.pointer (some ⟨c.n0, 0, none⟩), .pointer (some ⟨c.n1, 0, none⟩)] 45 (0, 0))
  rb : W.heap[c.rb]? = some (.cells #[.slice (some ⟨c.rr, 0, none⟩) c.n c.n] 81 (0, 0))

def Nd (c : Cs) (W : World) (life : Nat → Nat) (co : Nat → Option Addr) : Prop := ∀ w, w < 2 → ∃ N, W.heap[c.nds w]? = some (.cells N 54 (0, 0)) ∧ N[5]? = some (.int .i64 (life w)) ∧ N[6]? = some (.pointer (co w))

structure Box where
  T : Int
  lf : Nat
  wh : Nat
  bn : Nat
  bl : Nat
  br : Nat
  ib : Nat

structure Bx1 (c : Cs) (W : World) (id : Nat) (x : Box) : Prop where
  bn : W.heap[x.bn]? = some (.cells #[.pointer (some ⟨c.nds x.wh, 0, none⟩)] 44 (0, 0))
  bl : W.heap[x.bl]? = some (.cells #[.int .i64 x.lf] 3 (0, 0))
  br : W.heap[x.br]? = some (.cells #[.func (.func 5) #[] #[.pointer (some ⟨c.rb, 0, none⟩), .pointer (some ⟨x.ib, 0, none⟩)]] 1 (0, 0))
  ib : W.heap[x.ib]? = some (.cells #[.int .i64 id] 3 (0, 0))
  wh : x.wh < 2
  Ml : c.M ≤ x.bl
  Mi : c.M ≤ x.ib

def evOf (bx : Nat → Box) (id : Nat) : Ev := ((bx id).T, ((id + 1 : Nat) : Int), #[.pointer (some ⟨(bx id).bn, 0, none⟩), .pointer (some ⟨(bx id).bl, 0, none⟩), .pointer (some ⟨(bx id).br, 0, none⟩)])

structure Qu (c : Cs) (W : World) (k : Nat) (bx : Nat → Box) (so : Option Addr) (cap : Nat) (C : Array Value) : Prop where
  cb : W.heap[c.cb]? = some (.cells C 43 (0, 0))
  c1 : C[1]? = some (.slice so k cap)
  c2 : C[2]? = some (.int .u64 k)
  q : ∃ f, Perm k (evOf bx) f ∧ QRow W c.B so k cap f

section
variable {c : Cs} {W W' : World} {ok : Nat → TypeId → Prop}

theorem Fix.kept (h : Fix c W) (hk : Kn ok W W') (h1 : ok c.nb 45) (h2 : ok c.rb 81) : Fix c W' := ⟨hk _ _ _ h.nb h1, hk _ _ _ h.rb h2⟩
theorem Fix.node (h : Fix c W) {w : Nat} (hw : w < 2) : W.cell? ⟨c.nb, w, none⟩ = some (.pointer (some ⟨c.nds w, 0, none⟩)) := by
  refine cell_of_blk h.nb ?_
  unfold Cs.nds
  rcases Nat.lt_or_ge w 1 with h0 | h0
  · have : w = 0 := by omega
    subst this; rfl
  · have : w = 1 := by omega
    subst this; rfl
theorem Fix.runs (h : Fix c W) : W.cell? ⟨c.rb, 0, none⟩ = some (.slice (some ⟨c.rr, 0, none⟩) c.n c.n) := cell_of_blk h.rb rfl
theorem Nd.kept {life : Nat → Nat} {co : Nat → Option Addr} (h : Nd c W life co) (hk : Kn ok W W') (h1 : ∀ b, ok b 54) : Nd c W' life co := fun w hw => by
  obtain ⟨N, hb, h5, h6⟩ := h w hw
  exact ⟨N, hk _ _ _ hb (h1 _), h5, h6⟩
theorem Bx1.kept {id : Nat} {x : Box} (h : Bx1 c W id x) (hk : Kn ok W W') (h1 : ∀ b, ok b 44) (h2 : ∀ b, ok b 1) (h3 : ∀ b, c.M ≤ b → ok b 3) : Bx1 c W' id x :=
  ⟨hk _ _ _ h.bn (h1 _), hk _ _ _ h.bl (h3 _ h.Ml), hk _ _ _ h.br (h2 _), hk _ _ _ h.ib (h3 _ h.Mi), h.wh, h.Ml, h.Mi⟩
theorem QRow.kept {B k cap : Nat} {so : Option Addr} {f : Nat → Ev} (h : QRow W B so k cap f) (hk : Kn ok W W') (h1 : ∀ b, ok b 87) : QRow W' B so k cap f := by
  rcases h with h | ⟨g, e, hg, cur, hb, hs, hc⟩
  · exact .inl h
  · exact .inr ⟨g, e, hg, cur, hk _ _ _ hb (h1 _), hs, hc⟩
theorem Qu.kept {k : Nat} {bx : Nat → Box} {so : Option Addr} {cap : Nat} {C : Array Value} (h : Qu c W k bx so cap C) (hk : Kn ok W W') (h1 : ∀ b, ok b 87) (h2 : ok c.cb 43) : Qu c W' k bx so cap C := by
  obtain ⟨f, hp, hq⟩ := h.q
  exact ⟨hk _ _ _ h.cb h2, h.c1, h.c2, f, hp, hq.kept hk h1⟩
theorem RowI.keptN {b : Nat} {t : TypeId} {kd : IntKind} {N : Nat} {g : Nat → Int} (h : RowI W b t kd N g) (hk : Kn ok W W') (ho : ok b t) : RowI W' b t kd N g := by
  obtain ⟨cur, hb, hs, hc⟩ := h
  exact ⟨cur, hk _ _ _ hb ho, hs, hc⟩
end

/-- The whole: k events scheduled, the rows kt, kw, kl long. -/
structure Sc (c : Cs) (W : World) (i k kt kw kl : Nat) (bx : Nat → Box) (life : Nat → Nat) (co : Nat → Option Addr) (so : Option Addr) (cap : Nat) (C : Array Value) : Prop where
  fix : Fix c W
  rr : RowI W c.rr 3 .i64 c.n (fun _ => 0)
  nd : Nd c W life co
  bxs : ∀ id, id < k → Bx1 c W id (bx id)
  qu : Qu c W k bx so cap C
  ts : Ro W c.tb 2 kt c.n (fun id => (bx id).T)
  wh : Ro W c.wb 3 kw c.n (fun id => (bx id).wh)
  lf : Ro W c.lb 3 kl c.n (fun id => (bx id).lf)
  li : ∀ w, w < 2 → life w ≤ i
  M : c.M ≤ W.heap.size

section
variable {c : Cs} {W W' : World} {i k kt kw kl : Nat} {bx : Nat → Box} {life : Nat → Nat} {co : Nat → Option Addr} {so : Option Addr} {cap : Nat} {C : Array Value}

theorem Sc.kept (h : Sc c W i k kt kw kl bx life co so cap C) (hk : Kn (fun _ _ => True) W W') (hs : W.heap.size ≤ W'.heap.size) : Sc c W' i k kt kw kl bx life co so cap C :=
  ⟨h.fix.kept hk trivial trivial, h.rr.keptN hk trivial, h.nd.kept hk (fun _ => trivial), fun id hid => (h.bxs id hid).kept hk (fun _ => trivial) (fun _ => trivial) (fun _ _ => trivial), h.qu.kept hk (fun _ => trivial) trivial, h.ts.kept hk trivial, h.wh.kept hk trivial, h.lf.kept hk trivial, h.li, Nat.le_trans h.M hs⟩

theorem Sc.alloc (h : Sc c W i k kt kw kl bx life co so cap C) (o : Obj) : Sc c (W.alloc o) i k kt kw kl bx life co so cap C := h.kept (Kn.alloc W o) (by simp)

def updB (bx : Nat → Box) (k : Nat) (x : Box) : Nat → Box := fun id => if id = k then x else bx id

theorem updB_at (bx : Nat → Box) (k : Nat) (x : Box) : updB bx k x k = x := by simp [updB]
theorem updB_ne (bx : Nat → Box) {k id : Nat} (x : Box) (h : id < k) : updB bx k x id = bx id := by
  unfold updB
  rw [if_neg (by omega)]

theorem Perm.extend {k : Nat} {bx : Nat → Box} {x : Box} {f : Nat → Ev} (h : Perm k (evOf bx) f) : Perm (k + 1) (evOf (updB bx k x)) (put f k (evOf (updB bx k x) k)) := by
  obtain ⟨σ, τ, h1, h2⟩ := h
  refine ⟨fun q => if q = k then k else σ q, fun q => if q = k then k else τ q, fun q hq => ?_, fun q hq => ?_⟩
  · by_cases e : q = k
    · subst e; simp
    · have hq' : q < k := by omega
      obtain ⟨a1, a2, a3, a4⟩ := h1 q hq'
      have e1 : σ q ≠ k := by omega
      have e2 : τ q ≠ k := by omega
      simp [e, e1, e2, a3, a4]
      omega
  · unfold put
    by_cases e : q = k
    · subst e; simp
    · have hq' : q < k := by omega
      simp only [e, if_false]
      rw [h2 q hq']
      unfold evOf
      rw [updB_ne bx x (h1 q hq').1]

/-- 'on' was called. -/
theorem Sc.on (h : Sc c W i k k k k bx life co so cap C) (hc : c.ok) {f : Nat → Ev} (hp : Perm k (evOf bx) f) {w : Nat} (hw : w < 2) {T : Int} {ib : Nat} (hib : W.heap[ib]? = some (.cells #[.int .i64 k] 3 (0, 0))) (hM : c.M ≤ ib)
    (ho : OnPost c.B c.cb k (c.nds w) C f T ((k + 1 : Nat) : Int) (life w) (.func (.func 5) #[] #[.pointer (some ⟨c.rb, 0, none⟩), .pointer (some ⟨ib, 0, none⟩)]) W W') :
    ∃ x so' cap' C', x.T = T ∧ x.wh = w ∧ x.lf = life w ∧ Sc c W' i (k + 1) k k k (updB bx k x) life co so' cap' C' ∧ Kp c.B W W' := by
  obtain ⟨bn, bl, br, hbl, b1, b2, b3, f', hp', g, cap', hg, hE, hcb, hk⟩ := ho
  have kn := Kn.of_kp hk
  have c1lt : 1 < (C.setIfInBounds 2 (.int .u64 ((k + 1 : Nat) : Int))).size := by
    have := (Array.getElem?_eq_some_iff.1 h.qu.c1).1
    simpa using this
  have c2lt : 2 < C.size := (Array.getElem?_eq_some_iff.1 h.qu.c2).1
  refine ⟨⟨T, life w, w, bn, bl, br, ib⟩, some ⟨g, 0, none⟩, cap', _, rfl, rfl, rfl, ⟨h.fix.kept kn (by decide) (by decide), h.rr.keptN kn (by decide), h.nd.kept kn (fun _ => by decide), fun id hid => ?_, ⟨hcb, ?_, ?_, ?_⟩, ?_, ?_, ?_, h.li, Nat.le_trans h.M hk.below.size⟩, hk⟩
  · by_cases e : id = k
    · subst e
      rw [updB_at]
      exact ⟨b1, b2, b3, kn ib _ 3 hib (show (3 : Nat) ≠ 87 ∧ (3 : Nat) ≠ 43 by decide), hw, Nat.le_trans h.M hbl, hM⟩
    · have hid' : id < k := by omega
      rw [updB_ne _ _ hid']
      exact (h.bxs id hid').kept kn (fun _ => by decide) (fun _ => by decide) (fun _ _ => by decide)
  · have : 1 < C.size := by simpa using c1lt
    simp [this]
  · rw [Array.getElem?_setIfInBounds, if_neg (by decide)]
    simp [c2lt]
  · refine ⟨f', ?_, .inr ⟨g, rfl, hg, hE⟩⟩
    have hx := hp.extend (x := ⟨T, life w, w, bn, bl, br, ib⟩)
    have he : evOf (updB bx k ⟨T, life w, w, bn, bl, br, ib⟩) k = (T, ((k + 1 : Nat) : Int), #[.pointer (some ⟨bn, 0, none⟩), .pointer (some ⟨bl, 0, none⟩), .pointer (some ⟨br, 0, none⟩)]) := by
      unfold evOf
      rw [updB_at]
    rw [he] at hx
    exact hx.trans hp'
  · exact (h.ts.kept kn (by decide)).congr (fun j hj => by rw [updB_ne _ _ hj])
  · exact (h.wh.kept kn (by decide)).congr (fun j hj => by rw [updB_ne _ _ hj])
  · exact (h.lf.kept kn (by decide)).congr (fun j hj => by rw [updB_ne _ _ hj])

/-- The time was recorded. -/
theorem Sc.row_t (h : Sc c W i k kt kw kl bx life co so cap C) (hc : c.ok) (hg : W.grownBy W' (some c.tb)) (hr : Ro W' c.tb 2 (kt + 1) c.n (fun id => (bx id).T)) : Sc c W' i k (kt + 1) kw kl bx life co so cap C := by
  obtain ⟨cur, hb⟩ := h.ts.blk
  have kn := (Kn.grown hg).ty hb
  exact ⟨h.fix.kept kn (.inl (by decide)) (.inl (by decide)), h.rr.keptN kn (.inl (by decide)), h.nd.kept kn (fun _ => .inl (by decide)), fun id hid => (h.bxs id hid).kept kn (fun _ => .inl (by decide)) (fun _ => .inl (by decide)) (fun _ _ => .inl (by decide)), h.qu.kept kn (fun _ => .inl (by decide)) (.inl (by decide)), hr, h.wh.kept kn (.inl (by decide)), h.lf.kept kn (.inl (by decide)), h.li, Nat.le_trans h.M hg.size⟩

theorem Sc.row_w (h : Sc c W i k kt kw kl bx life co so cap C) (hc : c.ok) (hg : W.grownBy W' (some c.wb)) (hr : Ro W' c.wb 3 (kw + 1) c.n (fun id => (bx id).wh)) : Sc c W' i k kt (kw + 1) kl bx life co so cap C := by
  obtain ⟨cur, hb⟩ := h.wh.blk
  have kn := (Kn.grown hg).ty hb
  have hM := hc.Mwb
  exact ⟨h.fix.kept kn (.inl (by decide)) (.inl (by decide)), h.rr.keptN kn (.inr hc.rw), h.nd.kept kn (fun _ => .inl (by decide)), fun id hid => (h.bxs id hid).kept kn (fun _ => .inl (by decide)) (fun _ => .inl (by decide)) (fun _ _ => .inr (by omega)), h.qu.kept kn (fun _ => .inl (by decide)) (.inl (by decide)), h.ts.kept kn (.inl (by decide)), hr, h.lf.kept kn (.inr (fun e => hc.wl e.symm)), h.li, Nat.le_trans h.M hg.size⟩

theorem Sc.row_l (h : Sc c W i k kt kw kl bx life co so cap C) (hc : c.ok) (hg : W.grownBy W' (some c.lb)) (hr : Ro W' c.lb 3 (kl + 1) c.n (fun id => (bx id).lf)) : Sc c W' i k kt kw (kl + 1) bx life co so cap C := by
  obtain ⟨cur, hb⟩ := h.lf.blk
  have kn := (Kn.grown hg).ty hb
  have hM := hc.Mlb
  exact ⟨h.fix.kept kn (.inl (by decide)) (.inl (by decide)), h.rr.keptN kn (.inr hc.rl), h.nd.kept kn (fun _ => .inl (by decide)), fun id hid => (h.bxs id hid).kept kn (fun _ => .inl (by decide)) (fun _ => .inl (by decide)) (fun _ _ => .inr (by omega)), h.qu.kept kn (fun _ => .inl (by decide)) (.inl (by decide)), h.ts.kept kn (.inl (by decide)), h.wh.kept kn (.inr hc.wl), hr, h.li, Nat.le_trans h.M hg.size⟩

/-- A node's cells were changed. -/
theorem Sc.node (h : Sc c W i k kt kw kl bx life co so cap C) (hc : c.ok) {w : Nat} (hw : w < 2) {lf' : Nat} {co' : Option Addr} (hk : Kn (fun b _ => b ≠ c.nds w) W W') (hs : W.heap.size ≤ W'.heap.size) (hl : lf' ≤ i + 1)
    (hn : ∃ N, W'.heap[c.nds w]? = some (.cells N 54 (0, 0)) ∧ N[5]? = some (.int .i64 lf') ∧ N[6]? = some (.pointer co')) :
    Sc c W' (i + 1) k kt kw kl bx (fun q => if q = w then lf' else life q) (fun q => if q = w then co' else co q) so cap C := by
  obtain ⟨N0, hb, _⟩ := h.nd w hw
  have kn := hk.ty hb
  refine ⟨h.fix.kept kn (.inl (by decide)) (.inl (by decide)), h.rr.keptN kn (.inl (by decide)), fun q hq => ?_, fun id hid => (h.bxs id hid).kept kn (fun _ => .inl (by decide)) (fun _ => .inl (by decide)) (fun _ _ => .inl (by decide)), h.qu.kept kn (fun _ => .inl (by decide)) (.inl (by decide)), h.ts.kept kn (.inl (by decide)), h.wh.kept kn (.inl (by decide)), h.lf.kept kn (.inl (by decide)), fun q hq => ?_, Nat.le_trans h.M hs⟩
  · by_cases e : q = w
    · subst e
      simpa using hn
    · obtain ⟨N, h1, h2, h3⟩ := h.nd q hq
      simp only [e, if_false]
      exact ⟨N, hk _ _ _ h1 (Cs.nds_ne hc hq hw e), h2, h3⟩
  · have := h.li q hq
    by_cases e : q = w
    · simp [e, hl]
    · simp [e]; omega

theorem Sc.step (h : Sc c W i k kt kw kl bx life co so cap C) : Sc c W (i + 1) k kt kw kl bx life co so cap C :=
  ⟨h.fix, h.rr, h.nd, h.bxs, h.qu, h.ts, h.wh, h.lf, fun w hw => Nat.le_succ_of_le (h.li w hw), h.M⟩
end

end Go.Proofs.Ybulkdddk
