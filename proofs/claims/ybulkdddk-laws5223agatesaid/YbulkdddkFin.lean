/-
  OWN WORK. The copy of the events; the state while they run.
-/
import Derived.Test.YbulkdddkStart
namespace Go.Proofs.Ybulkdddk
open Go.RowKit
set_option linter.unusedVariables false

/-- 'copy' over elements of several cells, the destination a row that is known whole. -/
theorem run_copy_wide {P : Program} (w : World) (dT sT ty elem : TypeId) (g o dLen dCap : Nat) (a : Addr) (sLen sCap sz : Nat) (cur : Array Value) (t : TypeId) (cs : List Value)
    (hu : P.underlying dT = some (.slice elem)) (hs : (P.info? elem).map (·.size) = some sz)
    (hg : w.heap[g]? = some (.cells cur t (0, 0))) (hn : cs.length = Nat.min sLen dLen * sz)
    (hsrc : ∀ j v, cs[j]? = some v → w.cell? (a.add j) = some v) (hfit : o + cs.length ≤ cur.size) (h1 : ∀ v ∈ cs, v.oneCell' = true) :
    (Builtin.copy_ #[dT, sT] ty #[.slice (some ⟨g, o, none⟩) dLen dCap, .slice (some a) sLen sCap]).run P w =
      .ok (goInt (Nat.min sLen dLen)) (w.setRow g (cur.toList.take o ++ cs ++ cur.toList.drop (o + cs.length)).toArray) := by
  have hl := run_loadCells_list (P := P) w a cs hsrc
  have hst := run_storeCells_at P g o t cs 0 cur w hg (by simpa using hfit) h1
  cases hq : P.info? elem with
  | none => simp [hq] at hs
  | some i =>
    have hi : i.size = sz := by simpa [hq] using hs
    rw [hn] at hl
    simp [Builtin.copy_, run_underlying hu, Builtin.lenOf, Builtin.firstCells, sizeOf, typeInfo, hq, hi, hl, hst]

theorem run_copy_zero {P : Program} (w : World) (dT sT ty elem : TypeId) (d a : Option Addr) (dLen dCap sLen sCap sz : Nat) (hu : P.underlying dT = some (.slice elem)) (hs : (P.info? elem).map (·.size) = some sz) (hn : Nat.min sLen dLen = 0) :
    (Builtin.copy_ #[dT, sT] ty #[.slice d dLen dCap, .slice a sLen sCap]).run P w = .ok (goInt 0) w := by
  cases hq : P.info? elem with
  | none => simp [hq] at hs
  | some i =>
    have hl : ∀ (x : Addr), (loadCells x 0).run P w = .ok #[] w := fun x => by simpa using run_loadCells_list (P := P) w x [] (by simp)
    cases d <;> cases a <;> simp [Builtin.copy_, run_underlying hu, Builtin.lenOf, Builtin.firstCells, sizeOf, typeInfo, hq, hn, storeCells, hl]

theorem grown_setRow (w : World) (g : Nat) (cs : Array Value) : w.grownBy (w.setRow g cs) (some g) :=
  ⟨rfl, rfl, rfl, by simp [World.setRow], fun k _ hk => setRow_other w g k cs (fun e => hk (by rw [e]))⟩

/-- A row of k elements of the event's type, whatever they are. -/
def Slots (w : World) (ge k : Nat) : Prop := ∃ cur, w.heap[ge]? = some (.cells cur 87 (0, 0)) ∧ cur.size = k * 3

theorem wpList_copy_ev {w : World} {ops : Array Oper} {rest : List Oper} {o : Oper} {a : Act} {Q : Exit → Act → World → Prop} (hgd : o.guard = none) (d s : Operand)
    (ho : o.op = .call { callee := .builtin .copy, args := #[d, s], argTypes := #[24, 25] }) (ge k cap B : Nat) (so : Option Addr) (f : Nat → Ev)
    (hd : a.eval d = .slice (some ⟨ge, 0, none⟩) k k) (hs : a.eval s = .slice so k cap) (hq : QRow w B so k cap f) (hge : Slots w ge k) (hml : k ≤ maxLen)
    (h : ∀ w', EvRow w' ge k k f → w.grownBy w' (some ge) → wpList Yba.prog ops Q rest (a.put o.dst (.int .i64 k)) w') : wpList Yba.prog ops Q (o :: rest) a w := by
  obtain ⟨cur, hg, hsz⟩ := hge
  have hsize : (Yba.prog.info? 87).map (·.size) = some 3 := by kernel_rfl
  rcases Nat.eq_zero_or_pos k with h0 | hpos
  · subst h0
    refine wpList_plain hgd fun K hK => ?_
    have hrun := run_copy_zero (P := Yba.prog) w 24 25 o.type 87 (some ⟨ge, 0, none⟩) so 0 0 0 cap 3 Yba.underlying24 hsize rfl
    unfold Oper.wp
    simp [execOp, ho, resolve, invoke, builtin, hd, hs, hrun, Result.andThen]
    exact hK _ _ (h w ⟨cur, hg, ⟨Nat.le_refl _, hml, by omega⟩, fun i hi => absurd hi (Nat.not_lt_zero _)⟩ (World.grownBy.refl _ _))
  · rcases hq with ⟨_, hk0, _⟩ | ⟨g, rfl, hB, src, hsb, ⟨s1, s2, s3⟩, hc⟩
    · omega
    · have hl : (src.toList.take (k * 3)).length = k * 3 := by simp; omega
      have hat : ∀ j v, (src.toList.take (k * 3))[j]? = some v → j < k * 3 ∧ src[j]? = some v := by
        intro j v hv
        have hj : j < k * 3 := by
          have := (List.getElem?_eq_some_iff.1 hv).1
          omega
        rw [List.getElem?_take, if_pos hj, Array.getElem?_toList] at hv
        exact ⟨hj, hv⟩
      refine wpList_plain hgd fun K hK => ?_
      have hrun := run_copy_wide (P := Yba.prog) w 24 25 o.type 87 ge 0 k k ⟨g, 0, none⟩ k cap 3 cur 87 (src.toList.take (k * 3)) Yba.underlying24 hsize hg (by rw [hl]; simp) (fun j v hv => by
        rw [show Addr.add ⟨g, 0, none⟩ j = ⟨g, j, none⟩ by simp [Addr.add]; intro e; exact e.symm]
        exact cell_of_blk hsb (hat j v hv).2) (by omega) (fun v hv => by
        obtain ⟨j, hj⟩ := List.getElem?_of_mem hv
        obtain ⟨hjk, hjv⟩ := hat j v hj
        obtain ⟨a0, a1, a2⟩ := hc (j / 3) (by omega)
        have h3 : j % 3 = 0 ∨ j % 3 = 1 ∨ j % 3 = 2 := by omega
        rcases h3 with e | e | e
        · have e0 : j / 3 * 3 = j := by omega
          rw [e0] at a0
          have a3 := Option.some.inj (hjv.symm.trans a0)
          rw [a3]
          rfl
        · have e0 : j / 3 * 3 + 1 = j := by omega
          rw [e0] at a1
          have a3 := Option.some.inj (hjv.symm.trans a1)
          rw [a3]
          rfl
        · have e0 : j / 3 * 3 + 2 = j := by omega
          rw [e0] at a2
          have a3 := Option.some.inj (hjv.symm.trans a2)
          rw [a3]
          rfl)
      have hall : (cur.toList.take 0 ++ src.toList.take (k * 3) ++ cur.toList.drop (0 + (src.toList.take (k * 3)).length)).toArray = (src.toList.take (k * 3)).toArray := by
        rw [hl, List.drop_eq_nil_of_le (by simp; omega)]
        simp
      rw [hall, show Nat.min k k = k by simp] at hrun
      unfold Oper.wp
      simp only [execOp, ho, resolve, invoke, builtin, Sem.run_bind, Sem.run_pure, Result.andThen_ok, List.map_toArray, List.map_cons, List.map_nil, hd, hs, hrun]
      refine hK _ _ (h _ ⟨_, setRow_heap w ge _ _ 87 _ hg, ⟨Nat.le_refl _, hml, by simpa using hl⟩, fun i hi => ?_⟩ (grown_setRow _ _ _))
      obtain ⟨a0, a1, a2⟩ := hc i hi
      rw [List.getElem?_toArray, List.getElem?_toArray, List.getElem?_toArray, List.getElem?_take, List.getElem?_take, List.getElem?_take, if_pos (by omega), if_pos (by omega), if_pos (by omega), Array.getElem?_toList, Array.getElem?_toList, Array.getElem?_toList]
      exact ⟨a0, a1, a2⟩

/-! ### while the events run -/

structure S3 (c : Cs) (W : World) (k ge : Nat) (f : Nat → Ev) (bx : Nat → Box) (life : Nat → Nat) (co : Nat → Option Addr) : Prop where
  fix : Fix c W
  nd : Nd c W life co
  bxs : ∀ id, id < k → Bx1 c W id (bx id)
  ts : Ro W c.tb 2 k c.n (fun id => (bx id).T)
  wh : Ro W c.wb 3 k c.n (fun id => (bx id).wh)
  lf : Ro W c.lb 3 k c.n (fun id => (bx id).lf)
  ev : EvRow W ge k k f
  M : c.M ≤ W.heap.size

section
variable {c : Cs} {W W' : World} {k ge : Nat} {f : Nat → Ev} {bx : Nat → Box} {life : Nat → Nat} {co : Nat → Option Addr}

theorem EvRow.keptN {g n cap : Nat} {ok : Nat → TypeId → Prop} (h : EvRow W g n cap f) (hk : Kn ok W W') (ho : ok g 87) : EvRow W' g n cap f := by
  obtain ⟨cur, hb, hs, hc⟩ := h
  exact ⟨cur, hk _ _ _ hb ho, hs, hc⟩

theorem S3.alloc (h : S3 c W k ge f bx life co) (o : Obj) : S3 c (W.alloc o) k ge f bx life co :=
  have hk := Kn.alloc W o
  ⟨h.fix.kept hk trivial trivial, h.nd.kept hk (fun _ => trivial), fun id hid => (h.bxs id hid).kept hk (fun _ => trivial) (fun _ => trivial) (fun _ _ => trivial), h.ts.kept hk trivial, h.wh.kept hk trivial, h.lf.kept hk trivial, h.ev.keptN hk trivial, by simp; have := h.M; omega⟩

theorem S3.runs (h : S3 c W k ge f bx life co) (hc : c.ok) {N : Nat} {g : Nat → Int} (hr : RowI W c.rr 3 .i64 N g) (hg : W.grownBy W' (some c.rr)) : S3 c W' k ge f bx life co := by
  obtain ⟨cur, hb, _⟩ := hr
  have kn := (Kn.grown hg).ty hb
  have hM := hc.Mrr
  exact ⟨h.fix.kept kn (.inl (by decide)) (.inl (by decide)), h.nd.kept kn (fun _ => .inl (by decide)), fun id hid => (h.bxs id hid).kept kn (fun _ => .inl (by decide)) (fun _ => .inl (by decide)) (fun _ _ => .inr (by omega)), h.ts.kept kn (.inl (by decide)), h.wh.kept kn (.inr (fun e => hc.rw e.symm)), h.lf.kept kn (.inr (fun e => hc.rl e.symm)), h.ev.keptN kn (.inl (by decide)), Nat.le_trans h.M hg.size⟩

/-- The script is over, the events are copied. -/
theorem Sc.over {i : Nat} {so : Option Addr} {cap : Nat} {C : Array Value} (h : Sc c W i k k k k bx life co so cap C) (hk : Kn (fun b t => t ≠ 87) W W') (hs : W.heap.size ≤ W'.heap.size) (he : EvRow W' ge k k f) : S3 c W' k ge f bx life co ∧ RowI W' c.rr 3 .i64 c.n (fun _ => 0) :=
  ⟨⟨h.fix.kept hk (by decide) (by decide), h.nd.kept hk (fun _ => by decide), fun id hid => (h.bxs id hid).kept hk (fun _ => by decide) (fun _ => by decide) (fun _ _ => by decide), h.ts.kept hk (by decide), h.wh.kept hk (by decide), h.lf.kept hk (by decide), he, Nat.le_trans h.M hs⟩, h.rr.keptN hk (by decide)⟩
end

/-- The event id runs. -/
def Cond (bx : Nat → Box) (life : Nat → Nat) (co : Nat → Option Addr) (id : Nat) : Prop := (co (bx id).wh).isSome = true ∧ (life (bx id).wh : Int) = ((bx id).lf : Int)

instance (bx : Nat → Box) (life : Nat → Nat) (co : Nat → Option Addr) (id : Nat) : Decidable (Cond bx life co id) := by unfold Cond; exact inferInstance

/-- The runs counted when the first p events of the queue have been run; τ id is the place of event id. -/
def cnt (k : Nat) (τ : Nat → Nat) (bx : Nat → Box) (life : Nat → Nat) (co : Nat → Option Addr) (p id : Nat) : Int := if (id < k ∧ τ id < p) ∧ Cond bx life co id then 1 else 0

theorem cnt_zero {k : Nat} {τ : Nat → Nat} {bx : Nat → Box} {life : Nat → Nat} {co : Nat → Option Addr} (id : Nat) : cnt k τ bx life co 0 id = 0 := by simp [cnt]

theorem cnt_range {k : Nat} {τ : Nat → Nat} {bx : Nat → Box} {life : Nat → Nat} {co : Nat → Option Addr} (p id : Nat) : 0 ≤ cnt k τ bx life co p id ∧ cnt k τ bx life co p id ≤ 1000 := by
  unfold cnt
  split <;> omega

theorem cnt_step {k : Nat} {σ τ : Nat → Nat} {bx : Nat → Box} {life : Nat → Nat} {co : Nat → Option Addr} (h : ∀ i, i < k → σ i < k ∧ τ i < k ∧ σ (τ i) = i ∧ τ (σ i) = i) {p : Nat} (hp : p < k) (id : Nat) :
    (if id = σ p ∧ Cond bx life co (σ p) then cnt k τ bx life co p id + 1 else cnt k τ bx life co p id) = cnt k τ bx life co (p + 1) id := by
  obtain ⟨a1, a2, a3, a4⟩ := h p hp
  by_cases e : id = σ p
  · subst e
    by_cases hc : Cond bx life co (σ p)
    · simp [cnt, hc, a1, a4]
    · simp [cnt, hc]
  · simp only [e, false_and, if_false]
    unfold cnt
    by_cases hid : id < k
    · have : τ id ≠ p := fun e' => e (by rw [← e']; exact ((h id hid).2.2.1).symm)
      have h2 : (τ id < p + 1) = (τ id < p) := propext ⟨fun _ => by omega, fun _ => by omega⟩
      simp only [h2]
    · simp [hid]

theorem cnt_end {k : Nat} {σ τ : Nat → Nat} {bx : Nat → Box} {life : Nat → Nat} {co : Nat → Option Addr} (h : ∀ i, i < k → σ i < k ∧ τ i < k ∧ σ (τ i) = i ∧ τ (σ i) = i) {id : Nat} (hid : id < k) : cnt k τ bx life co k id = if Cond bx life co id then 1 else 0 := by
  have := (h id hid).2.1
  simp [cnt, hid, this]

end Go.Proofs.Ybulkdddk
