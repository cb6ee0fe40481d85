/-
  OWN WORK. The events' row; Less, Swap of the queue.
-/
import Derived.Test.YbulkdddkBase
namespace Go.Proofs.Ybulkdddk
open Go.RowKit
set_option linter.unusedVariables false

/-- An event: at, seq, and what its function (on's literal) holds. -/
abbrev Ev := Int × Int × Array Value

/-- Block g is a row of n events in a capacity of cap, the i-th being f i: (at, seq, run). -/
def EvRow (w : World) (g n cap : Nat) (f : Nat → Ev) : Prop :=
  ∃ cur : Array Value, w.heap[g]? = some (.cells cur 87 (0, 0)) ∧ (n ≤ cap ∧ cap ≤ maxLen ∧ cur.size = cap * 3) ∧ ∀ i, i < n → cur[i * 3]? = some (.int .i64 (f i).1) ∧ cur[i * 3 + 1]? = some (.int .u64 (f i).2.1) ∧ cur[i * 3 + 2]? = some (.func (.func 7) #[] (f i).2.2)

section
variable {w w' : World} {g n cap : Nat} {f f' : Nat → Ev}

theorem EvRow.lt (h : EvRow w g n cap f) : g < w.heap.size := by
  obtain ⟨cur, hb, _⟩ := h
  exact (Array.getElem?_eq_some_iff.1 hb).1

theorem EvRow.cells (h : EvRow w g n cap f) {i : Nat} (hi : i < n) : w.cell? ⟨g, i * 3, none⟩ = some (.int .i64 (f i).1) ∧ w.cell? ⟨g, i * 3 + 1, none⟩ = some (.int .u64 (f i).2.1) ∧ w.cell? ⟨g, i * 3 + 2, none⟩ = some (.func (.func 7) #[] (f i).2.2) := by
  obtain ⟨cur, hb, _, hc⟩ := h
  rw [cell_of_row w g _ cur 87 (0, 0) hb, cell_of_row w g _ cur 87 (0, 0) hb, cell_of_row w g _ cur 87 (0, 0) hb]
  exact hc i hi

theorem EvRow.frozen (h : EvRow w g n cap f) (o : Nat) : w.frozen? ⟨g, o, none⟩ = false := by
  obtain ⟨cur, hb, _, hc⟩ := h
  simp only [World.frozen?, hb]
  simp

theorem EvRow.kept (h : EvRow w g n cap f) (e : w'.heap[g]? = w.heap[g]?) : EvRow w' g n cap f := by
  obtain ⟨cur, hb, hs, hc⟩ := h
  exact ⟨cur, e.trans hb, hs, hc⟩

theorem EvRow.drew (h : EvRow w g n cap f) : EvRow w.drew g n cap f := h

theorem EvRow.congr (h : EvRow w g n cap f) (e : ∀ i, i < n → f i = f' i) : EvRow w g n cap f' := by
  obtain ⟨cur, hb, hs, hc⟩ := h
  exact ⟨cur, hb, hs, fun i hi => by rw [← e i hi]; exact hc i hi⟩

/-- A block of another type is another block. -/
theorem EvRow.ne (h : EvRow w g n cap f) {b : Nat} {cur : Array Value} {t : TypeId} {fz : Nat × Nat} (hb : w.heap[b]? = some (.cells cur t fz)) (ht : t ≠ 87) : b ≠ g := by
  rintro rfl
  obtain ⟨c2, hg, _⟩ := h
  rw [hg] at hb
  injection hb with hb
  injection hb with _ h2 _
  exact ht h2.symm
end

/-- Some bool; at most draws. -/
def AnyBool (r : Ending) (w w' : World) : Prop := ∃ bl, r = .returned (.bool bl) ∧ ∃ d, w' = w.drewN d

set_option maxRecDepth 100000 in
set_option maxHeartbeats 1000000 in
theorem less_run (g n cap i j : Nat) (f : Nat → Ev) (w : World) (h : EvRow w g n cap f) (hi : i < n) (hj : j < n) (hn : n ≤ 1024) :
    Calls Yba.prog 29 #[.slice (some ⟨g, 0, none⟩) n cap, .int .i64 i, .int .i64 j] w fun r w' => AnyBool r w w' := by
  obtain ⟨a0, a1, _⟩ := h.cells hi
  obtain ⟨b0, b1, _⟩ := h.cells hj
  generalize (f i).1 = x0 at *
  generalize (f i).2.1 = x1 at *
  generalize (f j).1 = y0 at *
  generalize (f j).2.1 = y1 at *
  clear h
  go_enter Yba.func29, Yba.ntmps29
  by_cases h1 : x0 < y0
  · go_wp2_with (go_quiet (fail))
    go_ret
    exact ⟨_, rfl, _, rfl⟩
  · by_cases h2 : x0 = y0
    · subst h2
      go_wp2_with (go_quiet (fail))
      go_ret
      exact ⟨_, rfl, _, rfl⟩
    · go_wp2_with (go_quiet (fail))
      go_ret
      exact ⟨_, rfl, _, rfl⟩

/-- A cell of a block, set. -/
theorem heap_setCell_at {w : World} {b o : Nat} {cur : Array Value} {t : TypeId} {v : Value} (hb : w.heap[b]? = some (.cells cur t (0, 0))) : (w.setCell ⟨b, o, none⟩ v).heap[b]? = some (.cells (cur.setIfInBounds o v) t (0, 0)) := by
  have hlt := (Array.getElem?_eq_some_iff.1 hb).1
  have hv := (Array.getElem?_eq_some_iff.1 hb).2
  simp only [World.setCell]
  rw [Array.getElem?_eq_getElem (by simpa using hlt), Array.getElem_modify]
  simp [hv]

theorem grown_drew {w w' : World} {r : Option Nat} (h : w.grownBy w' r) : w.grownBy w'.drew r := ⟨h.os, h.tape, h.output, h.size, h.block⟩
theorem grown_drewN {w w' : World} {r : Option Nat} (h : w.grownBy w' r) : ∀ d, w.grownBy (w'.drewN d) r := fun d => ⟨h.os, h.tape, h.output, h.size, h.block⟩

theorem grown_setCell (W : World) (b o : Nat) (v : Value) : W.grownBy (W.setCell ⟨b, o, none⟩ v) (some b) :=
  ⟨rfl, rfl, rfl, by simp [World.setCell], fun k _ hk => Below.heap_setCell _ _ _ k (fun e => hk (by rw [e]))⟩

/-- An event, set. -/
def put (f : Nat → Ev) (i : Nat) (e : Ev) : Nat → Ev := fun q => if q = i then e else f q

theorem EvRow.put {w : World} {g n cap : Nat} {f : Nat → Ev} (h : EvRow w g n cap f) {i : Nat} (hi : i < n) (e : Ev) :
    EvRow (((w.setCell ⟨g, i * 3, none⟩ (.int .i64 e.1)).setCell ⟨g, i * 3 + 1, none⟩ (.int .u64 e.2.1)).setCell ⟨g, i * 3 + 2, none⟩ (.func (.func 7) #[] e.2.2)) g n cap (put f i e) := by
  obtain ⟨cur, hb, hs, hc⟩ := h
  refine ⟨_, heap_setCell_at (heap_setCell_at (heap_setCell_at hb)), by simpa using hs, fun q hq => ?_⟩
  unfold Ybulkdddk.put
  by_cases hqi : q = i
  · subst hqi
    have h0 : q * 3 < cur.size := by omega
    have h1 : q * 3 + 1 < cur.size := by omega
    have h2 : q * 3 + 2 < cur.size := by omega
    simp [h0, h1, h2]
  · simp only [hqi, if_false]
    have := hc q hq
    rw [Array.getElem?_setIfInBounds, Array.getElem?_setIfInBounds, Array.getElem?_setIfInBounds, Array.getElem?_setIfInBounds, Array.getElem?_setIfInBounds, Array.getElem?_setIfInBounds, Array.getElem?_setIfInBounds, Array.getElem?_setIfInBounds, Array.getElem?_setIfInBounds]
    rw [if_neg (by omega), if_neg (by omega), if_neg (by omega), if_neg (by omega), if_neg (by omega), if_neg (by omega), if_neg (by omega), if_neg (by omega), if_neg (by omega)]
    exact this

set_option maxRecDepth 100000 in
set_option maxHeartbeats 1000000 in
theorem swap_run (g n cap i j : Nat) (f : Nat → Ev) (w : World) (h : EvRow w g n cap f) (hi : i < n) (hj : j < n) (hij : i ≠ j) (hn : n ≤ 1024) :
    Calls Yba.prog 30 #[.slice (some ⟨g, 0, none⟩) n cap, .int .i64 i, .int .i64 j] w fun r w' => r = .returned (.tuple #[]) ∧ EvRow w' g n cap (put (put f i (f j)) j (f i)) ∧ w.grownBy w' (some g) := by
  obtain ⟨a0, a1, a2⟩ := h.cells hi
  obtain ⟨b0, b1, b2⟩ := h.cells hj
  have fa0 := h.frozen (i * 3)
  have fa1 := h.frozen (i * 3 + 1)
  have fa2 := h.frozen (i * 3 + 2)
  have fb0 := h.frozen (j * 3)
  have fb1 := h.frozen (j * 3 + 1)
  have fb2 := h.frozen (j * 3 + 2)
  have HE := hid_of h
  clear h
  go_enter Yba.func30, Yba.ntmps30
  go_wp2_with fail
  go_region
  go_end0
  refine ⟨rfl, ?_, ?_⟩
  · exact ((HE.out.put hi (f j)).put hj (f i)).drew
  · refine grown_drew ?_
    exact (((((grown_setCell _ _ _ _).trans (grown_setCell _ _ _ _)).trans (grown_setCell _ _ _ _)).trans (grown_setCell _ _ _ _)).trans (grown_setCell _ _ _ _)).trans (grown_setCell _ _ _ _)

/-! ### permutations of the first n places -/

/-- f' is f, permuted on the first n places. -/
def Perm (n : Nat) (f f' : Nat → Ev) : Prop := ∃ σ τ : Nat → Nat, (∀ i, i < n → σ i < n ∧ τ i < n ∧ σ (τ i) = i ∧ τ (σ i) = i) ∧ ∀ i, i < n → f' i = f (σ i)

theorem Perm.refl (n : Nat) (f : Nat → Ev) : Perm n f f := ⟨id, id, fun i hi => ⟨hi, hi, rfl, rfl⟩, fun _ _ => rfl⟩

theorem Perm.trans {n : Nat} {f f' f'' : Nat → Ev} (h : Perm n f f') (k : Perm n f' f'') : Perm n f f'' := by
  obtain ⟨σ, τ, h1, h2⟩ := h
  obtain ⟨σ', τ', k1, k2⟩ := k
  refine ⟨fun i => σ (σ' i), fun i => τ' (τ i), fun i hi => ?_, fun i hi => ?_⟩
  · have a := k1 i hi
    have b := h1 i hi
    have c := h1 (σ' i) a.1
    have d := k1 (τ i) b.2.1
    refine ⟨c.1, d.2.1, ?_, ?_⟩
    · show σ (σ' (τ' (τ i))) = i
      rw [d.2.2.1, b.2.2.1]
    · show τ' (τ (σ (σ' i))) = i
      rw [c.2.2.2, a.2.2.2]
  · rw [k2 i hi, h2 _ (k1 i hi).1]

theorem Perm.swap {n : Nat} {f : Nat → Ev} {i j : Nat} (hi : i < n) (hj : j < n) (hij : i ≠ j) : Perm n f (put (put f i (f j)) j (f i)) := by
  have hs : ∀ q, q < n → (if q = j then i else if q = i then j else q) < n := by
    intro q hq
    split
    · exact hi
    · split
      · exact hj
      · exact hq
  have hss : ∀ q, (if (if q = j then i else if q = i then j else q) = j then i else if (if q = j then i else if q = i then j else q) = i then j else (if q = j then i else if q = i then j else q)) = q := by
    intro q
    by_cases h1 : q = j
    · subst h1; simp [hij]
    · by_cases h2 : q = i
      · subst h2; simp [h1]
      · simp [h1, h2]
  refine ⟨fun q => if q = j then i else if q = i then j else q, fun q => if q = j then i else if q = i then j else q, fun q hq => ⟨hs q hq, hs q hq, hss q, hss q⟩, fun q hq => ?_⟩
  unfold put
  by_cases h1 : q = j
  · simp [h1]
  · by_cases h2 : q = i
    · subst h2; simp [h1]
    · simp [h1, h2]

end Go.Proofs.Ybulkdddk
