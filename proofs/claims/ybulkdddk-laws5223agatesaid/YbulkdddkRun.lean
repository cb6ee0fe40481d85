/-
  OWN WORK. Rows of integers; node.up; the literals of the law and of 'on'.
-/
import Derived.Test.YbulkdddkOn
namespace Go.Proofs.Ybulkdddk
open Go.RowKit
set_option linter.unusedVariables false

/-- Block b is a row of N (or more) integers of the kind k, the i-th being f i. -/
def RowI (w : World) (b : Nat) (t : TypeId) (k : IntKind) (N : Nat) (f : Nat → Int) : Prop :=
  ∃ cur : Array Value, w.heap[b]? = some (.cells cur t (0, 0)) ∧ N ≤ cur.size ∧ ∀ i, i < N → cur[i]? = some (.int k (f i))

section
variable {w w' : World} {b : Nat} {t : TypeId} {k : IntKind} {N : Nat} {f g : Nat → Int}

theorem RowI.lt (h : RowI w b t k N f) : b < w.heap.size := by
  obtain ⟨cur, hb, _⟩ := h
  exact (Array.getElem?_eq_some_iff.1 hb).1

theorem RowI.cell (h : RowI w b t k N f) {i : Nat} (hi : i < N) : w.cell? ⟨b, i, none⟩ = some (.int k (f i)) := by
  obtain ⟨cur, hb, _, hc⟩ := h
  rw [cell_of_row w b i cur t (0, 0) hb]
  exact hc i hi

theorem RowI.frozen (h : RowI w b t k N f) (i : Nat) : w.frozen? ⟨b, i, none⟩ = false := by
  obtain ⟨cur, hb, _, hc⟩ := h
  simp only [World.frozen?, hb]
  simp

theorem RowI.kept (h : RowI w b t k N f) (e : w'.heap[b]? = w.heap[b]?) : RowI w' b t k N f := by
  obtain ⟨cur, hb, hs, hc⟩ := h
  exact ⟨cur, e.trans hb, hs, hc⟩

theorem RowI.congr (h : RowI w b t k N f) (e : ∀ i, i < N → f i = g i) : RowI w b t k N g := by
  obtain ⟨cur, hb, hs, hc⟩ := h
  exact ⟨cur, hb, hs, fun i hi => by rw [hc i hi, e i hi]⟩

theorem RowI.set (h : RowI w b t k N f) (i : Nat) (v : Int) : RowI (w.setCell ⟨b, i, none⟩ (.int k v)) b t k N (fun j => if j = i then v else f j) := by
  obtain ⟨cur, hb, hs, hc⟩ := h
  refine ⟨cur.setIfInBounds i (.int k v), heap_setCell_at hb, by simpa using hs, fun j hj => ?_⟩
  by_cases e : j = i
  · subst e
    have : j < cur.size := by omega
    simp [this]
  · have e' : ¬ i = j := fun h => e h.symm
    rw [Array.getElem?_setIfInBounds]
    simp only [e', e, if_false]
    exact hc j hj

theorem RowI.keptK {B : Nat} (h : RowI w b t k N f) (hk : Kp B w w') (h1 : t ≠ 87) (h2 : t ≠ 43) : RowI w' b t k N f := by
  obtain ⟨cur, hb, hs, hc⟩ := h
  exact ⟨cur, hk.keep _ _ _ hb h1 h2, hs, hc⟩

theorem RowI.ne (h : RowI w b t k N f) {b' : Nat} {cur : Array Value} {t' : TypeId} {fz : Nat × Nat} (hb : w.heap[b']? = some (.cells cur t' fz)) (ht : t' ≠ t) : b' ≠ b := by
  rintro rfl
  obtain ⟨c2, hg, _⟩ := h
  rw [hg] at hb
  injection hb with hb
  injection hb with _ h2 _
  exact ht h2.symm
end

theorem neq48s (a : Addr) (w : World) : (binOp .neq 48 (.pointer (some a)) (.pointer none)).run Yba.prog w = .ok (.bool true) w := by kernel_rfl
theorem neq48n (w : World) : (binOp .neq 48 (.pointer none) (.pointer none)).run Yba.prog w = .ok (.bool false) w := by kernel_rfl

theorem isup_none (nd : Nat) (w : World) (hc : w.cell? ⟨nd, 6, none⟩ = some (.pointer none)) :
    Calls Yba.prog 8 #[.pointer (some ⟨nd, 0, none⟩)] w fun r w' => r = .returned (.bool false) ∧ w' = w := by
  have q := neq48n w
  go_enter Yba.func8, Yba.ntmps8
  go_wp2
  go_ret
  exact ⟨rfl, rfl⟩
theorem isup_some (nd : Nat) (a : Addr) (w : World) (hc : w.cell? ⟨nd, 6, none⟩ = some (.pointer (some a))) :
    Calls Yba.prog 8 #[.pointer (some ⟨nd, 0, none⟩)] w fun r w' => r = .returned (.bool true) ∧ w' = w := by
  have q := neq48s a w
  go_enter Yba.func8, Yba.ntmps8
  go_wp2
  go_ret
  exact ⟨rfl, rfl⟩

set_option maxHeartbeats 400000 in
theorem bump_run (rb ib rr len cap id : Nat) (g : Nat → Int) (w : World) (h1 : w.cell? ⟨rb, 0, none⟩ = some (.slice (some ⟨rr, 0, none⟩) len cap)) (h2 : w.cell? ⟨ib, 0, none⟩ = some (.int .i64 id)) (hr : RowI w rr 3 .i64 len g) (hid : id < len) (hl : len ≤ 1024) (hg : 0 ≤ g id ∧ g id ≤ 1000) :
    Calls Yba.prog 5 #[.pointer (some ⟨rb, 0, none⟩), .pointer (some ⟨ib, 0, none⟩)] w fun r w' => r = .returned (.tuple #[]) ∧ w' = w.setCell ⟨rr, id, none⟩ (.int .i64 (g id + 1)) := by
  have c := hr.cell hid
  have fz := hr.frozen id
  clear hr
  go_enter Yba.func5, Yba.ntmps5
  go_wp2
  go_end0
  exact ⟨rfl, rfl⟩

/-- The function of an event, run. -/
def RunPost (rr len id : Nat) (g : Nat → Int) (cond : Prop) [Decidable cond] (w w' : World) : Prop := RowI w' rr 3 .i64 len (fun i => if i = id ∧ cond then g i + 1 else g i) ∧ w.grownBy w' (some rr)

set_option maxRecDepth 100000 in
set_option maxHeartbeats 400000 in
theorem lit_run (bn bl br rb ib rr len cap id nd : Nat) (co : Option Addr) (life life' : Int) (g : Nat → Int) (w : World)
    (cn : w.cell? ⟨bn, 0, none⟩ = some (.pointer (some ⟨nd, 0, none⟩))) (cl : w.cell? ⟨bl, 0, none⟩ = some (.int .i64 life')) (cr : w.cell? ⟨br, 0, none⟩ = some (.func (.func 5) #[] #[.pointer (some ⟨rb, 0, none⟩), .pointer (some ⟨ib, 0, none⟩)]))
    (cL : w.cell? ⟨nd, 5, none⟩ = some (.int .i64 life)) (cC : w.cell? ⟨nd, 6, none⟩ = some (.pointer co))
    (h1 : w.cell? ⟨rb, 0, none⟩ = some (.slice (some ⟨rr, 0, none⟩) len cap)) (h2 : w.cell? ⟨ib, 0, none⟩ = some (.int .i64 id)) (hr : RowI w rr 3 .i64 len g) (hid : id < len) (hl : len ≤ 1024) (hg : 0 ≤ g id ∧ g id ≤ 1000) :
    Calls Yba.prog 7 #[.pointer (some ⟨bn, 0, none⟩), .pointer (some ⟨bl, 0, none⟩), .pointer (some ⟨br, 0, none⟩)] w fun r w' => r = .returned (.tuple #[]) ∧ RunPost rr len id g (co.isSome = true ∧ life = life') w w' := by
  have HR := hid_of hr
  clear hr
  cases co with
  | none =>
    go_enter Yba.func7, Yba.ntmps7
    go_wp2_with (go_quiet ((go_at_call 8; exact Calls.quiet_of_same (isup_none nd _ (by exact cC)))))
    go_end0
    exact ⟨rfl, HR.out.congr (fun i _ => by simp), grown_drewN (World.grownBy.refl _ _) _⟩
  | some a =>
    by_cases hll : life = life'
    · subst hll
      go_enter Yba.func7, Yba.ntmps7
      go_wp2_with (go_quiet ((go_at_call 8; exact Calls.quiet_of_same (isup_some nd a _ (by exact cC)))))
      refine (bump_run rb ib rr len cap id g _ (by exact h1) (by exact h2) (by exact HR.out) hid hl hg).mono ?_
      rintro _ w' ⟨rfl, hw'⟩
      rw [hw']
      clear hw' w'
      go_wp2_with fail
      go_end0
      refine ⟨rfl, (RowI.set (w := w) HR.out id (g id + 1)).congr (fun i _ => ?_), (grown_drewN (World.grownBy.refl _ _) _).trans (grown_setCell _ _ _ _)⟩
      by_cases hi : i = id
      · simp [hi]
      · simp [hi]
    · have hd : decide (life = life') = false := decide_eq_false hll
      go_enter Yba.func7, Yba.ntmps7
      go_wp2_with (go_quiet ((go_at_call 8; exact Calls.quiet_of_same (isup_some nd a _ (by exact cC)))))
      go_end0
      exact ⟨rfl, HR.out.congr (fun i _ => by simp [hll]), grown_drewN (World.grownBy.refl _ _) _⟩

end Go.Proofs.Ybulkdddk
