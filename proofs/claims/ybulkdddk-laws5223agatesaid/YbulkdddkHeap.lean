/-
  OWN WORK. container/heap: up, Push over the events' queue.
-/
import Derived.Test.YbulkdddkQueue
namespace Go.Proofs.Ybulkdddk
open Go.RowKit
set_option linter.unusedVariables false

theorem grown_cell {w w' : World} {g b o : Nat} {v : Value} (h : w.grownBy w' (some g)) (c : w.cell? ⟨b, o, none⟩ = some v) (hne : b ≠ g) : w'.cell? ⟨b, o, none⟩ = some v := h.cell c (by simpa using hne)

/-- What 'up' leaves. -/
def UpPost (g n cap : Nat) (f : Nat → Ev) (w w' : World) : Prop := ∃ f', Perm n f f' ∧ EvRow w' g n cap f' ∧ w.grownBy w' (some g)

set_option maxRecDepth 100000 in
set_option maxHeartbeats 1000000 in
theorem up_run (cb g n cap j : Nat) (f : Nat → Ev) (w : World) (h : EvRow w g n cap f) (hc : w.cell? ⟨cb, 1, none⟩ = some (.slice (some ⟨g, 0, none⟩) n cap)) (hne : cb ≠ g) (hj : j < n) (hn : n ≤ 1024) :
    Calls Yba.prog 10 #[.iface 92 (.pointer (some ⟨cb, 1, none⟩)), .int .i64 j] w fun r w' => r = .returned (.tuple #[]) ∧ UpPost g n cap f w w' := by
  have HE := hid_of h
  have HC := hid_of hc
  clear h hc
  go_enter Yba.func10, Yba.ntmps10
  go_wp2_with fail
  go_loopg [1] j (fun gk jv W => ∃ (q : Nat) (f' : Nat → Ev), q < n ∧ gk = q ∧ jv = .int .i64 q ∧ Hid (Perm n f f') ∧ Hid (EvRow W g n cap f') ∧ Hid (w.grownBy W (some g)))
  case atStart => exact ⟨j, f, hj, rfl, rfl, Perm.refl _ _, HE, World.grownBy.refl _ _⟩
  case round =>
    obtain ⟨q, f', hq, hgk, rfl, HP, HR, HG⟩ := hrel
    have cc := grown_cell HG.out HC.out hne
    have ml := meth_less cb 1 _ wr cc
    rcases Nat.eq_zero_or_pos q with h0 | hpos
    · subst h0
      go_wp2_with fail
      go_end0
      exact ⟨rfl, f', HP.out, HR.out, HG.out⟩
    · obtain ⟨i, hi⟩ : ∃ i, i = (q - 1) / 2 := ⟨_, rfl⟩
      have hd : ((q : Int) - 1).tdiv 2 = (i : Int) := by
        rw [Int.tdiv_eq_ediv_of_nonneg (by omega)]
        omega
      have hiq : i < q := by omega
      have hne2 : (i : Int) ≠ (q : Int) := by omega
      clear hi
      go_wp2_with fail
      refine (less_run g n cap q i f' wr HR.out hq (by omega) hn).mono ?_
      rintro _ w' ⟨bl, rfl, d, hw'⟩
      have HRd : Hid (EvRow w' g n cap f') := by rw [hw']; exact HR.out.kept rfl
      have HGd : Hid (w.grownBy w' (some g)) := by rw [hw']; exact grown_drewN HG.out d
      clear hw' ml cc
      have cc := grown_cell HGd.out HC.out hne
      have ms := meth_swap cb 1 _ w' cc
      cases bl
      · go_wp2_with fail
        go_end0
        exact ⟨rfl, f', HP.out, HRd.out, HGd.out⟩
      · go_wp2_with fail
        refine (swap_run g n cap i q f' w' HRd.out (by omega) hq (by omega) hn).mono ?_
        rintro _ w2 ⟨rfl, hr2, hg2⟩
        have HR2 := hid_of hr2
        have HG2 := hid_of hg2
        clear hr2 hg2 ms cc
        go_wp2_with fail
        go_roundg i
        · exact ⟨i, _, by omega, rfl, rfl, HP.out.trans (Perm.swap (by omega) hq (by omega)), HR2, HGd.out.trans HG2.out⟩
        · omega

end Go.Proofs.Ybulkdddk
