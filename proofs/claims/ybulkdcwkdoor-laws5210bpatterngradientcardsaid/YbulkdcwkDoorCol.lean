/-
  OWN WORK. Walks of package scene over words: Color.Scale, Color.Add, in, Abs, close.
-/
import Derived.Test.YbulkdcwkDoorGeom2
import Derived.Laws.BitsAllLaws
namespace Go.Proofs.YbulkdcwkDoor
open Go.RowKit
set_option linter.unusedVariables false
attribute [local go_sem] run_store_float run_equalIn_float

set_option maxRecDepth 100000 in
set_option maxHeartbeats 1000000 in
theorem cscale_run (x y z f u v t : Nat) (w : World) (h0 : D.mul x f = some u) (h1 : D.mul y f = some v) (h2 : D.mul z f = some t) :
    Calls Ybad.prog 24 #[.agg #[.float .f64 x, .float .f64 y, .float .f64 z], .float .f64 f] w fun e w' => e = .returned (.agg #[.float .f64 u, .float .f64 v, .float .f64 t]) ∧ Below w.heap.size w w' := by
  have A0 := ar (op := .mul) h0
  have A1 := ar (op := .mul) h1
  have A2 := ar (op := .mul) h2
  clear h0 h1 h2
  go_enter Ybad.func24, Ybad.ntmps24
  go_wp2_with fail
  refine bodyPost_ret (v := .agg #[.float .f64 u, .float .f64 v, .float .f64 t]) (by simp [results, Ybad.results24, go_sem]) rfl ⟨rfl, ?_⟩
  exact ((Below.refl _ _).alloc (Nat.le_refl _) _).alloc (by simp) _

set_option maxRecDepth 100000 in
set_option maxHeartbeats 1000000 in
theorem cadd_run (x y z x' y' z' u v t : Nat) (w : World) (h0 : D.add x x' = some u) (h1 : D.add y y' = some v) (h2 : D.add z z' = some t) :
    Calls Ybad.prog 25 #[.agg #[.float .f64 x, .float .f64 y, .float .f64 z], .agg #[.float .f64 x', .float .f64 y', .float .f64 z']] w fun e w' => e = .returned (.agg #[.float .f64 u, .float .f64 v, .float .f64 t]) ∧ Below w.heap.size w w' := by
  have A0 := ar (op := .add) h0
  have A1 := ar (op := .add) h1
  have A2 := ar (op := .add) h2
  clear h0 h1 h2
  go_enter Ybad.func25, Ybad.ntmps25
  go_wp2_with fail
  refine bodyPost_ret (v := .agg #[.float .f64 u, .float .f64 v, .float .f64 t]) (by simp [results, Ybad.results25, go_sem]) rfl ⟨rfl, ?_⟩
  exact ((((Below.refl _ _).alloc (Nat.le_refl _) _).alloc (by simp) _)).alloc (by simp; omega) _

set_option maxHeartbeats 400000 in
theorem in_gen (x lim nl : Nat) (w : World) (hneg : ∀ w, (Op.unary .neg (.float .f64 lim)).run Ybad.prog w = .ok (.float .f64 nl) w) : Calls Ybad.prog 9 #[.float .f64 x, .float .f64 lim] w fun e w' => e = .returned (.bool ((D.order x nl == some .gt || D.order x nl == some .eq) && (D.order x lim == some .lt || D.order x lim == some .eq))) ∧ w' = w := by
  cases hb : (D.order x nl == some .gt || D.order x nl == some .eq)
  · have hb' : (FloatKind.f64.format.order x nl == some .gt || FloatKind.f64.format.order x nl == some .eq) = false := hb
    go_enter Ybad.func9, Ybad.ntmps9
    go_wp2_with fail
    go_ret
    exact ⟨rfl, rfl⟩
  · have hb' : (FloatKind.f64.format.order x nl == some .gt || FloatKind.f64.format.order x nl == some .eq) = true := hb
    go_enter Ybad.func9, Ybad.ntmps9
    go_wp2_with fail
    go_ret
    exact ⟨rfl, rfl⟩

theorem in_run9 (x : Nat) (w : World) : Calls Ybad.prog 9 #[.float .f64 x, .float .f64 4741671816366391296] w fun e w' => e = .returned (.bool (inB x 4741671816366391296)) ∧ w' = w :=
  in_gen x 4741671816366391296 13965043853221167104 w (fun w => by kernel_rfl)
theorem in_run6 (x : Nat) (w : World) : Calls Ybad.prog 9 #[.float .f64 x, .float .f64 4696837146684686336] w fun e w' => e = .returned (.bool (inB x 4696837146684686336)) ∧ w' = w :=
  in_gen x 4696837146684686336 13920209183539462144 w (fun w => by kernel_rfl)

theorem abs_bits (x : Nat) (hx : x < 2 ^ 64) : bits .andNot .u64 (x : Int) 9223372036854775808 = ((absW x : Nat) : Int) := by
  have := u64_andNot_nat x 9223372036854775808 hx (by decide)
  rw [show ((9223372036854775808 : Nat) : Int) = 9223372036854775808 from rfl] at this
  rw [this]
  unfold absW
  rw [show 18446744073709551615 - 9223372036854775808 = 2 ^ 63 - 1 by decide, Nat.and_two_pow_sub_one_eq_mod]

theorem abs_run (x : Nat) (w : World) (hx : x < 2 ^ 64) : Calls Ybad.prog 21 #[.float .f64 x] w fun e w' => e = .returned (.float .f64 (absW x)) ∧ w' = w := by
  have h1 := call17
  have h2 := call22
  have h3 := abs_bits x hx
  go_enter Ybad.func21, Ybad.ntmps21
  go_wp2_with fail
  go_ret
  exact ⟨rfl, rfl⟩

set_option maxHeartbeats 400000 in
theorem close_run (c a b K : Nat) (w : World) (hc : Fb c K) (hK : K ≤ 1000) (ha : Fb a 20) (hb : Fb b 20) (ha64 : a < 2 ^ 64) (hb64 : b < 2 ^ 64) : Calls Ybad.prog 12 #[.float .f64 c, .float .f64 c, .float .f64 a, .float .f64 b] w fun e w' => e = .returned (.bool true) ∧ w' = w := by
  have A0 := ar (op := .sub) (diff_ok hc hK)
  obtain ⟨s, t, e1, e2, e3⟩ := close_ok ha hb
  have A1 := ar (op := .add) e1
  have A2 := ar (op := .mul) e2
  have hz : (FloatKind.f64.format.order 0 0 == some Ordering.lt) = false := by decide +kernel
  have e3' : (FloatKind.f64.format.order 0 t == some Ordering.lt || FloatKind.f64.format.order 0 t == some Ordering.eq) = true := e3
  have HX := hide ha64
  have HY := hide hb64
  clear hc ha hb e1 e2 e3 ha64 hb64
  go_enter Ybad.func12, Ybad.ntmps12
  go_wp2_with (go_at_call 21; first | (refine (abs_run a _ HX.out).mono ?_; rintro _ w' ⟨rfl, hw'⟩; rw [hw']; clear hw' w') | (refine (abs_run b _ HY.out).mono ?_; rintro _ w' ⟨rfl, hw'⟩; rw [hw']; clear hw' w'))
  go_ret
  exact ⟨rfl, rfl⟩

end Go.Proofs.YbulkdcwkDoor
