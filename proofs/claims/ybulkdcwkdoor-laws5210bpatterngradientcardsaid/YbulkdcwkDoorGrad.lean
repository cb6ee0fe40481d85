/-
  OWN WORK. The walk of 'LawS5210BPatternGradient'.
-/
import Derived.Test.YbulkdcwkDoorCol
import Derived.Deep.CutRange
import Derived.Deep.CutBlock
namespace Go.Proofs.YbulkdcwkDoor
open Go.RowKit
set_option linter.unusedVariables false
attribute [local go_sem] run_store_float run_equalIn_float

theorem in9c (x : Nat) (b : Bool) (w : World) (h : inB x 4741671816366391296 = b) : Calls Ybad.prog 9 #[.float .f64 x, .float .f64 4741671816366391296] w fun e w' => e = .returned (.bool b) ∧ w' = w := by
  subst h; exact in_run9 x w
theorem in6c (x : Nat) (b : Bool) (w : World) (h : inB x 4696837146684686336 = b) : Calls Ybad.prog 9 #[.float .f64 x, .float .f64 4696837146684686336] w fun e w' => e = .returned (.bool b) ∧ w' = w := by
  subst h; exact in_run6 x w

set_option maxRecDepth 100000 in
set_option maxHeartbeats 1000000 in
theorem grad_out1 (a0 a1 : Int) (px py pz r g b r' g' b' : Nat) (w : World) (h : inB px 4741671816366391296 = false) :
    Calls Ybad.prog 4 #[.int .u8 a0, .int .u8 a1, .float .f64 px, .float .f64 py, .float .f64 pz, .float .f64 r, .float .f64 g, .float .f64 b, .float .f64 r', .float .f64 g', .float .f64 b'] w fun e w' => e = .returned (.bool true) ∧ Below w.heap.size w w' := by
  have H := hide h
  go_enter Ybad.func4, Ybad.ntmps4
  go_wp2_with (go_at_call_of 9 px; refine (in9c px false _ H.out).mono ?_; rintro _ w' ⟨rfl, hw'⟩; rw [hw']; clear hw' w')
  go_ret
  exact ⟨rfl, Below.refl _ _⟩

set_option maxRecDepth 100000 in
set_option maxHeartbeats 1000000 in
theorem grad_out2 (a0 a1 : Int) (px py pz r g b r' g' b' : Nat) (w : World) (h0 : inB px 4741671816366391296 = true) (h1 : inB py 4741671816366391296 = false) :
    Calls Ybad.prog 4 #[.int .u8 a0, .int .u8 a1, .float .f64 px, .float .f64 py, .float .f64 pz, .float .f64 r, .float .f64 g, .float .f64 b, .float .f64 r', .float .f64 g', .float .f64 b'] w fun e w' => e = .returned (.bool true) ∧ Below w.heap.size w w' := by
  have H0 := hide h0
  have H1 := hide h1
  clear h0 h1
  go_enter Ybad.func4, Ybad.ntmps4
  go_wp2_with (first
    | (go_at_call_of 9 px; refine (in9c px true _ H0.out).mono ?_; rintro _ w' ⟨rfl, hw'⟩; rw [hw']; clear hw' w')
    | (go_at_call_of 9 py; refine (in9c py false _ H1.out).mono ?_; rintro _ w' ⟨rfl, hw'⟩; rw [hw']; clear hw' w'))
  go_ret
  exact ⟨rfl, Below.refl _ _⟩

set_option maxRecDepth 100000 in
set_option maxHeartbeats 1000000 in
theorem grad_out3 (a0 a1 : Int) (px py pz r g b r' g' b' : Nat) (w : World) (h0 : inB px 4741671816366391296 = true) (h1 : inB py 4741671816366391296 = true) (h2 : inB pz 4741671816366391296 = false) :
    Calls Ybad.prog 4 #[.int .u8 a0, .int .u8 a1, .float .f64 px, .float .f64 py, .float .f64 pz, .float .f64 r, .float .f64 g, .float .f64 b, .float .f64 r', .float .f64 g', .float .f64 b'] w fun e w' => e = .returned (.bool true) ∧ Below w.heap.size w w' := by
  have H0 := hide h0
  have H1 := hide h1
  have H2 := hide h2
  clear h0 h1 h2
  go_enter Ybad.func4, Ybad.ntmps4
  go_wp2_with (first
    | (go_at_call_of 9 px; refine (in9c px true _ H0.out).mono ?_; rintro _ w' ⟨rfl, hw'⟩; rw [hw']; clear hw' w')
    | (go_at_call_of 9 py; refine (in9c py true _ H1.out).mono ?_; rintro _ w' ⟨rfl, hw'⟩; rw [hw']; clear hw' w')
    | (go_at_call_of 9 pz; refine (in9c pz false _ H2.out).mono ?_; rintro _ w' ⟨rfl, hw'⟩; rw [hw']; clear hw' w'))
  go_ret
  exact ⟨rfl, Below.refl _ _⟩

set_option maxRecDepth 100000 in
set_option maxHeartbeats 1000000 in
theorem grad_out4 (a0 a1 : Int) (px py pz r g b r' g' b' : Nat) (w : World) (h0 : inB px 4741671816366391296 = true) (h1 : inB py 4741671816366391296 = true) (h2 : inB pz 4741671816366391296 = true) (h3 : inB r 4696837146684686336 = false) :
    Calls Ybad.prog 4 #[.int .u8 a0, .int .u8 a1, .float .f64 px, .float .f64 py, .float .f64 pz, .float .f64 r, .float .f64 g, .float .f64 b, .float .f64 r', .float .f64 g', .float .f64 b'] w fun e w' => e = .returned (.bool true) ∧ Below w.heap.size w w' := by
  have H0 := hide h0
  have H1 := hide h1
  have H2 := hide h2
  have H3 := hide h3
  clear h0 h1 h2 h3
  go_enter Ybad.func4, Ybad.ntmps4
  go_wp2_with (first
    | (go_at_call_of 9 px; refine (in9c px true _ H0.out).mono ?_; rintro _ w' ⟨rfl, hw'⟩; rw [hw']; clear hw' w')
    | (go_at_call_of 9 py; refine (in9c py true _ H1.out).mono ?_; rintro _ w' ⟨rfl, hw'⟩; rw [hw']; clear hw' w')
    | (go_at_call_of 9 pz; refine (in9c pz true _ H2.out).mono ?_; rintro _ w' ⟨rfl, hw'⟩; rw [hw']; clear hw' w')
    | (go_at_call_of 9 r; refine (in6c r false _ H3.out).mono ?_; rintro _ w' ⟨rfl, hw'⟩; rw [hw']; clear hw' w'))
  go_ret
  exact ⟨rfl, Below.refl _ _⟩

set_option maxRecDepth 100000 in
set_option maxHeartbeats 1000000 in
theorem grad_out5 (a0 a1 : Int) (px py pz r g b r' g' b' : Nat) (w : World) (h0 : inB px 4741671816366391296 = true) (h1 : inB py 4741671816366391296 = true) (h2 : inB pz 4741671816366391296 = true) (h3 : inB r 4696837146684686336 = true) (h4 : inB g 4696837146684686336 = false) :
    Calls Ybad.prog 4 #[.int .u8 a0, .int .u8 a1, .float .f64 px, .float .f64 py, .float .f64 pz, .float .f64 r, .float .f64 g, .float .f64 b, .float .f64 r', .float .f64 g', .float .f64 b'] w fun e w' => e = .returned (.bool true) ∧ Below w.heap.size w w' := by
  have H0 := hide h0
  have H1 := hide h1
  have H2 := hide h2
  have H3 := hide h3
  have H4 := hide h4
  clear h0 h1 h2 h3 h4
  go_enter Ybad.func4, Ybad.ntmps4
  go_wp2_with (first
    | (go_at_call_of 9 px; refine (in9c px true _ H0.out).mono ?_; rintro _ w' ⟨rfl, hw'⟩; rw [hw']; clear hw' w')
    | (go_at_call_of 9 py; refine (in9c py true _ H1.out).mono ?_; rintro _ w' ⟨rfl, hw'⟩; rw [hw']; clear hw' w')
    | (go_at_call_of 9 pz; refine (in9c pz true _ H2.out).mono ?_; rintro _ w' ⟨rfl, hw'⟩; rw [hw']; clear hw' w')
    | (go_at_call_of 9 r; refine (in6c r true _ H3.out).mono ?_; rintro _ w' ⟨rfl, hw'⟩; rw [hw']; clear hw' w')
    | (go_at_call_of 9 g; refine (in6c g false _ H4.out).mono ?_; rintro _ w' ⟨rfl, hw'⟩; rw [hw']; clear hw' w'))
  go_ret
  exact ⟨rfl, Below.refl _ _⟩

set_option maxRecDepth 100000 in
set_option maxHeartbeats 1000000 in
theorem grad_out6 (a0 a1 : Int) (px py pz r g b r' g' b' : Nat) (w : World) (h0 : inB px 4741671816366391296 = true) (h1 : inB py 4741671816366391296 = true) (h2 : inB pz 4741671816366391296 = true) (h3 : inB r 4696837146684686336 = true) (h4 : inB g 4696837146684686336 = true) (h5 : inB b 4696837146684686336 = false) :
    Calls Ybad.prog 4 #[.int .u8 a0, .int .u8 a1, .float .f64 px, .float .f64 py, .float .f64 pz, .float .f64 r, .float .f64 g, .float .f64 b, .float .f64 r', .float .f64 g', .float .f64 b'] w fun e w' => e = .returned (.bool true) ∧ Below w.heap.size w w' := by
  have H0 := hide h0
  have H1 := hide h1
  have H2 := hide h2
  have H3 := hide h3
  have H4 := hide h4
  have H5 := hide h5
  clear h0 h1 h2 h3 h4 h5
  go_enter Ybad.func4, Ybad.ntmps4
  go_wp2_with (first
    | (go_at_call_of 9 px; refine (in9c px true _ H0.out).mono ?_; rintro _ w' ⟨rfl, hw'⟩; rw [hw']; clear hw' w')
    | (go_at_call_of 9 py; refine (in9c py true _ H1.out).mono ?_; rintro _ w' ⟨rfl, hw'⟩; rw [hw']; clear hw' w')
    | (go_at_call_of 9 pz; refine (in9c pz true _ H2.out).mono ?_; rintro _ w' ⟨rfl, hw'⟩; rw [hw']; clear hw' w')
    | (go_at_call_of 9 r; refine (in6c r true _ H3.out).mono ?_; rintro _ w' ⟨rfl, hw'⟩; rw [hw']; clear hw' w')
    | (go_at_call_of 9 g; refine (in6c g true _ H4.out).mono ?_; rintro _ w' ⟨rfl, hw'⟩; rw [hw']; clear hw' w')
    | (go_at_call_of 9 b; refine (in6c b false _ H5.out).mono ?_; rintro _ w' ⟨rfl, hw'⟩; rw [hw']; clear hw' w'))
  go_ret
  exact ⟨rfl, Below.refl _ _⟩

set_option maxRecDepth 100000 in
set_option maxHeartbeats 1000000 in
theorem grad_out7 (a0 a1 : Int) (px py pz r g b r' g' b' : Nat) (w : World) (h0 : inB px 4741671816366391296 = true) (h1 : inB py 4741671816366391296 = true) (h2 : inB pz 4741671816366391296 = true) (h3 : inB r 4696837146684686336 = true) (h4 : inB g 4696837146684686336 = true) (h5 : inB b 4696837146684686336 = true) (h6 : inB r' 4696837146684686336 = false) :
    Calls Ybad.prog 4 #[.int .u8 a0, .int .u8 a1, .float .f64 px, .float .f64 py, .float .f64 pz, .float .f64 r, .float .f64 g, .float .f64 b, .float .f64 r', .float .f64 g', .float .f64 b'] w fun e w' => e = .returned (.bool true) ∧ Below w.heap.size w w' := by
  have H0 := hide h0
  have H1 := hide h1
  have H2 := hide h2
  have H3 := hide h3
  have H4 := hide h4
  have H5 := hide h5
  have H6 := hide h6
  clear h0 h1 h2 h3 h4 h5 h6
  go_enter Ybad.func4, Ybad.ntmps4
  go_wp2_with (first
    | (go_at_call_of 9 px; refine (in9c px true _ H0.out).mono ?_; rintro _ w' ⟨rfl, hw'⟩; rw [hw']; clear hw' w')
    | (go_at_call_of 9 py; refine (in9c py true _ H1.out).mono ?_; rintro _ w' ⟨rfl, hw'⟩; rw [hw']; clear hw' w')
    | (go_at_call_of 9 pz; refine (in9c pz true _ H2.out).mono ?_; rintro _ w' ⟨rfl, hw'⟩; rw [hw']; clear hw' w')
    | (go_at_call_of 9 r; refine (in6c r true _ H3.out).mono ?_; rintro _ w' ⟨rfl, hw'⟩; rw [hw']; clear hw' w')
    | (go_at_call_of 9 g; refine (in6c g true _ H4.out).mono ?_; rintro _ w' ⟨rfl, hw'⟩; rw [hw']; clear hw' w')
    | (go_at_call_of 9 b; refine (in6c b true _ H5.out).mono ?_; rintro _ w' ⟨rfl, hw'⟩; rw [hw']; clear hw' w')
    | (go_at_call_of 9 r'; refine (in6c r' false _ H6.out).mono ?_; rintro _ w' ⟨rfl, hw'⟩; rw [hw']; clear hw' w'))
  go_ret
  exact ⟨rfl, Below.refl _ _⟩

set_option maxRecDepth 100000 in
set_option maxHeartbeats 1000000 in
theorem grad_out8 (a0 a1 : Int) (px py pz r g b r' g' b' : Nat) (w : World) (h0 : inB px 4741671816366391296 = true) (h1 : inB py 4741671816366391296 = true) (h2 : inB pz 4741671816366391296 = true) (h3 : inB r 4696837146684686336 = true) (h4 : inB g 4696837146684686336 = true) (h5 : inB b 4696837146684686336 = true) (h6 : inB r' 4696837146684686336 = true) (h7 : inB g' 4696837146684686336 = false) :
    Calls Ybad.prog 4 #[.int .u8 a0, .int .u8 a1, .float .f64 px, .float .f64 py, .float .f64 pz, .float .f64 r, .float .f64 g, .float .f64 b, .float .f64 r', .float .f64 g', .float .f64 b'] w fun e w' => e = .returned (.bool true) ∧ Below w.heap.size w w' := by
  have H0 := hide h0
  have H1 := hide h1
  have H2 := hide h2
  have H3 := hide h3
  have H4 := hide h4
  have H5 := hide h5
  have H6 := hide h6
  have H7 := hide h7
  clear h0 h1 h2 h3 h4 h5 h6 h7
  go_enter Ybad.func4, Ybad.ntmps4
  go_wp2_with (first
    | (go_at_call_of 9 px; refine (in9c px true _ H0.out).mono ?_; rintro _ w' ⟨rfl, hw'⟩; rw [hw']; clear hw' w')
    | (go_at_call_of 9 py; refine (in9c py true _ H1.out).mono ?_; rintro _ w' ⟨rfl, hw'⟩; rw [hw']; clear hw' w')
    | (go_at_call_of 9 pz; refine (in9c pz true _ H2.out).mono ?_; rintro _ w' ⟨rfl, hw'⟩; rw [hw']; clear hw' w')
    | (go_at_call_of 9 r; refine (in6c r true _ H3.out).mono ?_; rintro _ w' ⟨rfl, hw'⟩; rw [hw']; clear hw' w')
    | (go_at_call_of 9 g; refine (in6c g true _ H4.out).mono ?_; rintro _ w' ⟨rfl, hw'⟩; rw [hw']; clear hw' w')
    | (go_at_call_of 9 b; refine (in6c b true _ H5.out).mono ?_; rintro _ w' ⟨rfl, hw'⟩; rw [hw']; clear hw' w')
    | (go_at_call_of 9 r'; refine (in6c r' true _ H6.out).mono ?_; rintro _ w' ⟨rfl, hw'⟩; rw [hw']; clear hw' w')
    | (go_at_call_of 9 g'; refine (in6c g' false _ H7.out).mono ?_; rintro _ w' ⟨rfl, hw'⟩; rw [hw']; clear hw' w'))
  go_ret
  exact ⟨rfl, Below.refl _ _⟩

set_option maxRecDepth 100000 in
set_option maxHeartbeats 1000000 in
theorem grad_out9 (a0 a1 : Int) (px py pz r g b r' g' b' : Nat) (w : World) (h0 : inB px 4741671816366391296 = true) (h1 : inB py 4741671816366391296 = true) (h2 : inB pz 4741671816366391296 = true) (h3 : inB r 4696837146684686336 = true) (h4 : inB g 4696837146684686336 = true) (h5 : inB b 4696837146684686336 = true) (h6 : inB r' 4696837146684686336 = true) (h7 : inB g' 4696837146684686336 = true) (h8 : inB b' 4696837146684686336 = false) :
    Calls Ybad.prog 4 #[.int .u8 a0, .int .u8 a1, .float .f64 px, .float .f64 py, .float .f64 pz, .float .f64 r, .float .f64 g, .float .f64 b, .float .f64 r', .float .f64 g', .float .f64 b'] w fun e w' => e = .returned (.bool true) ∧ Below w.heap.size w w' := by
  have H0 := hide h0
  have H1 := hide h1
  have H2 := hide h2
  have H3 := hide h3
  have H4 := hide h4
  have H5 := hide h5
  have H6 := hide h6
  have H7 := hide h7
  have H8 := hide h8
  clear h0 h1 h2 h3 h4 h5 h6 h7 h8
  go_enter Ybad.func4, Ybad.ntmps4
  go_wp2_with (first
    | (go_at_call_of 9 px; refine (in9c px true _ H0.out).mono ?_; rintro _ w' ⟨rfl, hw'⟩; rw [hw']; clear hw' w')
    | (go_at_call_of 9 py; refine (in9c py true _ H1.out).mono ?_; rintro _ w' ⟨rfl, hw'⟩; rw [hw']; clear hw' w')
    | (go_at_call_of 9 pz; refine (in9c pz true _ H2.out).mono ?_; rintro _ w' ⟨rfl, hw'⟩; rw [hw']; clear hw' w')
    | (go_at_call_of 9 r; refine (in6c r true _ H3.out).mono ?_; rintro _ w' ⟨rfl, hw'⟩; rw [hw']; clear hw' w')
    | (go_at_call_of 9 g; refine (in6c g true _ H4.out).mono ?_; rintro _ w' ⟨rfl, hw'⟩; rw [hw']; clear hw' w')
    | (go_at_call_of 9 b; refine (in6c b true _ H5.out).mono ?_; rintro _ w' ⟨rfl, hw'⟩; rw [hw']; clear hw' w')
    | (go_at_call_of 9 r'; refine (in6c r' true _ H6.out).mono ?_; rintro _ w' ⟨rfl, hw'⟩; rw [hw']; clear hw' w')
    | (go_at_call_of 9 g'; refine (in6c g' true _ H7.out).mono ?_; rintro _ w' ⟨rfl, hw'⟩; rw [hw']; clear hw' w')
    | (go_at_call_of 9 b'; refine (in6c b' false _ H8.out).mono ?_; rintro _ w' ⟨rfl, hw'⟩; rw [hw']; clear hw' w'))
  go_ret
  exact ⟨rfl, Below.refl _ _⟩

end Go.Proofs.YbulkdcwkDoor
