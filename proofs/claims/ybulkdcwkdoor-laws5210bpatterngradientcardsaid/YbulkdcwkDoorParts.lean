/-
  OWN WORK. Contracts of the small functions on the road: zzs5210bsigned, zzs5210bsame, geom.Identity, Pigment.At at a zero gradient; the struct Pigment built in one step.
-/
import Derived.Test.YbulkdcwkDoorRows
import Derived.WalkKit
import Derived.WalkSpells
import Derived.Laws.Externs
import Derived.Test.YbulkdcwkDoorLaws
import Derived.Deep.LoopGhost
namespace Go.Proofs.YbulkdcwkDoor
open Go.RowKit

attribute [local go_sem] run_store_float run_equalIn_float

theorem call17 (b : Nat) (w : World) : (callFunc 17 #[.float .f64 b]).run Ybad.prog w = .ok (.value (.int .u64 b)) w := by kernel_rfl
theorem call22 (n : Int) (w : World) : (callFunc 22 #[.int .u64 n]).run Ybad.prog w = .ok (.value (.float .f64 n.toNat)) w := by kernel_rfl

set_option maxHeartbeats 400000 in
theorem copysign_neg (w : World) : Calls Ybad.prog 13 #[.float .f64 0, .float .f64 13830554455654793216] w fun e w' => e = .returned (.float .f64 9223372036854775808) ∧ w' = w := by
  have h1 := call17
  have h2 := call22
  go_enter Ybad.func13, Ybad.ntmps13
  go_wp2
  go_ret
  exact ⟨rfl, rfl⟩

def sg (b : Bool) : Nat := if b then 9223372036854775808 else 0
theorem sg_eq (b : Bool) : (FloatKind.f64.format.order (sg b) 0 == some Ordering.eq) = true := by cases b <;> decide +kernel

set_option maxHeartbeats 400000 in
theorem signed_any (b : Bool) (w : World) : Calls Ybad.prog 5 #[.bool b] w fun e w' => e = .returned (.float .f64 (sg b)) ∧ w' = w := by
  cases b
  · go_enter Ybad.func5, Ybad.ntmps5
    go_wp2
    go_ret
    exact ⟨rfl, rfl⟩
  · go_enter Ybad.func5, Ybad.ntmps5
    go_wp2_with (go_at_call 13; refine (copysign_neg _).mono ?_; rintro e w' ⟨rfl, rfl⟩)
    go_ret
    exact ⟨rfl, rfl⟩

set_option maxHeartbeats 400000 in
theorem same_any (b : Nat) (w : World) : Calls Ybad.prog 8 #[.float .f64 b, .float .f64 b] w fun e w' => e = .returned (.bool true) ∧ w' = w := by
  have h1 := call17
  go_enter Ybad.func8, Ybad.ntmps8
  go_wp2
  go_ret
  exact ⟨by simp, rfl⟩

/-- The listed variable, in memory: nine numbers. -/
structure Ident (w : World) (m0 m1 m2 m3 m4 m5 m6 m7 m8 : Nat) : Prop where
  c0 : w.cell? ⟨0, 0, none⟩ = some (.float .f64 m0)
  c1 : w.cell? ⟨0, 1, none⟩ = some (.float .f64 m1)
  c2 : w.cell? ⟨0, 2, none⟩ = some (.float .f64 m2)
  c3 : w.cell? ⟨0, 3, none⟩ = some (.float .f64 m3)
  c4 : w.cell? ⟨0, 4, none⟩ = some (.float .f64 m4)
  c5 : w.cell? ⟨0, 5, none⟩ = some (.float .f64 m5)
  c6 : w.cell? ⟨0, 6, none⟩ = some (.float .f64 m6)
  c7 : w.cell? ⟨0, 7, none⟩ = some (.float .f64 m7)
  c8 : w.cell? ⟨0, 8, none⟩ = some (.float .f64 m8)

set_option maxHeartbeats 400000 in
theorem identity_any (w : World) (m0 m1 m2 m3 m4 m5 m6 m7 m8 : Nat) (h : Ident w m0 m1 m2 m3 m4 m5 m6 m7 m8) : Calls Ybad.prog 6 #[] w fun e w' => e = .returned (.agg #[.float .f64 m0, .float .f64 m1, .float .f64 m2, .float .f64 m3, .float .f64 m4, .float .f64 m5, .float .f64 m6, .float .f64 m7, .float .f64 m8, .float .f64 0, .float .f64 0, .float .f64 0]) ∧
    w' = w.alloc (.cells #[.float .f64 m0, .float .f64 m1, .float .f64 m2, .float .f64 m3, .float .f64 m4, .float .f64 m5, .float .f64 m6, .float .f64 m7, .float .f64 m8, .float .f64 0, .float .f64 0, .float .f64 0] 38) := by
  obtain ⟨c0, c1, c2, c3, c4, c5, c6, c7, c8⟩ := h
  have hp : 0 < w.heap.size := World.block_lt_of_cell? w _ c0
  go_enter Ybad.func6, Ybad.ntmps6
  go_wp2
  exact bodyPost_ret (v := .agg #[.float .f64 m0, .float .f64 m1, .float .f64 m2, .float .f64 m3, .float .f64 m4, .float .f64 m5, .float .f64 m6, .float .f64 m7, .float .f64 m8, .float .f64 0, .float .f64 0, .float .f64 0]) (by simp [results, Ybad.results6, go_sem]) rfl ⟨rfl, rfl⟩

set_option maxHeartbeats 400000 in
theorem at_plain (pb r g b px py pz g0 g1 g2 : Nat) (w : World) (hp : pb < w.heap.size)
    (h0 : (FloatKind.f64.format.order g0 0 == some Ordering.eq) = true) (h1 : (FloatKind.f64.format.order g1 0 == some Ordering.eq) = true) (h2 : (FloatKind.f64.format.order g2 0 == some Ordering.eq) = true)
    (c0 : w.cell? ⟨pb, 0, none⟩ = some (.float .f64 r)) (c1 : w.cell? ⟨pb, 1, none⟩ = some (.float .f64 g)) (c2 : w.cell? ⟨pb, 2, none⟩ = some (.float .f64 b))
    (c5 : w.cell? ⟨pb, 5, none⟩ = some (.float .f64 g0)) (c6 : w.cell? ⟨pb, 6, none⟩ = some (.float .f64 g1)) (c7 : w.cell? ⟨pb, 7, none⟩ = some (.float .f64 g2)) :
    Calls Ybad.prog 7 #[.pointer (some ⟨pb, 0, none⟩), .agg #[.float .f64 px, .float .f64 py, .float .f64 pz]] w fun e w' => e = .returned (.agg #[.float .f64 r, .float .f64 g, .float .f64 b]) ∧ Below w.heap.size w w' := by
  go_enter Ybad.func7, Ybad.ntmps7
  go_wp2_with fail
  refine bodyPost_ret (v := .agg #[.float .f64 r, .float .f64 g, .float .f64 b]) (by simp [results, Ybad.results7, go_sem]) rfl ⟨rfl, ?_⟩
  exact ((Below.refl _ _).alloc (Nat.le_refl _) _).alloc (by simp) _

theorem build41 (r g b s0 s1 s2 m0 m1 m2 m3 m4 m5 m6 m7 m8 : Nat) (mo : Option Addr) (ml mc : Nat) (w : World) : (Instr.build 41 #[(0, .agg #[.float .f64 r, .float .f64 g, .float .f64 b]), (3, .agg #[.float .f64 s0, .float .f64 s1, .float .f64 s2]), (4, .slice mo ml mc), (5, .agg #[.float .f64 m0, .float .f64 m1, .float .f64 m2, .float .f64 m3, .float .f64 m4, .float .f64 m5, .float .f64 m6, .float .f64 m7, .float .f64 m8, .float .f64 0, .float .f64 0, .float .f64 0])]).run Ybad.prog w =
    .ok (.agg #[.float .f64 r, .float .f64 g, .float .f64 b, .float .f64 0, .float .f64 0, .float .f64 s0, .float .f64 s1, .float .f64 s2, .slice mo ml mc, .float .f64 m0, .float .f64 m1, .float .f64 m2, .float .f64 m3, .float .f64 m4, .float .f64 m5, .float .f64 m6, .float .f64 m7, .float .f64 m8, .float .f64 0, .float .f64 0, .float .f64 0]) w := by kernel_rfl

theorem wpList_build41 {w : World} {ops : Array Oper} {rest : List Oper} {o : Oper} {a : Act} {Q : Exit → Act → World → Prop} (hg : o.guard = none) (x0 x1 x2 x3 : Operand) (hop : o.op = Op.build 41 #[(0, x0), (3, x1), (4, x2), (5, x3)])
    (r g b s0 s1 s2 m0 m1 m2 m3 m4 m5 m6 m7 m8 : Nat) (mo : Option Addr) (ml mc : Nat) (h0 : a.eval x0 = .agg #[.float .f64 r, .float .f64 g, .float .f64 b]) (h1 : a.eval x1 = .agg #[.float .f64 s0, .float .f64 s1, .float .f64 s2]) (h2 : a.eval x2 = .slice mo ml mc) (h3 : a.eval x3 = .agg #[.float .f64 m0, .float .f64 m1, .float .f64 m2, .float .f64 m3, .float .f64 m4, .float .f64 m5, .float .f64 m6, .float .f64 m7, .float .f64 m8, .float .f64 0, .float .f64 0, .float .f64 0])
    (hK : wpList Ybad.prog ops Q rest (a.put o.dst (.agg #[.float .f64 r, .float .f64 g, .float .f64 b, .float .f64 0, .float .f64 0, .float .f64 s0, .float .f64 s1, .float .f64 s2, .slice mo ml mc, .float .f64 m0, .float .f64 m1, .float .f64 m2, .float .f64 m3, .float .f64 m4, .float .f64 m5, .float .f64 m6, .float .f64 m7, .float .f64 m8, .float .f64 0, .float .f64 0, .float .f64 0])) w) : wpList Ybad.prog ops Q (o :: rest) a w := by
  refine wpList_exec hg (w' := w) ?_ hK
  simp only [execOp, hop]
  have := build41 r g b s0 s1 s2 m0 m1 m2 m3 m4 m5 m6 m7 m8 mo ml mc w
  simp only [List.map_toArray, List.map_cons, List.map_nil, h0, h1, h2, h3, Sem.run_bind, this, Result.andThen_ok, Sem.run_pure]

theorem size41 : (Ybad.prog.info? 41).map (·.size) = some 21 := by kernel_rfl
end Go.Proofs.YbulkdcwkDoor
