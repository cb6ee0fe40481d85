/-
  OWN WORK. Laws that the walks of this seat lean on: floats stored and compared; a whole struct stored into the block that was just made; an operation by its run.
-/
import Derived.WalkKit
import Derived.Laws.Cover2
import Derived.Laws.FloatArith
namespace Go.Proofs.YbulkdcwkDoor
open Go.RowKit

theorem run_store_float {P : Program} (w : World) (a : Addr) (m : Mode) (k : FloatKind) (b : Nat) : (store a (.float k b) m).run P w = stored P w a (.float k b) m := run_store P w a _ m rfl

theorem run_equalIn_float {P : Program} (w : World) (d : Nat) (t : TypeId) (k k' : FloatKind) (a b : Nat) (h : P.underlying t = some (.float k')) : (Op.equalIn (d + 1) t (.float k a) (.float k b)).run P w = .ok (k.format.order a b == some .eq) w := by
  simp [Op.equalIn, run_underlying h, Op.floatEq]

theorem setRow_alloc (w : World) (old cells : Array Value) (t : TypeId) : (w.alloc (.cells old t)).setRow w.heap.size cells = w.alloc (.cells cells t) := by
  have h : ((w.alloc (.cells old t)).setRow w.heap.size cells).heap = (w.alloc (.cells cells t)).heap := by
    apply Array.ext_getElem?
    intro i
    by_cases hi : i = w.heap.size
    · subst hi
      rw [setRow_heap _ _ old cells t (0, 0) (heap_alloc_new w _), heap_alloc_new w (.cells cells t)]
    · rw [setRow_other _ _ _ _ hi]
      show (w.heap.push _)[i]? = (w.heap.push _)[i]?
      rw [Array.getElem?_push, Array.getElem?_push, if_neg hi, if_neg hi]
  show ({ (w.alloc (.cells old t)).setRow w.heap.size cells with heap := ((w.alloc (.cells old t)).setRow w.heap.size cells).heap } : World) = _
  rw [h]
  rfl

/-- The cells of a block that was just made. -/
theorem new_cells (w : World) (l : List Value) (e : TypeId) : ∀ j u, l[j]? = some u → (w.alloc (.cells l.toArray e)).cell? ((⟨w.heap.size, 0, none⟩ : Addr).add j) = some u := by
  intro j u h
  have hn : (w.alloc (.cells l.toArray e)).heap[w.heap.size]? = some (.cells l.toArray e) := heap_alloc_new w _
  rw [Addr.add_lit, Nat.zero_add, cell_of_row _ _ j _ _ _ hn]
  simpa using h

/-- An operation by its run. -/
theorem wpList_exec {P : Program} {w w' : World} {ops : Array Oper} {rest : List Oper} {o : Oper} {a : Act} {Q : Exit → Act → World → Prop} {v : Value} (hg : o.guard = none)
    (hrun : (execOp a.eval o).run P w = .ok (.value v) w') (hK : wpList P ops Q rest (a.put o.dst v) w') : wpList P ops Q (o :: rest) a w := by
  refine wpList_plain hg fun K hK' => ?_
  unfold Oper.wp
  rw [hrun]
  exact hK' _ _ hK

/-- A whole struct or array stored into the block that was just made. -/
theorem wpList_store_new {P : Program} (w0 : World) {ops : Array Oper} {rest : List Oper} {o : Oper} {a : Act} {Q : Exit → Act → World → Prop} (hg : o.guard = none) (ty : TypeId) (x y : Operand) (ho : o.op = .store ty x y)
    (t : TypeId) (old : Array Value) (l : List Value) (g : Nat) (hgw : g = w0.heap.size) (hx : a.eval x = .pointer (some ⟨g, 0, none⟩)) (hy : a.eval y = .agg l.toArray) (n : Nat) (hi : (P.info? ty).map (·.size) = some n) (hn : l.length = n) (hold : old.size = n) (h1 : l.all (·.oneCell') = true)
    (h : wpList P ops Q rest (a.put o.dst undef) (w0.alloc (.cells l.toArray t))) : wpList P ops Q (o :: rest) a (w0.alloc (.cells old t)) :=
  wpList_plain hg fun K hK => wp_store_row ty x y ho w0.heap.size l.toArray (by rw [hx, hgw]) hy t old (heap_alloc_new w0 _) (by rw [hi, ← hn]; simp) (by rw [hold, ← hn]; simp) (by simpa using h1) (by rw [setRow_alloc]; exact hK _ _ h)

end Go.Proofs.YbulkdcwkDoor
