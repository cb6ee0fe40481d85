/-
  OWN WORK. The laws that the walks over 'warn' lean on: fmt.Sprintf without operands at whatever format; a map[string]bool that the call itself makes (look-up, store of a new key, len).
-/
import Derived.Test.YbulkdcwkFmtRows
import Derived.WalkKit
import Derived.WalkSpells
import Derived.Maps.OwnOps
import Derived.Stop.CallBack
import Derived.Stop.AnyFormat
namespace Go.Proofs.YbulkdcwkFmt
open Go.RowKit Go.Extern.Stop Go.Stop Go.Extern

theorem call6 (args : Array Value) (w : World) : (callFunc 6 args).run Ybaf.prog w = (FmtCalls.sprintf #[9, 55] #[9] args).run Ybaf.prog w :=
  run_callFunc_next Ybaf.func6 (by kernel_rfl) (by kernel_rfl) (by kernel_rfl) args w
theorem guardOk (name : String) (w : World) : (FmtStop.guard name).run Ybaf.prog w = .ok () w := by kernel_rfl
theorem nextTurns : Extern.next FmtCalls.turnsRow = some (FmtCalls.begun #[] #[]) := by kernel_rfl

theorem printed_zero (f : ByteArray) : FmtStop.printed? f 0 = some [] ∨ FmtStop.printed? f 0 = Option.none := by
  cases h : FmtStop.printed? f 0 with
  | none => exact .inr rfl
  | some pl =>
    left
    have := FmtStop.printed_lt f 0 pl h
    cases pl with
    | nil => rfl
    | cons x t => exact absurd (this x List.mem_cons_self) (Nat.not_lt_zero _)

/-- What 'fmt.Sprintf(f)' gives, without operands: a function of the format alone. -/
def msgOf (F : Interp) (f : ByteArray) : ByteArray := FmtStop.textOf (F "fmt.Sprintf" [f.data.toList] 0)

theorem upon_sprintf0 {o : Oper} {a : Act} {next : Act → World → Prop} {Q : Exit → Act → World → Prop} {w : World} (F : Interp) (f : ByteArray) (hF : F.answers w.tape)
    (h : next (a.put o.dst (.string (msgOf F f))) w.drew) : o.upon Ybaf.prog a next Q ((callFunc 6 #[.string f, .slice Option.none 0 0]).run Ybaf.prog w) := by
  have hF' := answers_open hF
  rw [call6]
  rcases printed_zero f with hp | hp
  · have e : (FmtCalls.sprintf #[9, 55] #[9] #[.string f, .slice Option.none 0 0]).run Ybaf.prog w = .ok (.row FmtCalls.turnsRow (FmtCalls.save 0 0 (.slice Option.none 0 0) f [] [])) w := by
      rw [FmtCalls.sprintf_lit]
      simp [guardOk, FmtDoors.count, hp]
    rw [e, Oper.upon_row]
    refine rows_value nextTurns (v := .string (msgOf F f)) (w' := w.drew) ?_ h
    simp [go_sem, hF', msgOf]
  · have e : (FmtCalls.sprintf #[9, 55] #[9] #[.string f, .slice Option.none 0 0]).run Ybaf.prog w = .ok (.value (.string (msgOf F f))) w.drew := by
      rw [FmtCalls.sprintf_lit]
      simp [guardOk, FmtDoors.count, hp, go_sem, hF', msgOf, FmtStop.cells]
    rw [e, Oper.upon_value]
    exact h

/-! ### the map 'warned' -/

/-- Block b holds a map whose keys are 'ms', in this order, each true. -/
def MapIs (w : World) (b : Nat) (ms : List ByteArray) : Prop :=
  ∃ es clock, w.heap[b]? = some (.map es clock) ∧ es.toList.map (fun e => (e.key, e.val)) = ms.map fun m => (Value.string m, Value.bool true)

theorem findNow_is (s : ByteArray) : ∀ (l : List MapEntry) (ms : List ByteArray) (i : Nat), l.map (fun e => (e.key, e.val)) = ms.map (fun m => (Value.string m, Value.bool true)) →
    (s ∈ ms ∧ ∃ j, Instr.findNow .string (.string s) l i = some (some (j, .bool true))) ∨ (s ∉ ms ∧ Instr.findNow .string (.string s) l i = some Option.none)
  | [], [], i, _ => .inr ⟨by simp, rfl⟩
  | [], _ :: _, _, h => by simp at h
  | _ :: _, [], _, h => by simp at h
  | e :: l, m :: ms, i, h => by
    simp only [List.map_cons, List.cons.injEq, Prod.mk.injEq] at h
    obtain ⟨⟨hk, hv⟩, ht⟩ := h
    by_cases hs : s = m
    · subst hs
      have hb : (s == s) = true := (MapKept.bytes_beq s s).2 rfl
      exact .inl ⟨by simp, i, by simp [Instr.findNow, Instr.sameNow, hk, hv, hb]⟩
    · have hb : (s == m) = false := by
        cases h : s == m
        · rfl
        · exact absurd ((MapKept.bytes_beq s m).1 h) hs
      rcases findNow_is s l ms (i + 1) ht with ⟨h1, j, h2⟩ | ⟨h1, h2⟩
      · exact .inl ⟨by simp [h1], j, by simp [Instr.findNow, Instr.sameNow, hk, hb, h2]⟩
      · exact .inr ⟨by simp [h1, hs], by simp [Instr.findNow, Instr.sameNow, hk, hb, h2]⟩

theorem checkKey9 (e : Bool) (s : ByteArray) (w : World) : (Instr.checkKey e 10000 9 (.string s)).run Ybaf.prog w = .ok () w := by
  rw [show (10000 : Nat) = 9999 + 1 from rfl, Instr.checkKey]
  simp [run_underlying Ybaf.underlying9]

theorem zero4 (w : World) : (zeroValue 4).run Ybaf.prog w = .ok (.bool false) w := by kernel_rfl

theorem look_yes {w : World} {b : Nat} {ms : List ByteArray} (h : MapIs w b ms) {s : ByteArray} (hs : s ∈ ms) :
    (Instr.lookup 44 (.map (some b)) (.string s) false).run Ybaf.prog w = .ok (.bool true) w := by
  obtain ⟨es, clock, hb, he⟩ := h
  rcases findNow_is s es.toList ms 0 he with ⟨_, j, h2⟩ | ⟨h1, _⟩
  · simp [Instr.lookup, run_underlying Ybaf.underlying44, run_underlying Ybaf.underlying9, MapKept.run_getObj_map hb, checkKey9, Instr.findKey, h2]
  · exact absurd hs h1

theorem look_no {w : World} {b : Nat} {ms : List ByteArray} (h : MapIs w b ms) {s : ByteArray} (hs : s ∉ ms) :
    (Instr.lookup 44 (.map (some b)) (.string s) false).run Ybaf.prog w = .ok (.bool false) w := by
  obtain ⟨es, clock, hb, he⟩ := h
  rcases findNow_is s es.toList ms 0 he with ⟨h1, _⟩ | ⟨_, h2⟩
  · exact absurd h1 hs
  · simp [Instr.lookup, run_underlying Ybaf.underlying44, run_underlying Ybaf.underlying9, MapKept.run_getObj_map hb, checkKey9, Instr.findKey, h2]

theorem look_nil (w : World) (s : ByteArray) : (Instr.lookup 44 (.map Option.none) (.string s) false).run Ybaf.prog w = .ok (.bool false) w := by
  simp [Instr.lookup, run_underlying Ybaf.underlying44, run_underlying Ybaf.underlying9, checkKey9, Instr.findKey, Instr.findNow]

theorem len_map {w : World} {b : Nat} {ms : List ByteArray} (h : MapIs w b ms) (ty : TypeId) : (Builtin.len_ #[44] ty #[.map (some b)]).run Ybaf.prog w = .ok (.int .i64 ms.length) w := by
  obtain ⟨es, clock, hb, he⟩ := h
  have hl : es.size = ms.length := by
    have := congrArg List.length he
    simpa using this
  simp [Builtin.len_, run_underlying Ybaf.underlying44, MapKept.run_getObj_map hb, goInt, hl]

theorem upd_new {w : World} {b : Nat} {ms : List ByteArray} (h : MapIs w b ms) {s : ByteArray} (hs : s ∉ ms) :
    ∃ w', (Instr.mapUpdate 44 (.map (some b)) (.string s) (.bool true)).run Ybaf.prog w = .ok () w' ∧ MapIs w' b (ms ++ [s]) ∧ w.grownBy w' (some b) := by
  obtain ⟨es, clock, hb, he⟩ := h
  rcases findNow_is s es.toList ms 0 he with ⟨h1, _⟩ | ⟨_, h2⟩
  · exact absurd h1 hs
  · refine ⟨ChangeMaps.setBlock w b (.map (es.push { key := .string s, val := .bool true, born := clock }) (clock + 1)), ?_, ⟨_, _, ChangeMaps.heap_setBlock_same hb _, ?_⟩, ⟨rfl, rfl, rfl, by simp [ChangeMaps.setBlock], fun i _ hi => ChangeMaps.heap_setBlock_other hb _ (fun e => hi (by rw [e]))⟩⟩
    · simp [Instr.mapUpdate, run_underlying Ybaf.underlying44, run_underlying Ybaf.underlying9, MapKept.run_getObj_map hb, checkKey9, Instr.findKey, h2, ChangeMaps.setBlock, setObj, Sem.run, hb]
    · simp [he]

theorem MapIs.kept {w w' : World} {b : Nat} {ms : List ByteArray} (h : MapIs w b ms) (hb : w'.heap[b]? = w.heap[b]?) : MapIs w' b ms := by
  obtain ⟨es, clock, h1, h2⟩ := h
  exact ⟨es, clock, hb.trans h1, h2⟩

theorem MapIs.lt {w : World} {b : Nat} {ms : List ByteArray} (h : MapIs w b ms) : b < w.heap.size := by
  obtain ⟨es, clock, h1, h2⟩ := h
  exact (Array.getElem?_eq_some_iff.1 h1).1

theorem MapIs.made (w : World) : MapIs (w.alloc (.map #[] 0)) w.heap.size [] :=
  ⟨#[], 0, (MapKept.heap_alloc w _).1, rfl⟩

/-- A map's block has no cells. -/
theorem MapIs.no_cell {w : World} {b : Nat} {ms : List ByteArray} (h : MapIs w b ms) (o : Nat) : w.cell? ⟨b, o, Option.none⟩ = Option.none := by
  obtain ⟨es, clock, h1, _⟩ := h
  simp [World.cell?, h1]

/-! ### the operations, for the walk -/
theorem wpList_look44 {w : World} {ops : Array Oper} {rest : List Oper} {o : Oper} {a : Act} {Q : Exit → Act → World → Prop} (hg : o.guard = Option.none) (m x : Operand) (hop : o.op = Op.lookup 44 m x false)
    (mv : Value) (s : ByteArray) (b : Bool) (hm : a.eval m = mv) (hx : a.eval x = .string s) (hrun : (Instr.lookup 44 mv (.string s) false).run Ybaf.prog w = .ok (.bool b) w)
    (hK : wpList Ybaf.prog ops Q rest (a.put o.dst (.bool b)) w) : wpList Ybaf.prog ops Q (o :: rest) a w := by
  refine wpList_plain hg fun K' hK' => ?_
  unfold Oper.wp
  simp [execOp, hop, hm, hx, hrun, Result.andThen]
  exact hK' _ _ hK

theorem wpList_upd44 {w : World} {ops : Array Oper} {rest : List Oper} {o : Oper} {a : Act} {Q : Exit → Act → World → Prop} (hg : o.guard = Option.none) (m x v : Operand) (hop : o.op = Op.mapUpdate 44 m x v)
    (b : Nat) (s : ByteArray) (ms : List ByteArray) (hm : a.eval m = .map (some b)) (hx : a.eval x = .string s) (hv : a.eval v = .bool true) (hmap : MapIs w b ms) (hs : s ∉ ms)
    (hK : ∀ w', MapIs w' b (ms ++ [s]) → w.grownBy w' (some b) → wpList Ybaf.prog ops Q rest (a.put o.dst undef) w') : wpList Ybaf.prog ops Q (o :: rest) a w := by
  refine wpList_plain hg fun K' hK' => ?_
  obtain ⟨w', hrun, r1, r2⟩ := upd_new hmap hs
  unfold Oper.wp
  simp [execOp, hop, hm, hx, hv, hrun, Result.andThen]
  exact hK' _ _ (hK w' r1 r2)

end Go.Proofs.YbulkdcwkFmt
