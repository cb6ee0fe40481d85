/-
  OWN WORK. The events' row; Len, Less of the queue.
-/
import Derived.Test.YbulkdddkRows
import Derived.WalkKit
import Derived.WalkSpells
import Derived.Deep.LoopGhost
import Derived.Deep.QuietTactic
import Derived.Deep.RegionWith
import Derived.BigQuiet
import Derived.WalkSmall
import Derived.Laws.EntriesVeiled
namespace Go.Proofs.Ybulkdddk
open Go.RowKit

theorem hid_of {p : Prop} (h : p) : Hid p := h

theorem meth_push (b o : Nat) (w : World) : (method 312 92 (.pointer (some ⟨b, o, none⟩)) "Push").run Yba.prog w = .ok (40, .pointer (some ⟨b, o, none⟩)) w := by kernel_rfl

theorem load25 (b o : Nat) (v : Value) (w : World) (h : w.cell? ⟨b, o, none⟩ = some v) : (loadVar 25 ⟨b, o, none⟩).run Yba.prog w = .ok v w := by
  simp [loadVar, go_sem, h]
theorem recv0 (b o : Nat) (nm : String) (v : Value) (w : World) (h : w.cell? ⟨b, o, none⟩ = some v) : (receiverAt 92 (.val (.pointer (some ⟨b, o, none⟩))) false (some nm)).run Yba.prog w = .ok v w := by
  have hl := load25 b o v w h
  have hu : (underlying 92).run Yba.prog w = .ok (.pointer 25) w := by kernel_rfl
  have hc : (Builtin.ssaWrapNilChk_ #[92] 92 #[.pointer (some ⟨b, o, none⟩), strVal "", strVal nm]).run Yba.prog w = .ok (.pointer (some ⟨b, o, none⟩)) w := by kernel_rfl
  unfold receiverAt
  simp [go_sem, hu, Place.get, hc, h, asAddr]

theorem meth_val (nm : String) (f : Nat) (hf : ((Yba.prog.info? 92).bind (fun i => i.methods.find? (·.name == nm))).map (fun m => (m.path.toList, m.func)) = some ([], some (f, false)))
    (b o : Nat) (v : Value) (w : World) (h : w.cell? ⟨b, o, none⟩ = some v) : (method 312 92 (.pointer (some ⟨b, o, none⟩)) nm).run Yba.prog w = .ok (f, v) w := by
  cases hi : Yba.prog.info? 92 with
  | none => rw [hi] at hf; simp at hf
  | some i =>
    rw [hi] at hf
    simp only [Option.bind_some] at hf
    cases hm : i.methods.find? (·.name == nm) with
    | none => rw [hm] at hf; simp at hf
    | some m =>
      rw [hm] at hf
      simp only [Option.map_some, Option.some.injEq, Prod.mk.injEq] at hf
      obtain ⟨hp, hfn⟩ := hf
      have hr := recv0 b o ((nm.splitOn ".").getLast?.getD nm) v w h
      have hpe : m.path = #[] := by
        cases hq : m.path with
        | mk l => rw [hq] at hp; simp at hp; subst hp; rfl
      unfold method
      simp [go_sem, typeInfo, hi, hm, hp, follow, hfn]
      rw [if_pos hpe, hr]
      rfl

theorem meth_len (b o : Nat) (v : Value) (w : World) (h : w.cell? ⟨b, o, none⟩ = some v) : (method 312 92 (.pointer (some ⟨b, o, none⟩)) "Len").run Yba.prog w = .ok (28, v) w := meth_val "Len" 28 (by kernel_rfl) b o v w h
theorem meth_less (b o : Nat) (v : Value) (w : World) (h : w.cell? ⟨b, o, none⟩ = some v) : (method 312 92 (.pointer (some ⟨b, o, none⟩)) "Less").run Yba.prog w = .ok (29, v) w := meth_val "Less" 29 (by kernel_rfl) b o v w h
theorem meth_swap (b o : Nat) (v : Value) (w : World) (h : w.cell? ⟨b, o, none⟩ = some v) : (method 312 92 (.pointer (some ⟨b, o, none⟩)) "Swap").run Yba.prog w = .ok (30, v) w := meth_val "Swap" 30 (by kernel_rfl) b o v w h
end Go.Proofs.Ybulkdddk
