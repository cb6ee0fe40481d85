/-
  OWN WORK (the frame after the kit's template). The proof of 'Rows.LawS5212CScriptSaid', out of its walks.
-/
import Derived.Test.YbulkdcxmScript
import Derived.ProofKit
import Derived.OpenShut
import Derived.Carry
import Derived.Deep.Slices
namespace Go.Proofs.Ybulkdcxm.lawS5212CScript
open Go.ChangeShapes Go.WideShapes Go.ChangeAt Go.RowKit

theorem own : ownKnob Yba.prog.godebug = none := by kernel_rfl
theorem laidOut : laidOutB Yba.pinned.checked.prog = true := by kernel_rfl
theorem cells3 : Yba.prog.cellsOf 3 = 1 := by kernel_rfl
theorem cells4 : Yba.prog.cellsOf 4 = 1 := by kernel_rfl

section
variable {H : Type} {enc : TypeId × Value → H} {W : World}

/-- A cell that is there lies at an address without a spot. -/
theorem spot_none {w : World} {a : Addr} {v : Value} (h : w.cell? a = some v) : a.spot = none := by
  unfold World.cell? at h
  split at h
  · split at h
    · cases h
    · rename_i hs
      cases e : a.spot with
      | none => rfl
      | some x => simp [e] at hs
  · cases h

/-- A slice that is not empty, of elements of one cell: its address and its cells. -/
theorem open_row {t e : TypeId} (ht : Yba.prog.underlying t = some (.slice e)) (hc : Yba.prog.cellsOf e = 1) {fuel len cap : Nat} {ao : Option Addr} {x : DataW H × List MemPlace}
    (h : DataW.trod enc Yba.prog W 0 (fun _ => true) true fuel t [.slice ao len cap] = some x) (hlen : 0 < len) :
    ∃ (b off n : Nat) (V : Nat → Value) (D : Nat → DataW H) (Pl : Nat → List MemPlace), ao = some ⟨b, off, none⟩ ∧ b < W.heap.size ∧ ∀ k, k < len → W.cell? ⟨b, off + k, none⟩ = some (V k) ∧ DataW.trod enc Yba.prog W 0 (fun _ => true) true n e [V k] = some (D k, Pl k) := by
  rcases Deep.open_slice1 ht hc h with ⟨hcs, _⟩ | ⟨a, len', cap', m, n, V, D, Pl, hcs, _, hl, _, hm, _, hx⟩
  · simp at hcs
    omega
  · simp only [List.cons.injEq, Value.slice.injEq, and_true] at hcs
    obtain ⟨rfl, rfl, rfl⟩ := hcs
    simp only [if_pos] at hm
    subst hm
    have h0 := (hx 0 (by omega)).1
    obtain ⟨b, off, sp⟩ := a
    have hsp : sp = none := by
      have := spot_none h0
      simpa [Addr.add] using this
    subst hsp
    refine ⟨b, off, n, V, D, Pl, rfl, ?_, fun k hk => ?_⟩
    · have := World.block_lt_of_cell? W _ h0
      simpa [Addr.add] using this
    · obtain ⟨r0, r1⟩ := hx k (by omega)
      rw [Addr.add_lit] at r0
      exact ⟨r0, r1⟩

theorem open_ints' {fuel len cap : Nat} {ao : Option Addr} {x : DataW H × List MemPlace} (h : DataW.trod enc Yba.prog W 0 (fun _ => true) true fuel 35 [.slice ao len cap] = some x) (hlen : 0 < len) :
    ∃ (b off : Nat) (z : Nat → Int), ao = some ⟨b, off, none⟩ ∧ b < W.heap.size ∧ ∀ k, k < len → W.cell? ⟨b, off + k, none⟩ = some (.int .i64 (z k)) := by
  obtain ⟨b, off, n, V, D, Pl, rfl, hb, hx⟩ := open_row Yba.underlying35 cells3 h hlen
  refine ⟨b, off, fun k => intOf (V k), rfl, hb, fun k hk => ?_⟩
  obtain ⟨r0, r1⟩ := hx k hk
  obtain ⟨m, hm, _⟩ := DataW.trod_int Yba.underlying3 r1
  simp at hm
  simp only [r0, hm, intOf]

def boolOf : Value → Bool | .bool b => b | _ => false

theorem bool_of_trod {n : Nat} {v : Value} {x : DataW H × List MemPlace} (h : DataW.trod enc Yba.prog W 0 (fun _ => true) true n 4 [v] = some x) : ∃ b, v = .bool b := by
  cases n with
  | zero => simp [DataW.trod] at h
  | succ n =>
    cases v <;> simp [DataW.trod, Yba.underlying4] at h
    exact ⟨_, rfl⟩

theorem open_bools {fuel len cap : Nat} {ao : Option Addr} {x : DataW H × List MemPlace} (h : DataW.trod enc Yba.prog W 0 (fun _ => true) true fuel 36 [.slice ao len cap] = some x) (hlen : 0 < len) :
    ∃ (b off : Nat) (av : Nat → Bool), ao = some ⟨b, off, none⟩ ∧ b < W.heap.size ∧ ∀ k, k < len → W.cell? ⟨b, off + k, none⟩ = some (.bool (av k)) := by
  obtain ⟨b, off, n, V, D, Pl, rfl, hb, hx⟩ := open_row Yba.underlying36 cells4 h hlen
  refine ⟨b, off, fun k => boolOf (V k), rfl, hb, fun k hk => ?_⟩
  obtain ⟨r0, r1⟩ := hx k hk
  obtain ⟨m, hm⟩ := bool_of_trod r1
  simp only [r0, hm, boolOf]
end

set_option maxRecDepth 100000 in
theorem lifted (os : Os) (started : os.Started) (H : Type) (enc : TypeId × Value → H) :
    ReturnsInHanded {} Yba.checked os 4 .any (Rows.lawS5212CScriptSpec.pre6 enc Yba.prog Yba.f4 Rows.lawS5212CScriptRow.domain false) (Rows.lawS5212CScriptSpec.post enc Yba.prog Yba.f4 false true false false) := by
  refine returnsInHanded_of_change (C := Yba.checked) own started (by kernel_rfl) Yba.func4
    (ChangeSpec.witness6 (enc := enc) (C := Yba.checked) false ⟨#[], #[.int .i64 0, .slice none 0 0, .slice none 0 0], []⟩ 8 (by kernel_rfl) (by kernel_rfl) (by kernel_rfl) (by kernel_rfl)) ?_
  intro W base args ds gs before hval0 hW hcnd _
  have hval : ∀ (j : Nat) t v, Yba.f4.params[j]? = some t → args[j]? = some v → Value.okWide Yba.prog W .any base t v := hval0
  have hW' := hW
  obtain ⟨p, q, hA0, hV, rfl, hfz, hnd⟩ := hW
  have hA : DataW.TrodAll enc Yba.prog W 0 (fun _ => true) true Yba.f4.params.toList args.toList ds p := hA0
  rw [Yba.params4] at hA hval
  obtain ⟨v0, vs0, d0, ds0, p0, q0, hargs, rfl, rfl, h0, r0⟩ := trodAll_cons hA
  obtain ⟨v1, vs1, d1, ds1, p1, q1, rfl, rfl, rfl, h1, r1⟩ := trodAll_cons r0
  obtain ⟨v2, vs2, d2, ds2, p2, q2, rfl, rfl, rfl, h2, r2⟩ := trodAll_cons r1
  obtain ⟨rfl, rfl, rfl⟩ := trodAll_nil r2
  obtain rfl : args = #[v0, v1, v2] := by cases args; simp_all
  obtain ⟨rfl, rfl⟩ := trodVars_none hV
  obtain ⟨a0, rfl, rfl, rfl, w0⟩ := open_int Yba.underlying3 (hval 0 3 v0 rfl rfl) h0
  obtain ⟨so, lenS, capS, rfl⟩ := okWide_slice Yba.underlying35 (hval 1 35 v1 rfl rfl)
  obtain ⟨ao, lenA, capA, rfl⟩ := okWide_slice Yba.underlying36 (hval 2 36 v2 rfl rfl)
  have k1 := h1
  have k2 := h2
  have lt1 : ∀ x ∈ p1, x.block < W.heap.size := by obtain ⟨m, hm⟩ := k1; exact DataW.trod_lt m _ _ _ hm
  have lt2 : ∀ x ∈ p2, x.block < W.heap.size := by obtain ⟨m, hm⟩ := k2; exact DataW.trod_lt m _ _ _ hm
  have walk : Calls Yba.prog 4 #[.int .i64 a0, .slice so lenS capS, .slice ao lenA capA] W fun e w' => e = .returned (.bool true) ∧ Below W.heap.size W w' := by
    rcases Nat.lt_or_ge 1024 lenS with hbig | hsS
    · exact script_longS a0 so ao lenS capS lenA capA W hbig
    · rcases Nat.lt_or_ge 1024 lenA with hbig | hsA
      · exact script_longA a0 so ao lenS capS lenA capA W hsS hbig
      · rcases Nat.eq_zero_or_pos lenS with hz | hpS
        · subst hz
          exact script_empty a0 so ao capS lenA capA W hsA
        · obtain ⟨f1, hf1⟩ := h1
          obtain ⟨sb, soff, z, rfl, hsb, hz⟩ := open_ints' (by simpa [Value.cells] using hf1) hpS
          rcases Nat.eq_zero_or_pos lenA with hz0 | hpA
          · subst hz0
            exact script_none a0 sb soff lenS capS z ao capA W hsS hsb hz
          · obtain ⟨f2, hf2⟩ := h2
            obtain ⟨bb, off, av, rfl, hbb, hav⟩ := open_bools (by simpa [Value.cells] using hf2) hpA
            exact script_lit a0 sb soff lenS capS z bb off lenA capA av W hsS hsb hz hsA hbb hav
  clear hA0 hval0
  refine walk.mono fun e W' ⟨he, bel⟩ => ?_
  subst he
  exact ⟨_, rfl, _, _, _, [], [] ++ (p1 ++ (p2 ++ [])), [], hW', trodAll_mk1 (shut_bool Yba.underlying4 _), (trodAll_cons_mk (shut_int Yba.underlying3 w0) (trodAll_cons_mk (Below.trod laidOut (by kernel_rfl) (of_decide_eq_true (by kernel_rfl)) k1 bel lt1) (trodAll_cons_mk (Below.trod laidOut (by kernel_rfl) (of_decide_eq_true (by kernel_rfl)) k2 bel lt2) trodAll_mk0))), rfl, bel.frame _, fun h => by cases h⟩

/-- ████ THE STATEMENT ████ -/
theorem proved : Rows.LawS5212CScriptSaid :=
  OpenClaim.holds_of_wide 4 Yba.f4 rfl rfl rfl rfl rfl rfl rfl ⟨rfl, rfl, rfl, rfl, rfl⟩ rfl rfl rfl rfl rfl (by kernel_rfl) Yba.func4 (by kernel_rfl)
    (of_decide_eq_true (by kernel_rfl)) (by unfold Func.isWrapper; first | (rw [if_pos (by decide +kernel)]; kernel_rfl) | (rw [if_neg (by decide +kernel)]; exact ⟨rfl, rfl⟩))
    (fun os started H enc _ => lifted os started H enc)
#print axioms proved
end Go.Proofs.Ybulkdcxm.lawS5212CScript
