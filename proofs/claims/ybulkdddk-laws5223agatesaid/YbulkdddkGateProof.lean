/-
  OWN WORK (the frame after the kit's template). The proof of 'Rows.LawS5223AGateSaid', out of its walks.
-/
import Derived.Test.YbulkdddkLaw
import Derived.ProofKit
import Derived.OpenShut
import Derived.Carry
import Derived.Deep.Slices
namespace Go.Proofs.Ybulkdddk.lawS5223AGate
open Go.ChangeShapes Go.WideShapes Go.ChangeAt Go.RowKit

theorem own : ownKnob Yba.prog.godebug = none := by kernel_rfl
theorem laidOut : laidOutB Yba.pinned.checked.prog = true := by kernel_rfl
theorem cells84 : Yba.prog.cellsOf 84 = 3 := by kernel_rfl
theorem cells5 : Yba.prog.cellsOf 5 = 1 := by kernel_rfl
theorem cells2 : Yba.prog.cellsOf 2 = 1 := by kernel_rfl

section
variable {H : Type} {enc : TypeId × Value → H}

/-- A cell that is there lies at an address without a spot. -/
theorem spot_none {w : World} {a : Addr} {v : Value} (h : w.cell? a = some v) : a.spot = none := by
  unfold World.cell? at h
  split at h
  · split at h
    · cases h
    · rename_i hs
      cases e : a.spot with
      | none => rfl
      | some x => simp [e] at hs
  · cases h

/-- A byte that came in. -/
theorem open_byte {W : World} {n : Nat} {cs : List Value} {x : DataW H × List MemPlace} (h : DataW.trod enc Yba.prog W 0 (fun _ => true) true n 5 cs = some x) : ∃ y : Nat, y ≤ 255 ∧ cs = [.int .u8 y] := by
  obtain ⟨l, e, _, hw⟩ := DataW.trod_int Yba.underlying5 h
  simp only [Lit.wf, Bool.and_eq_true, decide_eq_true_eq] at hw
  have h0 : (0 : Int) ≤ l := hw.1
  have h1 : l ≤ 255 := hw.2
  refine ⟨l.toNat, by omega, ?_⟩
  rw [e, Int.toNat_of_nonneg h0]

set_option maxRecDepth 100000 in
/-- One operation of the script: its three cells. -/
theorem open_step {W : World} {n : Nat} {cs : List Value} {x : DataW H × List MemPlace} (hl : cs.length = 3) (h : DataW.trod enc Yba.prog W 0 (fun _ => true) true n 84 cs = some x) :
    ∃ (y z : Nat) (t : Int), (y ≤ 255 ∧ z ≤ 255) ∧ cs = [.int .u8 y, .int .u8 z, .int .i64 t] := by
  obtain ⟨xs, k, hk, hxy, _, hxl, hf⟩ := DataW.trod_struct Yba.underlying84 h
  match xs, hxl, cs, hl with
  | [y0, y1, y2], _, [v0, v1, v2], _ =>
    have g0 := hf 0 _ rfl
    have g1 := hf 1 _ rfl
    have g2 := hf 2 _ rfl
    simp [cells5, cells2] at g0 g1 g2
    obtain ⟨y, hy, e0⟩ := open_byte g0
    obtain ⟨z, hz, e1⟩ := open_byte g1
    obtain ⟨t, e2, _⟩ := DataW.trod_int Yba.underlying2 g2
    simp at e0 e1 e2
    exact ⟨y, z, t, ⟨hy, hz⟩, by rw [e0, e1, e2]⟩

/-- The script, opened. -/
theorem open_steps {W : World} {fuel len cap : Nat} {ao : Option Addr} {x : DataW H × List MemPlace} (h : DataW.trod enc Yba.prog W 0 (fun _ => true) true fuel 22 [.slice ao len cap] = some x) :
    ∃ (op nd : Nat → Nat) (T : Nat → Int), (∀ i, op i ≤ 255 ∧ nd i ≤ 255) ∧ Ops W ao len op nd T := by
  rcases Nat.eq_zero_or_pos len with h0 | hlen
  · subst h0
    exact ⟨fun _ => 0, fun _ => 0, fun _ => 0, fun _ => ⟨Nat.zero_le _, Nat.zero_le _⟩, fun i hi => absurd hi (Nat.not_lt_zero _)⟩
  rcases Deep.open_slice Yba.underlying22 h with ⟨hcs, _⟩ | ⟨a, len', cap', m, n, D, Pl, hcs, _, hl, _, hm, _, hx⟩
  · simp at hcs
    omega
  · simp only [List.cons.injEq, Value.slice.injEq, and_true] at hcs
    obtain ⟨rfl, rfl, rfl⟩ := hcs
    simp only [if_pos] at hm
    subst hm
    rw [cells84] at hx
    have each : ∀ i, i < len → ∃ q : Nat × Nat × Int, (q.1 ≤ 255 ∧ q.2.1 ≤ 255) ∧ W.cell? (a.add (i * 3)) = some (.int .u8 q.1) ∧ W.cell? ((a.add (i * 3)).add 1) = some (.int .u8 q.2.1) ∧ W.cell? ((a.add (i * 3)).add 2) = some (.int .i64 q.2.2) := by
      intro i hi
      obtain ⟨cs', h1, h2⟩ := hx i (by omega)
      obtain ⟨_, hcl, hcell⟩ := World.cells?_some h1
      obtain ⟨f, l, c, hr, rfl⟩ := open_step hcl h2
      have e0 := hcell 0 (by omega)
      have e1 := hcell 1 (by omega)
      have e2 := hcell 2 (by omega)
      rw [Deep.add_add] at e0
      exact ⟨(f, l, c), hr, by simpa using e0, by simpa using e1, by simpa using e2⟩
    obtain ⟨q, hq⟩ := Deep.choose_lt each
    have hc0 := (hq 0 hlen).2.1
    obtain ⟨b, off, sp⟩ := a
    have hsp : sp = none := by
      have := spot_none hc0
      simpa [Addr.add] using this
    subst hsp
    refine ⟨fun i => if i < len then (q i).1 else 0, fun i => if i < len then (q i).2.1 else 0, fun i => (q i).2.2, fun i => ?_, fun k hk => ⟨b, off, rfl, ?_, ?_⟩⟩
    · by_cases hi : i < len
      · simp only [hi, if_true]
        exact (hq i hi).1
      · simp [hi]
    · have := World.block_lt_of_cell? W _ hc0
      simpa [Addr.add] using this
    · obtain ⟨_, r0, r1, r2⟩ := hq k hk
      rw [Addr.add_lit] at r0 r1 r2
      rw [Addr.add_lit] at r1 r2
      simp only [hk, if_true]
      exact ⟨r0, r1, r2⟩
end

set_option maxRecDepth 100000 in
theorem lifted (os : Os) (started : os.Started) (H : Type) (enc : TypeId × Value → H) :
    ReturnsInHanded {} Yba.checked os 3 .any (Rows.lawS5223AGateSpec.pre6 enc Yba.prog Yba.f3 Rows.lawS5223AGateRow.domain false) (Rows.lawS5223AGateSpec.post enc Yba.prog Yba.f3 false true false false) := by
  refine returnsInHanded_of_change (C := Yba.checked) own started (by kernel_rfl) Yba.func3
    (ChangeSpec.witness6 (enc := enc) (C := Yba.checked) false ⟨#[], #[.slice none 0 0, .bool false], []⟩ 8 (by kernel_rfl) (by kernel_rfl) (by kernel_rfl) (by kernel_rfl)) ?_
  intro W base args ds gs before hval0 hW hcnd _
  have hval : ∀ (j : Nat) t v, Yba.f3.params[j]? = some t → args[j]? = some v → Value.okWide Yba.prog W .any base t v := hval0
  have hW' := hW
  obtain ⟨p, q, hA0, hV, rfl, hfz, hnd⟩ := hW
  have hA : DataW.TrodAll enc Yba.prog W 0 (fun _ => true) true Yba.f3.params.toList args.toList ds p := hA0
  rw [Yba.params3] at hA hval
  obtain ⟨v0, vs0, d0, ds0, p0, q0, hargs, rfl, rfl, h0, r0⟩ := trodAll_cons hA
  obtain ⟨v1, vs1, d1, ds1, p1, q1, rfl, rfl, rfl, h1, r1⟩ := trodAll_cons r0
  obtain ⟨rfl, rfl, rfl⟩ := trodAll_nil r1
  obtain rfl : args = #[v0, v1] := by cases args; simp_all
  obtain ⟨rfl, rfl⟩ := trodVars_none hV
  obtain ⟨ao, len, cap, rfl⟩ := okWide_slice Yba.underlying22 (hval 0 22 v0 rfl rfl)
  obtain ⟨up, rfl, rfl, rfl⟩ := open_bool Yba.underlying4 (hval 1 4 v1 rfl rfl) h1
  have k0 := h0
  have lt0 : ∀ x ∈ p0, x.block < W.heap.size := by obtain ⟨m, hm⟩ := k0; exact DataW.trod_lt m _ _ _ hm
  obtain ⟨f0, hf0⟩ := h0
  have walk : Calls Yba.prog 3 #[.slice ao len cap, .bool up] W fun e w' => e = .returned (.bool true) ∧ Below W.heap.size W w' := by
    rcases Nat.lt_or_ge 1024 len with hbig | hsm
    · exact gate_long ao len cap up W hbig
    · obtain ⟨op, nd, T, h255, hops⟩ := open_steps (by simpa [Value.cells] using hf0)
      exact gate_run ao len cap up op nd T W hsm hops h255
  clear hA0 hval0
  refine walk.mono fun e W' ⟨he, bel⟩ => ?_
  subst he
  exact ⟨_, rfl, _, _, _, [], _, [], hW', trodAll_mk1 (shut_bool Yba.underlying4 _), (trodAll_cons_mk (Below.trod laidOut (by kernel_rfl) (of_decide_eq_true (by kernel_rfl)) k0 bel lt0) (trodAll_cons_mk (shut_bool Yba.underlying4 _) trodAll_mk0)), rfl, bel.frame _, fun h => by cases h⟩

/-- ████ THE STATEMENT ████ -/
theorem proved : Rows.LawS5223AGateSaid :=
  OpenClaim.holds_of_wide 3 Yba.f3 rfl rfl rfl rfl rfl rfl rfl ⟨rfl, rfl, rfl, rfl, rfl⟩ rfl rfl rfl rfl rfl (by kernel_rfl) Yba.func3 (by kernel_rfl)
    (of_decide_eq_true (by kernel_rfl)) (by unfold Func.isWrapper; first | (rw [if_pos (by decide +kernel)]; kernel_rfl) | (rw [if_neg (by decide +kernel)]; exact ⟨rfl, rfl⟩))
    (fun os started H enc _ => lifted os started H enc)
#print axioms proved
end Go.Proofs.Ybulkdddk.lawS5223AGate
