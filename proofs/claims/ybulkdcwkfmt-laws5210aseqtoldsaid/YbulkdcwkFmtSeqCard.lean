/-
  OWN WORK. The told card of 'LawS5210ASeq', out of its walks.
-/
import Derived.Test.YbulkdcwkFmtSeq
import Derived.Test.YbulkdcwkFmtCards
import Derived.ProofKit
import Derived.OpenShut
import Derived.Carry
import Derived.Deep.Strs
import Derived.Stop.JoinedAt
import Derived.Stop.JoinedTold
import Derived.SevenToldRow
namespace Go.Proofs.YbulkdcwkFmt.SeqCard
open Go.ChangeShapes Go.WideShapes Go.ChangeAt Go.RowKit
open Go.Extern.Stop Go.Stop Go.Extern

theorem own : ownKnob Ybaf.prog.godebug = Option.none := by kernel_rfl
theorem laidOut : laidOutB Ybaf.pinned.checked.prog = true := by kernel_rfl
theorem stopsAre : Ybaf.pinned.checked.prog.stops = Rows.lawS5210ASeqRow.stops := by kernel_rfl
theorem stopKnobsAre : Ybaf.pinned.checked.prog.stopKnobs = [] := by kernel_rfl
theorem quietAll (os : Os) : Stop.quiet Ybaf.pinned.checked.prog os := by
  intro k hk
  rw [stopKnobsAre] at hk
  cases hk
theorem cells49 : Ybaf.prog.cellsOf 49 = 3 := by kernel_rfl
theorem cells9 : Ybaf.prog.cellsOf 9 = 1 := by kernel_rfl
theorem cells3 : Ybaf.prog.cellsOf 3 = 1 := by kernel_rfl

section
variable {H : Type} {enc : TypeId × Value → H}

/-- A cell that is there lies at an address without a spot. -/
theorem spot_none {w : World} {a : Addr} {v : Value} (h : w.cell? a = some v) : a.spot = Option.none := by
  unfold World.cell? at h
  split at h
  · split at h
    · cases h
    · rename_i hs
      cases e : a.spot with
      | none => rfl
      | some x => simp [e] at hs
  · cases h

/-- One step of the script: its three cells. -/
theorem open_step {W : World} {n : Nat} {cs : List Value} {x : DataW H × List MemPlace} (hl : cs.length = 3) (h : DataW.trod enc Ybaf.prog W 0 (fun _ => true) true n 49 cs = some x) :
    ∃ (f : ByteArray) (l c : Int), cs = [.string f, .int .i64 l, .int .i64 c] := by
  obtain ⟨xs, k, hk, hxy, _, hxl, hf⟩ := DataW.trod_struct Ybaf.underlying49 h
  match xs, hxl, cs, hl with
  | [y0, y1, y2], _, [v0, v1, v2], _ =>
    have g0 := hf 0 _ rfl
    have g1 := hf 1 _ rfl
    have g2 := hf 2 _ rfl
    simp [cells9, cells3] at g0 g1 g2
    obtain ⟨s, e0, _⟩ := DataW.trod_string Ybaf.underlying9 g0
    obtain ⟨l, e1, _⟩ := DataW.trod_int Ybaf.underlying3 g1
    obtain ⟨c, e2, _⟩ := DataW.trod_int Ybaf.underlying3 g2
    simp at e0 e1 e2
    exact ⟨s, l, c, by rw [e0, e1, e2]⟩

/-- The script, opened. -/
theorem open_steps {W : World} {fuel len cap : Nat} {ao : Option Addr} {x : DataW H × List MemPlace} (h : DataW.trod enc Ybaf.prog W 0 (fun _ => true) true fuel 22 [.slice ao len cap] = some x) (hlen : 0 < len) :
    ∃ (b off : Nat) (fm : Nat → ByteArray) (ln cl : Nat → Int), ao = some ⟨b, off, Option.none⟩ ∧ b < W.heap.size ∧
      ∀ k, k < len → W.cell? ⟨b, off + k * 3, Option.none⟩ = some (.string (fm k)) ∧ W.cell? ⟨b, off + k * 3 + 1, Option.none⟩ = some (.int .i64 (ln k)) ∧ W.cell? ⟨b, off + k * 3 + 2, Option.none⟩ = some (.int .i64 (cl k)) := by
  rcases Deep.open_slice Ybaf.underlying22 h with ⟨hcs, _⟩ | ⟨a, len', cap', m, n, D, Pl, hcs, _, hl, _, hm, _, hx⟩
  · simp at hcs
    omega
  · simp only [List.cons.injEq, Value.slice.injEq, and_true] at hcs
    obtain ⟨rfl, rfl, rfl⟩ := hcs
    simp only [if_pos] at hm
    subst hm
    rw [cells49] at hx
    have each : ∀ i, i < len → ∃ q : ByteArray × Int × Int, W.cell? (a.add (i * 3)) = some (.string q.1) ∧ W.cell? ((a.add (i * 3)).add 1) = some (.int .i64 q.2.1) ∧ W.cell? ((a.add (i * 3)).add 2) = some (.int .i64 q.2.2) := by
      intro i hi
      obtain ⟨cs', h1, h2⟩ := hx i (by omega)
      obtain ⟨_, hcl, hcell⟩ := World.cells?_some h1
      obtain ⟨f, l, c, rfl⟩ := open_step hcl h2
      have e0 := hcell 0 (by omega)
      have e1 := hcell 1 (by omega)
      have e2 := hcell 2 (by omega)
      rw [Deep.add_add] at e0
      exact ⟨(f, l, c), by simpa using e0, by simpa using e1, by simpa using e2⟩
    obtain ⟨q, hq⟩ := Deep.choose_lt each
    have hc0 := (hq 0 hlen).1
    obtain ⟨b, off, sp⟩ := a
    have hsp : sp = Option.none := by
      have := spot_none hc0
      simpa [Addr.add] using this
    subst hsp
    refine ⟨b, off, fun i => (q i).1, fun i => (q i).2.1, fun i => (q i).2.2, rfl, ?_, fun k hk => ?_⟩
    · have := World.block_lt_of_cell? W _ hc0
      simpa [Addr.add] using this
    · obtain ⟨r0, r1, r2⟩ := hq k hk
      rw [Addr.add_lit] at r0 r1 r2
      rw [Addr.add_lit] at r1 r2
      exact ⟨r0, r1, r2⟩
end

set_option maxRecDepth 100000 in
theorem lifted (os : Os) (started : os.Started) (H : Type) (enc : TypeId × Value → H) :
    ReturnsInTold Option.none {} Ybaf.checked os 3 .any Input.okWide ((OpenSpec.ofChange Rows.lawS5210ASeqSpec).preRow enc Ybaf.prog Ybaf.f3 [] false []) (fun F => ((OpenSpec.ofChange Rows.lawS5210ASeqSpec).at F).post enc Ybaf.prog Ybaf.f3 false true false false) (aloneAtReturn Ybaf.prog) nothingAlways := by
  refine returnsInTold_of_row (C := Ybaf.checked) (s := OpenSpec.ofChange Rows.lawS5210ASeqSpec) (by kernel_rfl) own started (by kernel_rfl) Ybaf.func3
    (OpenSpec.witness_stopped (enc := enc) (C := Ybaf.checked) false ⟨#[], #[.slice Option.none 0 0], []⟩ 8 (by kernel_rfl) (by kernel_rfl) (by kernel_rfl) (by kernel_rfl)) ?_
  intro F W base args ds gs before _ hF hval0 hW _ _ _ _ _
  have hval : ∀ (j : Nat) t v, Ybaf.f3.params[j]? = some t → args[j]? = some v → Value.okWide Ybaf.prog W .any base t v := hval0
  have hW' := hW
  obtain ⟨p, q, hA0, hV, rfl, hfz, hnd⟩ := hW
  have hA : DataW.TrodAll enc Ybaf.prog W 0 (fun _ => true) true Ybaf.f3.params.toList args.toList ds p := hA0
  rw [Ybaf.params3] at hA hval
  obtain ⟨v0, vs0, d0, ds0, p0, q0, hargs, rfl, rfl, h0, r0⟩ := trodAll_cons hA
  obtain ⟨rfl, rfl, rfl⟩ := trodAll_nil r0
  obtain rfl : args = #[v0] := by cases args; simp_all
  obtain ⟨rfl, rfl⟩ := trodVars_none hV
  obtain ⟨a0, len0, cap0, rfl⟩ := okWide_slice Ybaf.underlying22 (hval 0 22 v0 rfl rfl)
  have k0 := h0
  have lt0 : ∀ x ∈ p0, x.block < W.heap.size := by obtain ⟨m, hm⟩ := k0; exact DataW.trod_lt m _ _ _ hm
  have walk : Calls Ybaf.prog 3 #[.slice a0 len0 cap0] W fun e w' => e = .returned (.bool true) ∧ Below W.heap.size W w' := by
    rcases Nat.lt_or_ge 1024 len0 with hbig | hsm
    · exact seq_long a0 len0 cap0 W hbig
    · rcases Nat.eq_zero_or_pos len0 with hz | hp
      · subst hz
        exact seq_empty a0 cap0 W
      · obtain ⟨fuel, hf⟩ := h0
        obtain ⟨b, off, fm, ln, cl, rfl, hb, hc⟩ := open_steps (by simpa [Value.cells] using hf) hp
        exact seq_walk F.told b off len0 cap0 fm ln cl W hF hsm hb hc
  clear hA0 hval0
  refine walk.mono fun e W' ⟨he, bel⟩ => ?_
  subst he
  refine ⟨_, rfl, _, _, _, [], p0 ++ [], [], hW', ?_, ?_, rfl, bel.frame _, fun h => by cases h⟩
  · exact trodAll_mk1 (shut_bool Ybaf.underlying4 _)
  · exact trodAll_cons_mk (Below.trod laidOut (by kernel_rfl) (of_decide_eq_true (by kernel_rfl)) k0 bel lt0) trodAll_mk0

/-- ████ THE STATEMENT ████ -/
theorem proved : Rows.LawS5210ASeqToldSaid :=
  Claim7.holds_of_told_any 3 Ybaf.f3 _ _ [] _ _ _ (by kernel_rfl) rfl rfl rfl laidOut (by kernel_rfl) rfl ⟨rfl, rfl, rfl, rfl, rfl, rfl, rfl⟩ rfl rfl (by kernel_rfl) (by kernel_rfl) Ybaf.func3 (by kernel_rfl)
    (of_decide_eq_true (by kernel_rfl)) (by unfold Func.isWrapper; first | (rw [if_pos (by decide +kernel)]; kernel_rfl) | (rw [if_neg (by decide +kernel)]; exact ⟨rfl, rfl⟩)) stopsAre.symm rfl stopKnobsAre.symm (by kernel_rfl)
    (by kernel_rfl) (by kernel_rfl) (by kernel_rfl) (by kernel_rfl) (by kernel_rfl) (by kernel_rfl) (by kernel_rfl) (by kernel_rfl) (by kernel_rfl) rfl (by kernel_rfl) rfl rfl
    rfl rfl
    rfl (by kernel_rfl) (by kernel_rfl) (by kernel_rfl) (by decide) (by kernel_rfl)
    (OpenClaim.moreEntering_of (by kernel_rfl) (by kernel_rfl) (by kernel_rfl) (by kernel_rfl) (by kernel_rfl) (by kernel_rfl) (by kernel_rfl) (by kernel_rfl) (by kernel_rfl) (by kernel_rfl))
    ⟨_, WideRow.started_initial, quietAll _⟩
    (fun os started _ H enc _ => lifted os started H enc)
#print axioms proved
end Go.Proofs.YbulkdcwkFmt.SeqCard
