/-
  OWN WORK. '(*knowledge).set'.
-/
import Derived.Test.YbulkdcyaBase
namespace Go.Proofs.Ybulkdcya
open Go.RowKit

def upd (e : Nat → Int) (k : Nat) (v : Int) : Nat → Int := fun j => if j = k then v else e j

section
variable {w w' : World} {B mb n lb wb : Nat} {e : Nat → Int}

theorem Kn0.mb_lt (h : Kn0 w B mb n lb e) : mb < w.heap.size := World.block_lt_of_cell? w _ h.c0

/-- The bytes behind a store. -/
theorem low_upd (h : RowI w lb 5 .u8 (n * n) (fun i => min (e i) 127)) (k : Nat) (seq : Int) : RowI (w.setCell ⟨lb, k, none⟩ (.int .u8 (min seq 127))) lb 5 .u8 (n * n) (fun i => min (upd e k seq i) 127) := by
  refine (h.set k (min seq 127)).congr fun i _ => ?_
  unfold upd
  by_cases hi : i = k
  · simp [hi]
  · simp [hi]

theorem upd_rng (h : ∀ i, 0 ≤ e i ∧ e i ≤ 65535) {k : Nat} {seq : Int} (h0 : 0 ≤ seq) (h1 : seq ≤ 65535) : ∀ i, 0 ≤ upd e k seq i ∧ upd e k seq i ≤ 65535 := by
  intro i
  unfold upd
  split
  · exact ⟨h0, h1⟩
  · exact h i

theorem KnL.set (h : KnL w B mb n lb e) {k : Nat} {seq : Int} (h0 : 0 ≤ seq) (h1 : seq ≤ 127) : KnL (w.setCell ⟨lb, k, none⟩ (.int .u8 seq)) B mb n lb (upd e k seq) := by
  have hne : ∀ o, (⟨mb, o, none⟩ : Addr) ≠ ⟨lb, k, none⟩ := fun o e' => by
    have := congrArg Addr.block e'
    exact h.ne this.symm
  have hc : ∀ o, (w.setCell ⟨lb, k, none⟩ (.int .u8 seq)).cell? ⟨mb, o, none⟩ = w.cell? ⟨mb, o, none⟩ := fun o => World.cell?_of_block (a := ⟨mb, o, none⟩) (Below.heap_setCell _ _ _ _ (fun e' => h.ne e'.symm))
  have hf : (w.setCell ⟨lb, k, none⟩ (.int .u8 seq)).frozen? ⟨mb, 2, none⟩ = w.frozen? ⟨mb, 2, none⟩ := World.frozen?_of_block (a := ⟨mb, 2, none⟩) (Below.heap_setCell _ _ _ _ (fun e' => h.ne e'.symm))
  have em : min seq 127 = seq := by omega
  have hl := low_upd h.low k seq
  rw [em] at hl
  refine ⟨⟨(hc 0).trans h.c0, (hc 1).trans h.c1, hf.trans h.f2, hl, upd_rng h.rng h0 (by omega), h.ne, h.hn, h.Bm, h.Bl⟩, (hc 2).trans h.c2, fun i hi => ?_⟩
  unfold upd
  split
  · exact h1
  · exact h.small i hi

theorem KnW.set (h : KnW w B mb n lb wb e) {k : Nat} {seq : Int} (h0 : 0 ≤ seq) (h1 : seq ≤ 65535) : KnW ((w.setCell ⟨lb, k, none⟩ (.int .u8 (min seq 127))).setCell ⟨wb, k, none⟩ (.int .i64 seq)) B mb n lb wb (upd e k seq) := by
  have hb : ∀ j, j ≠ lb → j ≠ wb → ((w.setCell ⟨lb, k, none⟩ (.int .u8 (min seq 127))).setCell ⟨wb, k, none⟩ (.int .i64 seq)).heap[j]? = w.heap[j]? := fun j h1 h2 => (Below.heap_setCell _ _ _ _ h2).trans (Below.heap_setCell _ _ _ _ h1)
  have hm := hb mb (fun e' => h.ne e'.symm) (fun e' => h.new e'.symm)
  refine ⟨⟨(World.cell?_of_block (a := ⟨mb, 0, none⟩) hm).trans h.c0, (World.cell?_of_block (a := ⟨mb, 1, none⟩) hm).trans h.c1, (World.frozen?_of_block (a := ⟨mb, 2, none⟩) hm).trans h.f2, ?_, upd_rng h.rng h0 h1, h.ne, h.hn, h.Bm, h.Bl⟩, (World.cell?_of_block (a := ⟨mb, 2, none⟩) hm).trans h.c2, h.pos, ?_, h.new, h.nel, h.Bw⟩
  · exact (low_upd h.low k seq).kept (Below.heap_setCell _ _ _ _ (fun e' => h.nel e'.symm))
  · exact (h.whole.kept (Below.heap_setCell _ _ _ _ h.nel)).set k seq
end

set_option maxHeartbeats 400000 in
theorem set_L (B mb n lb k : Nat) (seq : Int) (e : Nat → Int) (w : World) (h : KnL w B mb n lb e) (hk : k < n * n) (h0 : 0 ≤ seq) (h1 : seq ≤ 127) :
    Calls Yba.prog 6 #[.pointer (some ⟨mb, 0, none⟩), .int .i64 k, .int .i64 seq] w fun r w' => r = .returned (.tuple #[]) ∧ Kn w' B mb n lb (upd e k seq) ∧ Below B w w' := by
  have c1 := h.c1
  have c2 := h.c2
  have g := h.low.cell hk
  have gf := h.low.frozen k
  have hN := sq_le h.hn
  have em : min seq 127 = seq := by omega
  have ne := h.ne
  have HK := hid_of h
  clear h
  generalize hNN : n * n = N at *
  go_enter Yba.func6, Yba.ntmps6
  go_wp2
  go_end0
  refine ⟨rfl, .inl ?_, ?_⟩
  · exact HK.out.set h0 h1
  · exact (Below.refl _ _).setCell HK.out.Bl _

set_option maxHeartbeats 400000 in
theorem set_W (B mb n lb wb k : Nat) (seq : Int) (e : Nat → Int) (w : World) (h : KnW w B mb n lb wb e) (hk : k < n * n) (h0 : 0 ≤ seq) (h1 : seq ≤ 65535) :
    Calls Yba.prog 6 #[.pointer (some ⟨mb, 0, none⟩), .int .i64 k, .int .i64 seq] w fun r w' => r = .returned (.tuple #[]) ∧ Kn w' B mb n lb (upd e k seq) ∧ Below B w w' := by
  have c1 := h.c1
  have c2 := h.c2
  have g := h.low.cell hk
  have gf := h.low.frozen k
  have g2 := h.whole.cell hk
  have gf2 := h.whole.frozen k
  have hN := sq_le h.hn
  have hp := h.pos
  have ne := h.ne
  have new := h.new
  have nel := h.nel
  have HK := hid_of h
  have hne0 : ((n * n : Nat) : Int) ≠ 0 := by omega
  clear h
  generalize hNN : n * n = N at *
  have hz : ((N : Int) == 0) = false := beq_eq_false_iff_ne.2 (by omega)
  go_enter Yba.func6, Yba.ntmps6
  go_wp2
  all_goals
    go_end0
    refine ⟨rfl, .inr ⟨wb, ?_⟩, ?_⟩
    · have hset := HK.out.set (k := k) h0 h1
      first
        | (rw [show min seq 127 = 127 by omega] at hset; exact hset)
        | (rw [show min seq 127 = seq by omega] at hset; exact hset)
    · exact ((Below.refl _ _).setCell HK.out.Bl _).setCell HK.out.Bw _

theorem info3 : (Yba.prog.info? 3).map (fun i => (i.zero, i.size, i.bytes)) = some (some (.int .i64 0), 1, 8) := by kernel_rfl
theorem info5 : (Yba.prog.info? 5).map (fun i => (i.zero, i.size, i.bytes)) = some (some (.int .u8 0), 1, 1) := by kernel_rfl

theorem grown_setCell (W : World) (b o : Nat) (v : Value) : W.grownBy (W.setCell ⟨b, o, none⟩ v) (some b) :=
  ⟨rfl, rfl, rfl, by simp [World.setCell], fun k _ hk => Below.heap_setCell _ _ _ k (fun e => hk (by rw [e]))⟩

/-- A row that was just made, of zeros. -/
theorem RowI.made {w : World} {base b t : Nat} {k : IntKind} {N : Nat} (h : w.ownsRow base t 1 (.slice (some ⟨b, 0, none⟩) N N) N (madeCells #[Value.int k 0] N).toList) : RowI w b t k N (fun _ => 0) := by
  rcases h.2 with ⟨h1, _⟩ | ⟨g, cap, cur, hv, _, hg, _, _, hs, ht⟩
  · simp at h1
  · simp at hv
    obtain ⟨rfl, rfl⟩ := hv
    refine ⟨cur, hg, by omega, fun i hi => ?_⟩
    have e1 : (cur.toList.take (N * 1))[i]? = cur[i]? := by simp [show i < N by omega]
    rw [← e1, ht, toList_madeCells_one]
    simp [hi]

/-- Half way: the first j entries are copied. -/
theorem RowI.copy {w : World} {b t : Nat} {k : IntKind} {N : Nat} {e : Nat → Int} {j : Nat} (h : RowI w b t k N (fun i => if i < j then e i else 0)) : RowI (w.setCell ⟨b, j, none⟩ (.int k (e j))) b t k N (fun i => if i < j + 1 then e i else 0) := by
  refine (h.set j (e j)).congr fun i _ => ?_
  by_cases h1 : i = j
  · subst h1; simp
  · by_cases h2 : i < j
    · simp [h1, h2, show i < j + 1 by omega]
    · simp [h1, h2, show ¬ i < j + 1 by omega]

/-- Behind the making of 'whole': what every later world of the copying is. -/
theorem KnL.toW {w w1 : World} {B mb n lb : Nat} {e : Nat → Int} (h : KnL w B mb n lb e) (hg : w.grownBy w1 none) (hp : 0 < n * n) (hB : B ≤ w.heap.size) :
    ∀ W, (w1.setCell ⟨mb, 2, none⟩ (.slice (some ⟨w.heap.size, 0, none⟩) (n * n) (n * n))).grownBy W (some w.heap.size) →
      (W.cell? ⟨mb, 2, none⟩ = some (.slice (some ⟨w.heap.size, 0, none⟩) (n * n) (n * n)) ∧ W.cell? ⟨mb, 1, none⟩ = some (.slice (some ⟨lb, 0, none⟩) (n * n) (n * n)) ∧ RowI W lb 5 .u8 (n * n) (fun i => min (e i) 127) ∧ Below B w W) ∧
      (RowI W w.heap.size 3 .i64 (n * n) e → KnW W B mb n lb w.heap.size e) := by
  intro W hW
  have hml := h.mb_lt
  have hll := h.low.lt
  have hs : (w1.setCell ⟨mb, 2, none⟩ (.slice (some ⟨w.heap.size, 0, none⟩) (n * n) (n * n))).heap.size = w1.heap.size := by simp [World.setCell]
  have hsz := hg.size
  have hm : W.heap[mb]? = (w1.setCell ⟨mb, 2, none⟩ (.slice (some ⟨w.heap.size, 0, none⟩) (n * n) (n * n))).heap[mb]? := hW.block mb (by omega) (by simp; omega)
  have hl : W.heap[lb]? = w.heap[lb]? := (hW.block lb (by omega) (by simp; omega)).trans ((Below.heap_setCell _ _ _ _ h.ne).trans (hg.block lb hll (by simp)))
  have hm1 : w1.heap[mb]? = w.heap[mb]? := hg.block mb hml (by simp)
  have e2 : W.cell? ⟨mb, 2, none⟩ = some (.slice (some ⟨w.heap.size, 0, none⟩) (n * n) (n * n)) := by
    rw [World.cell?_of_block (a := ⟨mb, 2, none⟩) hm, World.cell?_setCell_same' _ _ _ (by rw [World.cell?_of_block (a := ⟨mb, 2, none⟩) hm1, h.c2]; rfl)]
  have e0 : W.cell? ⟨mb, 0, none⟩ = some (.int .i64 n) := by
    rw [World.cell?_of_block (a := ⟨mb, 0, none⟩) hm, World.cell?_setCell_other _ _ _ _ (by simp), World.cell?_of_block (a := ⟨mb, 0, none⟩) hm1, h.c0]
  have e1 : W.cell? ⟨mb, 1, none⟩ = some (.slice (some ⟨lb, 0, none⟩) (n * n) (n * n)) := by
    rw [World.cell?_of_block (a := ⟨mb, 1, none⟩) hm, World.cell?_setCell_other _ _ _ _ (by simp), World.cell?_of_block (a := ⟨mb, 1, none⟩) hm1, h.c1]
  have ef : W.frozen? ⟨mb, 2, none⟩ = false := by
    rw [World.frozen?_of_block (a := ⟨mb, 2, none⟩) hm]
    have := World.frozen?_of_block (a := ⟨mb, 2, none⟩) hm1
    rw [h.f2] at this
    simpa using this
  refine ⟨⟨e2, e1, h.low.kept hl, ?_⟩, fun hr => ⟨⟨e0, e1, ef, h.low.kept hl, h.rng, h.ne, h.hn, h.Bm, h.Bl⟩, e2, hp, hr, by omega, by omega, hB⟩⟩
  refine ((Below.refl B w).grown hg hB (fun k hk => by cases hk)).trans ((Below.setCell (p := ⟨mb, 2, none⟩) (Below.refl _ w1) h.Bm (.slice (some ⟨w.heap.size, 0, none⟩) (n * n) (n * n))).trans ?_)
  exact (Below.refl _ _).grown hW (by omega) (fun k hk => by cases hk; exact hB)

set_option maxRecDepth 100000 in
set_option maxHeartbeats 1000000 in
theorem set_LW (B mb n lb k : Nat) (seq : Int) (e : Nat → Int) (w : World) (h : KnL w B mb n lb e) (hk : k < n * n) (h0 : 127 < seq) (h1 : seq ≤ 65535) (hBw : B ≤ w.heap.size) :
    Calls Yba.prog 6 #[.pointer (some ⟨mb, 0, none⟩), .int .i64 k, .int .i64 seq] w fun r w' => r = .returned (.tuple #[]) ∧ Kn w' B mb n lb (upd e k seq) ∧ Below B w w' := by
  have c1 := h.c1
  have c2 := h.c2
  have hml := h.mb_lt
  have f2 := h.f2
  have hN := sq_le h.hn
  have HK := hid_of h
  clear h
  generalize hNN : n * n = N at *
  obtain ⟨i3, hi, hz0, hz1, hz2⟩ := info_parts info3
  go_enter Yba.func6, Yba.ntmps6
  go_wp2_with (at_make; refine wpList_make_full _ rfl _ _ 23 rfl w.heap.size 3 i3 _ 1 Yba.underlying23 hi hz0 hz1 _ _ _ _ N rfl rfl rfl rfl (by rw [hz2]; omega) (by unfold maxLen; omega) (Nat.le_refl _) ?_)
  intro w1 hown hgrow
  have hrow := RowI.made hown
  have d1 : w1.cell? ⟨mb, 1, none⟩ = some (.slice (some ⟨lb, 0, none⟩) N N) := hgrow.cell c1 (by simp)
  have d2 : w1.cell? ⟨mb, 2, none⟩ = some (.slice none 0 0) := hgrow.cell c2 (by simp)
  have df : w1.frozen? ⟨mb, 2, none⟩ = false := (World.frozen?_of_block (a := ⟨mb, 2, none⟩) (hgrow.block mb hml (by simp))).trans f2
  have HR := hid_of hrow
  have HG := hid_of hgrow
  clear hown hgrow hrow c1 c2 f2
  go_wp2_with fail
  have HT := hid_of (HK.out.toW HG.out (by omega) hBw)
  rw [hNN] at HT
  have hr0 : RowI (w1.setCell ⟨mb, 2, none⟩ (.slice (some ⟨w.heap.size, 0, none⟩) N N)) w.heap.size 3 .i64 N (fun i => if i < 0 then e i else 0) := (HR.out.congr (fun i _ => by simp)).kept (Below.heap_setCell _ _ _ _ (by simp; omega))
  have HR0 := hid_of hr0
  clear hr0 HR d1 d2 df
  have hsz1 : w.heap.size < w1.heap.size := HR0.out.lt |> fun h => by simpa [World.setCell] using h
  generalize hw2 : w1.setCell ⟨mb, 2, none⟩ (.slice (some ⟨w.heap.size, 0, none⟩) N N) = w2 at HT HR0 ⊢
  clear hw2 HG
  generalize hwb : w.heap.size = wb at *
  go_loopg [32] N (fun gk jv W => ∃ (j : Nat), j ≤ N ∧ gk = N - j ∧ jv = .int .i64 j ∧ Hid (w2.grownBy W (some wb)) ∧ Hid (RowI W wb 3 .i64 N (fun i => if i < j then e i else 0)))
  case atStart => exact ⟨0, Nat.zero_le _, rfl, rfl, World.grownBy.refl _ _, HR0⟩
  case round =>
    obtain ⟨j, hj, hgk, rfl, HGj, HRj⟩ := hrel
    obtain ⟨⟨t2, t1, tl, _⟩, _⟩ := HT.out wr HGj.out
    by_cases hlt : j < N
    · have tc := tl.cell hlt
      have wc := HRj.out.cell hlt
      have wf := HRj.out.frozen j
      have hs := HK.out.small j (by omega)
      have hr := (HK.out.rng j).1
      have em : min (e j) 127 = e j := by omega
      rw [em] at tc
      clear em tl t1
      go_wp2_with fail
      go_roundg (N - (j + 1))
      · refine ⟨j + 1, by omega, rfl, ?_, ?_, ?_⟩
        · rfl
        · exact HGj.out.trans (grown_setCell _ _ _ _)
        · exact HRj.out.copy
      · omega
    · have hjN : j = N := by omega
      subst hjN
      have hW := (HT.out wr HGj.out).2 (HRj.out.congr fun i hi => if_pos hi)
      have hBW := (HT.out wr HGj.out).1.2.2.2
      have c1 := hW.c1
      have c2 := hW.c2
      rw [hNN] at c1 c2
      have g := hW.low.cell (by rw [hNN]; exact hk)
      have gf := hW.low.frozen k
      have g2 := hW.whole.cell (by rw [hNN]; exact hk)
      have gf2 := hW.whole.frozen k
      have ne := hW.ne
      have new := hW.new
      have nel := hW.nel
      have HW := hid_of hW
      have HBW := hid_of hBW
      clear hW hBW t2 t1 tl hwb hml hsz1
      go_wp2_with fail
      all_goals
        go_end0
        refine ⟨rfl, .inr ⟨wb, ?_⟩, ?_⟩
        · have hset := HW.out.set (k := k) (seq := seq) (by omega) h1
          rw [show min seq 127 = 127 by omega] at hset
          exact hset
        · exact HBW.out.trans (((Below.refl _ _).setCell HW.out.Bl _).setCell HW.out.Bw _)

theorem set_any (B mb n lb k : Nat) (seq : Int) (e : Nat → Int) (w : World) (h : Kn w B mb n lb e) (hk : k < n * n) (h0 : 0 ≤ seq) (h1 : seq ≤ 65535) (hB : B ≤ w.heap.size) :
    Calls Yba.prog 6 #[.pointer (some ⟨mb, 0, none⟩), .int .i64 k, .int .i64 seq] w fun r w' => r = .returned (.tuple #[]) ∧ Kn w' B mb n lb (upd e k seq) ∧ Below B w w' := by
  rcases h with h | ⟨wb, h⟩
  · by_cases hs : seq ≤ 127
    · exact set_L B mb n lb k seq e w h hk h0 hs
    · exact set_LW B mb n lb k seq e w h hk (by omega) h1 hB
  · exact set_W B mb n lb wb k seq e w h hk h0 h1

end Go.Proofs.Ybulkdcya
