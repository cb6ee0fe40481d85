/-
  OWN WORK. The parser's state along a script of 'warn' calls, and 'warn' in the two forms that the loop takes: a message is added, or none is.
-/
import Derived.Test.YbulkdcwkFmtWarn
import Derived.WalkSmall
namespace Go.Proofs.YbulkdcwkFmt
open Go.RowKit Go.Extern.Stop Go.Stop Go.Extern

structure Fresh (w : World) (pb B : Nat) : Prop where
  pbB : pb < B
  hB : B ≤ w.heap.size
  c10 : w.cell? ⟨pb, 1061, Option.none⟩ = some (.slice Option.none 0 0)
  f10 : w.frozen? ⟨pb, 1061, Option.none⟩ = false
  c11 : w.cell? ⟨pb, 1062, Option.none⟩ = some (.map Option.none)
  f11 : w.frozen? ⟨pb, 1062, Option.none⟩ = false

/-- The parser has recorded the messages ms; the cells of its warnings are xs. -/
def Pst (w : World) (pb B : Nat) (ms : List ByteArray) (xs : List Value) : Prop :=
  (Fresh w pb B ∧ ms = [] ∧ xs = []) ∨ ∃ so cap mb, St w pb B so cap mb ms xs ∧ B ≤ mb

/-- Cell 5k+4 holds the k-th message. -/
def Good (ms : List ByteArray) (xs : List Value) : Prop := ∀ k m, ms[k]? = some m → xs[5 * k + 4]? = some (.string m)

theorem Good.nil : Good [] [] := fun k m h => by simp at h

theorem Good.append {ms : List ByteArray} {xs : List Value} (h : Good ms xs) (hl : xs.length = ms.length * 5) (m : ByteArray) (a b c d : Value) : Good (ms ++ [m]) (xs ++ [a, b, c, d, .string m]) := by
  intro k m' hk
  by_cases hlt : k < ms.length
  · rw [List.getElem?_append_left hlt] at hk
    rw [List.getElem?_append_left (by omega)]
    exact h k m' hk
  · have hk2 : k = ms.length := by
      have := (List.getElem?_eq_some_iff.1 hk).1
      simp at this
      omega
    subst hk2
    simp at hk
    subst hk
    rw [List.getElem?_append_right (by omega)]
    rw [show 5 * ms.length + 4 - xs.length = 4 by omega]
    rfl

theorem fresh_two {w : World} {pb B : Nat} (h : Fresh w pb B) (o1 o2 : Obj) : Fresh ((w.alloc o1).alloc o2) pb B := by
  have hp : pb < w.heap.size := Nat.lt_of_lt_of_le h.pbB h.hB
  have hb : ((w.alloc o1).alloc o2).heap[pb]? = w.heap[pb]? := (Below.heap_alloc _ _ _ (by simp; omega)).trans (Below.heap_alloc _ _ _ hp)
  exact ⟨h.pbB, by have := h.hB; simp; omega, (World.cell?_of_block hb).trans h.c10, (World.frozen?_of_block hb).trans h.f10, (World.cell?_of_block hb).trans h.c11, (World.frozen?_of_block hb).trans h.f11⟩

theorem st_two {w : World} {pb B cap mb : Nat} {so : Option Addr} {ms : List ByteArray} {xs : List Value} (h : St w pb B so cap mb ms xs) (o1 o2 : Obj) : St ((w.alloc o1).alloc o2) pb B so cap mb ms xs := by
  have hp := h.pb_lt
  have hb : ((w.alloc o1).alloc o2).heap[pb]? = w.heap[pb]? := (Below.heap_alloc _ _ _ (by simp; omega)).trans (Below.heap_alloc _ _ _ hp)
  exact ⟨h.pbB, by have := h.hB; simp; omega, (World.cell?_of_block hb).trans h.c10, (World.frozen?_of_block hb).trans h.f10, (World.cell?_of_block hb).trans h.c11, (h.row.alloc o1).alloc o2,
    h.map.kept ((Below.heap_alloc _ _ _ (by have := h.map.lt; simp; omega)).trans (Below.heap_alloc _ _ _ h.map.lt))⟩

theorem Pst.len {w : World} {pb B : Nat} {ms : List ByteArray} {xs : List Value} (h : Pst w pb B ms xs) : xs.length = ms.length * 5 := by
  rcases h with ⟨_, rfl, rfl⟩ | ⟨so, cap, mb, h, _⟩
  · rfl
  · exact h.row.1

theorem Pst.c10 {w : World} {pb B : Nat} {ms : List ByteArray} {xs : List Value} (h : Pst w pb B ms xs) : ∃ so cap, w.cell? ⟨pb, 1061, Option.none⟩ = some (.slice so ms.length cap) := by
  rcases h with ⟨h, rfl, rfl⟩ | ⟨so, cap, mb, h, _⟩
  · exact ⟨_, _, h.c10⟩
  · exact ⟨_, _, h.c10⟩

theorem Pst.pb_lt {w : World} {pb B : Nat} {ms : List ByteArray} {xs : List Value} (h : Pst w pb B ms xs) : pb < w.heap.size := by
  rcases h with ⟨h, rfl, rfl⟩ | ⟨so, cap, mb, h, _⟩
  · exact Nat.lt_of_lt_of_le h.pbB h.hB
  · exact h.pb_lt

/-- What stands behind a call of 'warn' that began in w0 with two boxes o1, o2 on top. -/
structure Aft (w0 w' : World) (o1 o2 : Obj) (pb B g cap mb : Nat) (ms : List ByteArray) (xs : List Value) : Prop where
  st : St w' pb B (some ⟨g, 0, Option.none⟩) cap mb ms xs
  hmb : B ≤ mb
  below : Below pb w0 w'
  size : w0.heap.size + 2 ≤ w'.heap.size
  kept : ∀ k, w0.heap.size ≤ k → k < w0.heap.size + 2 → w'.heap[k]? = ((w0.alloc o1).alloc o2).heap[k]?

theorem two_below {w : World} {pb : Nat} (o1 o2 : Obj) (hp : pb < w.heap.size) : Below pb w ((w.alloc o1).alloc o2) :=
  ((Below.refl _ _).alloc (Nat.le_of_lt hp) o1).alloc (by simp; omega) o2

theorem warn_add (F : Interp) (pb B : Nat) (ms : List ByteArray) (xs : List Value) (f fn : ByteArray) (o l c : Int) (w0 : World) (o1 o2 : Obj) (hF : F.answers w0.tape)
    (hP : Pst w0 pb B ms xs) (hs : msgOf F f ∉ ms) (hbound : ms.length ≤ 100000) :
    Calls Ybaf.prog 5 #[.pointer (some ⟨pb, 0, Option.none⟩), .agg #[.string fn, .int .i64 o, .int .i64 l, .int .i64 c], .string f, .slice Option.none 0 0] ((w0.alloc o1).alloc o2) fun e w' => e = .returned (.tuple #[]) ∧
      ∃ g cap mb, Aft w0 w' o1 o2 pb B g cap mb (ms ++ [msgOf F f]) (xs ++ [.string fn, .int .i64 o, .int .i64 l, .int .i64 c, .string (msgOf F f)]) := by
  have hp := hP.pb_lt
  have hsz : ((w0.alloc o1).alloc o2).heap.size = w0.heap.size + 2 := by simp
  have hbel := two_below o1 o2 hp
  rcases hP with ⟨h, rfl, rfl⟩ | ⟨so, cap, mb, h, hmb⟩
  · have h2 := fresh_two h o1 o2
    refine (warn_first F pb B f fn o l c _ (by exact hF) h2.pbB h2.hB h2.c10 h2.f10 h2.c11 h2.f11).mono ?_
    rintro e w' ⟨rfl, g, cap', mb', hst, hkp, hmb⟩
    have hB := h.hB
    rw [hsz] at hmb
    refine ⟨rfl, g, cap', mb', hst, by omega, hbel.trans ⟨hkp.os, hkp.tape, hkp.output, hkp.size, fun k hk => hkp.block k (by omega) (by omega) (by omega) (by simp)⟩, by have := hkp.size; omega, fun k h1 h2 => hkp.block k (by omega) (by omega) (by omega) (by simp)⟩
  · have h2 := st_two h o1 o2
    refine (warn_new F pb B cap mb so ms xs f fn o l c _ (by exact hF) h2 hs hbound).mono ?_
    rintro e w' ⟨rfl, g, cap', hst, hkp⟩
    have hrb := h.rb_ge
    have hml := h.map.lt
    have hpB := h.pbB
    refine ⟨rfl, g, cap', mb, hst, hmb, hbel.trans ⟨hkp.os, hkp.tape, hkp.output, hkp.size, fun k hk => hkp.block k (by omega) (by omega) (by omega) (fun e => by have := (hrb k e.symm).1; omega)⟩, by have := hkp.size; omega,
      fun k h1 h2 => hkp.block k (by omega) (by omega) (by omega) (fun e => by have := (hrb k e.symm).2; omega)⟩

theorem warn_keep (F : Interp) (pb B : Nat) (ms : List ByteArray) (xs : List Value) (f fn : ByteArray) (o l c : Int) (w0 : World) (o1 o2 : Obj) (hF : F.answers w0.tape)
    (hP : Pst w0 pb B ms xs) (hs : msgOf F f ∈ ms) :
    Calls Ybaf.prog 5 #[.pointer (some ⟨pb, 0, Option.none⟩), .agg #[.string fn, .int .i64 o, .int .i64 l, .int .i64 c], .string f, .slice Option.none 0 0] ((w0.alloc o1).alloc o2) fun e w' => e = .returned (.tuple #[]) ∧
      ∃ g cap mb, Aft w0 w' o1 o2 pb B g cap mb ms xs := by
  have hp := hP.pb_lt
  have hsz : ((w0.alloc o1).alloc o2).heap.size = w0.heap.size + 2 := by simp
  have hbel := two_below o1 o2 hp
  rcases hP with ⟨h, rfl, rfl⟩ | ⟨so, cap, mb, h, hmb⟩
  · simp at hs
  · have h2 := st_two h o1 o2
    refine (warn_old F pb B cap mb so ms xs f fn o l c _ (by exact hF) h2 hs).mono ?_
    rintro e w' ⟨rfl, hst, hb⟩
    obtain ⟨g, hg⟩ : ∃ g, so = some ⟨g, 0, Option.none⟩ := by
      rcases hst.row.2 with ⟨_, h0⟩ | ⟨g, cap', cur, hv, _⟩
      · have : ms = [] := List.eq_nil_of_length_eq_zero h0
        rw [this] at hs
        simp at hs
      · simp at hv
        exact ⟨g, hv.1⟩
    subst hg
    refine ⟨rfl, g, cap, mb, hst, hmb, hbel.trans (hb.mono (by omega)), by have := hb.size; omega, fun k h1 h2 => hb.block k (by omega)⟩


/-! ### what the walk reads behind a call -/

theorem St.below {w W : World} {pb B cap mb : Nat} {so : Option Addr} {ms : List ByteArray} {xs : List Value} (h : St w pb B so cap mb ms xs) (hb : Below w.heap.size w W) : St W pb B so cap mb ms xs := by
  have e := hb.block pb h.pb_lt
  refine ⟨h.pbB, Nat.le_trans h.hB hb.size, (World.cell?_of_block e).trans h.c10, (World.frozen?_of_block e).trans h.f10, (World.cell?_of_block e).trans h.c11, ⟨h.row.1, ?_⟩, h.map.kept (hb.block mb h.map.lt)⟩
  rcases h.row.2 with h1 | ⟨g, c, cur, hv, hg, hh, r⟩
  · exact .inl h1
  · exact .inr ⟨g, c, cur, hv, hg, (hb.block g (Array.getElem?_eq_some_iff.1 hh).1).trans hh, r⟩

/-- What holds at the head of round i. -/
def Inv (F : Interp) (fm : Nat → ByteArray) (w wr : World) (i : Nat) : Prop :=
  Below w.heap.size w wr ∧ ∃ ms xs, Pst wr w.heap.size (w.heap.size + 1) ms xs ∧ Good ms xs ∧ (∀ j, j < i → msgOf F (fm j) ∈ ms) ∧ ms.length ≤ i ∧ (i = 0 → ms = [])

/-- The next round's head, whatever was made or drawn on top. -/
theorem Aft.next {F : Interp} {fm : Nat → ByteArray} {w w0 w2 : World} {i : Nat} {o1 o2 : Obj} {g cap mb : Nat} {ms : List ByteArray} {xs : List Value} (hA : Aft w0 w2 o1 o2 w.heap.size (w.heap.size + 1) g cap mb ms xs) (hbel : Below w.heap.size w w0) (hg : Good ms xs)
    (hseen : ∀ j, j < i + 1 → msgOf F (fm j) ∈ ms) (hl : ms.length ≤ i + 1) : ∀ W, Below w2.heap.size w2 W → Inv F fm w W (i + 1) := by
  intro W hW
  have hsz : w.heap.size ≤ w2.heap.size := Nat.le_of_lt hA.st.pb_lt
  exact ⟨(hbel.trans hA.below).trans (hW.mono hsz), ms, xs, .inr ⟨_, _, _, hA.st.below hW, hA.hmb⟩, hg, hseen, hl, fun h => by omega⟩

theorem St.cell_at {w : World} {pb B g cap mb : Nat} {ms : List ByteArray} {xs : List Value} (h : St w pb B (some ⟨g, 0, Option.none⟩) cap mb ms xs) {j : Nat} {u : Value} (hj : xs[j]? = some u) : w.cell? ⟨g, j, Option.none⟩ = some u := by
  have := h.row.cells (g := g) rfl j u hj
  rwa [Addr.add_lit, Nat.zero_add] at this

/-- The k-th message. -/
def mm (ms : List ByteArray) (k : Nat) : ByteArray := ms.getD k ByteArray.empty

theorem mm_mem {ms : List ByteArray} {k : Nat} (h : k < ms.length) : ms[k]? = some (mm ms k) ∧ mm ms k ∈ ms := by
  have : ms[k]? = some ms[k] := List.getElem?_eq_getElem h
  refine ⟨by simp [mm, List.getD, this], ?_⟩
  have e : mm ms k = ms[k] := by simp [mm, List.getD, this]
  rw [e]
  exact List.getElem_mem h

/-- The facts that the rest of the round reads. -/
structure Reads (w2 : World) (pb g cap mb N bs b off len n : Nat) (fm : Nat → ByteArray) (ln cl : Nat → Int) (m : Nat → ByteArray) : Prop where
  q10 : w2.cell? ⟨pb, 1061, Option.none⟩ = some (.slice (some ⟨g, 0, Option.none⟩) N cap)
  q11 : w2.cell? ⟨pb, 1062, Option.none⟩ = some (.map (some mb))
  msg : ∀ k, k < N → w2.cell? ⟨g, k * 5 + 4, Option.none⟩ = some (.string (m k))
  lenM : ∀ (W : World) (ty : TypeId), W.heap[mb]? = w2.heap[mb]? → (Builtin.len_ #[44] ty #[.map (some mb)]).run Ybaf.prog W = .ok (.int .i64 N) W
  look : ∀ (W : World) (k : Nat), k < N → W.heap[mb]? = w2.heap[mb]? → (Instr.lookup 44 (.map (some mb)) (.string (m k)) false).run Ybaf.prog W = .ok (.bool true) W
  s0 : w2.cell? ⟨bs, 0, Option.none⟩ = some (.string (fm n))
  p0 : w2.cell? ⟨bs + 1, 0, Option.none⟩ = some (.string ⟨#[102]⟩)
  p1 : w2.cell? ⟨bs + 1, 1, Option.none⟩ = some (.int .i64 0)
  p2 : w2.cell? ⟨bs + 1, 2, Option.none⟩ = some (.int .i64 (ln n))
  p3 : w2.cell? ⟨bs + 1, 3, Option.none⟩ = some (.int .i64 (cl n))
  steps : ∀ k, k < len → w2.cell? ⟨b, off + k * 3, Option.none⟩ = some (.string (fm k))
  ltp : pb < w2.heap.size
  ltg : g < w2.heap.size
  ltm : mb < w2.heap.size
  lts : bs + 1 < w2.heap.size
  ltb : b < w2.heap.size

theorem Aft.reads {w0 w2 : World} {pb B g cap mb b off len n : Nat} {ms : List ByteArray} {xs : List Value} {fm : Nat → ByteArray} {ln cl : Nat → Int}
    (hA : Aft w0 w2 (.cells #[.string (fm n), .int .i64 (ln n), .int .i64 (cl n)] 49) (.cells #[.string ⟨#[102]⟩, .int .i64 0, .int .i64 (ln n), .int .i64 (cl n)] 37) pb B g cap mb ms xs) (hg : Good ms xs) (hb : b < pb)
    (hst : ∀ k, k < len → w0.cell? ⟨b, off + k * 3, Option.none⟩ = some (.string (fm k))) : Reads w2 pb g cap mb ms.length w0.heap.size b off len n fm ln cl (mm ms) := by
  have k0 : ∀ o, w2.cell? ⟨w0.heap.size, o, Option.none⟩ = ((w0.alloc (.cells #[.string (fm n), .int .i64 (ln n), .int .i64 (cl n)] 49)).alloc (.cells #[.string ⟨#[102]⟩, .int .i64 0, .int .i64 (ln n), .int .i64 (cl n)] 37)).cell? ⟨w0.heap.size, o, Option.none⟩ :=
    fun o => World.cell?_of_block (a := ⟨w0.heap.size, o, Option.none⟩) (hA.kept w0.heap.size (by omega) (by omega))
  have k1 : ∀ o, w2.cell? ⟨w0.heap.size + 1, o, Option.none⟩ = ((w0.alloc (.cells #[.string (fm n), .int .i64 (ln n), .int .i64 (cl n)] 49)).alloc (.cells #[.string ⟨#[102]⟩, .int .i64 0, .int .i64 (ln n), .int .i64 (cl n)] 37)).cell? ⟨w0.heap.size + 1, o, Option.none⟩ :=
    fun o => World.cell?_of_block (a := ⟨w0.heap.size + 1, o, Option.none⟩) (hA.kept (w0.heap.size + 1) (by omega) (by omega))
  have hp := hA.st.pb_lt
  have hsz := hA.size
  refine ⟨hA.st.c10, hA.st.c11, fun k hk => ?_, fun W ty hW => len_map (hA.st.map.kept hW) ty, fun W k hk hW => look_yes (hA.st.map.kept hW) (mm_mem hk).2, ?_, ?_, ?_, ?_, ?_, fun k hk => ?_, hp, ?_, hA.st.map.lt, by omega, by omega⟩
  · rw [show k * 5 + 4 = 5 * k + 4 by omega]
    exact hA.st.cell_at (hg k _ (mm_mem hk).1)
  · rw [k0]; simp
  · rw [k1]; simp
  · rw [k1]; simp
  · rw [k1]; simp
  · rw [k1]; simp
  · exact (hA.below.cell (p := ⟨b, off + k * 3, Option.none⟩) hb).trans (hst k hk)
  · exact (hA.st.rb_ge g rfl).2


/-- The cells of the warning that was added. -/
theorem Aft.newrow {w0 w2 : World} {o1 o2 : Obj} {pb B g cap mb : Nat} {ms ms' : List ByteArray} {xs : List Value} {v0 v1 v2 v3 v4 : Value} (hA : Aft w0 w2 o1 o2 pb B g cap mb ms' (xs ++ [v0, v1, v2, v3, v4])) (hl : xs.length = ms.length * 5) :
    w2.cell? ⟨g, ms.length * 5, Option.none⟩ = some v0 ∧ w2.cell? ⟨g, ms.length * 5 + 1, Option.none⟩ = some v1 ∧ w2.cell? ⟨g, ms.length * 5 + 2, Option.none⟩ = some v2 ∧ w2.cell? ⟨g, ms.length * 5 + 3, Option.none⟩ = some v3 ∧ w2.cell? ⟨g, ms.length * 5 + 4, Option.none⟩ = some v4 := by
  rw [← hl]
  refine ⟨hA.st.cell_at ?_, hA.st.cell_at ?_, hA.st.cell_at ?_, hA.st.cell_at ?_, hA.st.cell_at ?_⟩ <;> (rw [List.getElem?_append_right (by omega)]; simp)

theorem mm_ne {ms : List ByteArray} {m : ByteArray} (h : m ∉ ms) {k : Nat} (hk : k < ms.length) : ((mm (ms ++ [m]) k).toList == m.toList) = false := by
  rw [← beq_toListBytes]
  have e : mm (ms ++ [m]) k = mm ms k := by simp [mm, List.getD, List.getElem?_append_left hk]
  cases h2 : mm (ms ++ [m]) k == m
  · rfl
  · have h3 := (MapKept.bytes_beq _ _).1 h2
    rw [e] at h3
    exact absurd (h3 ▸ (mm_mem hk).2) h

theorem Reads.alloc {w2 : World} {pb g cap mb N bs b off len n : Nat} {fm : Nat → ByteArray} {ln cl : Nat → Int} {m : Nat → ByteArray} (h : Reads w2 pb g cap mb N bs b off len n fm ln cl m) (o : Obj) : Reads (w2.alloc o) pb g cap mb N bs b off len n fm ln cl m := by
  have hc : ∀ (bb oo : Nat) (v : Value), w2.cell? ⟨bb, oo, Option.none⟩ = some v → (w2.alloc o).cell? ⟨bb, oo, Option.none⟩ = some v := fun bb oo v h => (World.cell?_of_block (a := ⟨bb, oo, Option.none⟩) (Below.heap_alloc _ _ _ (World.block_lt_of_cell? w2 _ h))).trans h
  have hm := Below.heap_alloc w2 o mb h.ltm
  have l1 := h.ltp
  have l2 := h.ltg
  have l3 := h.ltm
  have l4 := h.lts
  have l5 := h.ltb
  exact ⟨hc _ _ _ h.q10, hc _ _ _ h.q11, fun k hk => hc _ _ _ (h.msg k hk), fun W ty hW => h.lenM W ty (hW.trans hm), fun W k hk hW => h.look W k hk (hW.trans hm), hc _ _ _ h.s0, hc _ _ _ h.p0, hc _ _ _ h.p1, hc _ _ _ h.p2, hc _ _ _ h.p3,
    fun k hk => hc _ _ _ (h.steps k hk), by simp; omega, by simp; omega, by simp; omega, by simp; omega, by simp; omega⟩

theorem Reads.drewN {w2 : World} {pb g cap mb N bs b off len n : Nat} {fm : Nat → ByteArray} {ln cl : Nat → Int} {m : Nat → ByteArray} (h : Reads w2 pb g cap mb N bs b off len n fm ln cl m) (q : Nat) : Reads (w2.drewN q) pb g cap mb N bs b off len n fm ln cl m :=
  ⟨h.q10, h.q11, h.msg, fun W ty hW => h.lenM W ty hW, fun W k hk hW => h.look W k hk hW, h.s0, h.p0, h.p1, h.p2, h.p3, h.steps, h.ltp, h.ltg, h.ltm, h.lts, h.ltb⟩

end Go.Proofs.YbulkdcwkFmt
