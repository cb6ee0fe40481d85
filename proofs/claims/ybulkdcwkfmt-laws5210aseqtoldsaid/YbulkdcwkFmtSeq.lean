/-
  OWN WORK. The walk of 'LawS5210ASeq' (written with a small generator of my own: the two ways out of the inner search loop share their text).
-/
import Derived.Test.YbulkdcwkFmtState
import Derived.Deep.QuietTactic
import Derived.BigQuiet
import Derived.Deep.LoopGhost
namespace Go.Proofs.YbulkdcwkFmt
open Go.RowKit Go.Extern.Stop Go.Stop Go.Extern

theorem build47e : ∃ cs : Array Value, (∀ w, (Instr.build 47 #[]).run Ybaf.prog w = .ok (.agg cs) w) ∧ 
    cs[1061]? = some (.slice Option.none 0 0) ∧ cs[1062]? = some (.map Option.none) :=
  ⟨((Ybaf.prog.info? 47).bind (·.zero)).elim #[] Value.cells, fun w => by kernel_rfl, by kernel_rfl, by kernel_rfl⟩

theorem wpList_exec {P : Program} {w w' : World} {ops : Array Oper} {rest : List Oper} {o : Oper} {a : Act} {Q : Exit → Act → World → Prop} {v : Value} (hg : o.guard = Option.none)
    (hrun : (execOp a.eval o).run P w = .ok (.value v) w') (hK : wpList P ops Q rest (a.put o.dst v) w') : wpList P ops Q (o :: rest) a w := by
  refine wpList_plain hg fun K hK' => ?_
  unfold Oper.wp
  rw [hrun]
  exact hK' _ _ hK

theorem wpList_build47e {w : World} {ops : Array Oper} {rest : List Oper} {o : Oper} {a : Act} {Q : Exit → Act → World → Prop} (hg : o.guard = Option.none) (hop : o.op = Op.build 47 #[])
    (cs : Array Value) (hb : ∀ w, (Instr.build 47 #[]).run Ybaf.prog w = .ok (.agg cs) w)
    (hK : wpList Ybaf.prog ops Q rest (a.put o.dst (.agg cs)) w) : wpList Ybaf.prog ops Q (o :: rest) a w := by
  refine wpList_exec hg (v := .agg cs) (w' := w) ?_ hK
  simp only [execOp, hop]
  simp [hb]

theorem new_frozen (w : World) (cs : Array Value) (e : TypeId) (k : Nat) : (w.alloc (.cells cs e)).frozen? ⟨w.heap.size, k, Option.none⟩ = false := by
  have h : (w.alloc (.cells cs e)).heap[w.heap.size]? = some (.cells cs e) := heap_alloc_new w _
  simp only [World.frozen?, h]
  simp

theorem drewN_twice (w : World) (a b : Nat) : (w.drewN a).drewN b = w.drewN (a + b) := by simp [World.drewN, Nat.add_assoc]

set_option maxRecDepth 100000 in
set_option maxHeartbeats 2000000 in
theorem seq_walk (F : Interp) (b off len cap0 : Nat) (fm : Nat → ByteArray) (ln cl : Nat → Int) (w : World) (hF : F.answers w.tape) (hlen : len ≤ 1024) (hb : b < w.heap.size)
    (hcell : ∀ k, k < len → w.cell? ⟨b, off + k * 3, Option.none⟩ = some (.string (fm k)) ∧ w.cell? ⟨b, off + k * 3 + 1, Option.none⟩ = some (.int .i64 (ln k)) ∧ w.cell? ⟨b, off + k * 3 + 2, Option.none⟩ = some (.int .i64 (cl k))) :
    Calls Ybaf.prog 3 #[.slice (some ⟨b, off, Option.none⟩) len cap0] w fun e w' => e = .returned (.bool true) ∧ Below w.heap.size w w' := by
  obtain ⟨cs, hbd, k10, k11⟩ := build47e
  have HB := hide hbd
  have HC := hide hcell
  clear hbd hcell
  go_enter Ybaf.func3, Ybaf.ntmps3
  go_wp2_with (refine wpList_build47e rfl rfl cs HB.out ?_)
  go_loopg [4] len (fun k i wr => ∃ n : Nat, n ≤ len ∧ k = len - n ∧ i = .int .i64 n ∧ Hid (Inv F fm w wr n))
  case atStart =>
    refine ⟨0, Nat.zero_le _, rfl, rfl, (Below.refl _ _).alloc (Nat.le_refl _) _, [], [], .inl ⟨⟨by omega, by simp, ?_, ?_, ?_, ?_⟩, rfl, rfl⟩, Good.nil, fun j hj => by omega, Nat.le_refl _, fun _ => rfl⟩
    · rw [cell_of_row _ _ 1061 _ _ _ (heap_alloc_new w _)]; exact k10
    · exact new_frozen _ _ _ _
    · rw [cell_of_row _ _ 1062 _ _ _ (heap_alloc_new w _)]; exact k11
    · exact new_frozen _ _ _ _
  case round =>
    obtain ⟨n, hn, hk, rfl, HI⟩ := hrel
    by_cases hlt : n < len
    · obtain ⟨hbel, ms, xs, hP, hgood, hseen, hmsl, hms0⟩ := HI.out
      obtain ⟨c0, c1, c2⟩ := HC.out n hlt
      have g0 : wr.cell? ⟨b, off + n * 3, Option.none⟩ = some (.string (fm n)) := (hbel.cell (p := ⟨b, off + n * 3, Option.none⟩) (by exact hb)).trans c0
      have g1 : wr.cell? ⟨b, off + n * 3 + 1, Option.none⟩ = some (.int .i64 (ln n)) := (hbel.cell (p := ⟨b, off + n * 3 + 1, Option.none⟩) (by exact hb)).trans c1
      have g2 : wr.cell? ⟨b, off + n * 3 + 2, Option.none⟩ = some (.int .i64 (cl n)) := (hbel.cell (p := ⟨b, off + n * 3 + 2, Option.none⟩) (by exact hb)).trans c2
      obtain ⟨so, cap, q10⟩ := hP.c10
      have hpl := hP.pb_lt
      have hFr : F.answers wr.tape := by rw [hbel.tape]; exact hF
      have HP := hide hP
      have HG := hide hgood
      have HS := hide hseen
      have H0 := hide hms0
      have HBel := hide hbel
      have hbr : b < wr.heap.size := Nat.lt_of_lt_of_le hb hbel.size
      clear c0 c1 c2 hP hgood hseen hms0 hbel HI
      have hstp : ∀ k, k < len → wr.cell? ⟨b, off + k * 3, Option.none⟩ = some (.string (fm k)) := fun k hk => (HBel.out.cell (p := ⟨b, off + k * 3, Option.none⟩) (by exact hb)).trans (HC.out k hk).1
      have HST := hide hstp
      clear hstp
      go_wp2_with fail
      by_cases hm : msgOf F (fm n) ∈ ms
      · refine (warn_keep F w.heap.size (w.heap.size + 1) ms xs (fm n) _ 0 (ln n) (cl n) wr _ _ hFr HP.out hm).mono ?_
        rintro e w2 ⟨rfl, g, cap', mb, hA⟩
        have HN := hide (Aft.next (F := F) (fm := fm) (i := n) hA HBel.out HG.out (fun j hj => by
          by_cases e : j = n
          · rw [e]; exact hm
          · exact HS.out j (by omega)) (by omega))
        have hR := hA.reads HG.out hb HST.out
        have HR := hide hR
        have q10' := hR.q10
        have hms1 : 0 < ms.length := by cases ms with
          | nil => simp at hm
          | cons _ _ => simp
        have hn1 : 0 < n := by omega
        clear hA hR HP HG HS H0 HST hFr g0 g1 g2 q10
        have hne0 : ((n : Int) == 0) = false := beq_eq_false_iff_ne.2 (by omega)
        have hNN : ((ms.length : Int) != ms.length) = false := by simp
        generalize hL : ms.length = L at *
        go_wp2_with fail
        go_loopg [9, 10] n (fun k sv jv W => ∃ (j : Nat) (q : Nat), j ≤ n ∧ k = n - j ∧ jv = .int .i64 j ∧ sv = .bool false ∧ W = w2.drewN q)
        case atStart => exact ⟨0, 0, Nat.zero_le _, rfl, rfl, rfl, rfl⟩
        case round =>
          obtain ⟨j, q, hjn, hkj, rfl, rfl, rfl⟩ := hrel
          have q11' := HR.out.q11
          have hlm : ∀ (q : Nat) (ty : TypeId), (Builtin.len_ #[44] ty #[.map (some mb)]).run Ybaf.prog (w2.drewN q) = .ok (.int .i64 ↑(L)) (w2.drewN q) := fun q ty => HR.out.lenM _ ty rfl
          have hlk : ∀ (q k : Nat), k < L → (Instr.lookup 44 (.map (some mb)) (.string (mm ms k)) false).run Ybaf.prog (w2.drewN q) = .ok (.bool true) (w2.drewN q) := fun q k hk => HR.out.look _ k hk rfl
          by_cases hj : j < n
          · have t1 : w2.cell? ⟨b, off + j * 3, Option.none⟩ = some (.string (fm j)) := HR.out.steps j (by omega)
            have t2 := HR.out.s0
            go_wp2_with fail
            go_quiet (fail)
            go_wp2_with fail
            · clear t1 t2
              go_quiet (fail)
              go_wp2_with fail
              go_loopg [13] (L) (fun k kv W => ∃ (i' : Nat) (q : Nat), i' ≤ L ∧ k = L - i' ∧ kv = .int .i64 i' ∧ W = w2.drewN q)
              case atStart => exact ⟨0, _, Nat.zero_le _, rfl, rfl, drewN_twice _ _ _⟩
              case round =>
                obtain ⟨i', q', hi', hki, rfl, rfl⟩ := hrel
                by_cases hlt' : i' < L
                · have t3 := HR.out.msg i' hlt'
                  have t4 : ∀ q : Nat, (Instr.lookup 44 (.map (some mb)) (.string (mm ms i')) false).run Ybaf.prog (w2.drewN q) = .ok (.bool true) (w2.drewN q) := fun q => hlk q i' hlt'
                  clear hlk hlm
                  go_wp2_with fail
                  go_quiet (fail)
                  go_wp2_with fail
                  go_roundg (L - (i' + 1))
                  case measure => omega
                  case rel => exact ⟨i' + 1, _, by omega, rfl, by go_num, rfl⟩
                · go_wp2_with fail
                  go_roundg (len - (n + 1))
                  case measure => omega
                  case rel => exact ⟨n + 1, by omega, rfl, by go_num, HN.out _ (below_drewN (Below.refl _ _) _)⟩
            · go_roundg (n - (j + 1))
              case measure => omega
              case rel => exact ⟨j + 1, _, by omega, rfl, by go_num, rfl, rfl⟩
          · go_wp2_with fail
            go_quiet (fail)
            go_wp2_with fail
            go_loopg [13] (L) (fun k kv W => ∃ (i' : Nat) (q : Nat), i' ≤ L ∧ k = L - i' ∧ kv = .int .i64 i' ∧ W = w2.drewN q)
            case atStart => exact ⟨0, _, Nat.zero_le _, rfl, rfl, drewN_twice _ _ _⟩
            case round =>
              obtain ⟨i', q', hi', hki, rfl, rfl⟩ := hrel
              by_cases hlt' : i' < L
              · have t3 := HR.out.msg i' hlt'
                have t4 : ∀ q : Nat, (Instr.lookup 44 (.map (some mb)) (.string (mm ms i')) false).run Ybaf.prog (w2.drewN q) = .ok (.bool true) (w2.drewN q) := fun q => hlk q i' hlt'
                clear hlk hlm
                go_wp2_with fail
                go_quiet (fail)
                go_wp2_with fail
                go_roundg (L - (i' + 1))
                case measure => omega
                case rel => exact ⟨i' + 1, _, by omega, rfl, by go_num, rfl⟩
              · go_wp2_with fail
                go_roundg (len - (n + 1))
                case measure => omega
                case rel => exact ⟨n + 1, by omega, rfl, by go_num, HN.out _ (below_drewN (Below.refl _ _) _)⟩
      · refine (warn_add F w.heap.size (w.heap.size + 1) ms xs (fm n) _ 0 (ln n) (cl n) wr _ _ hFr HP.out hm (by omega)).mono ?_
        rintro e w2 ⟨rfl, g, cap', mb, hA⟩
        have hgood2 := HG.out.append HP.out.len (msgOf F (fm n)) (.string ⟨#[102]⟩) (.int .i64 0) (.int .i64 (ln n)) (.int .i64 (cl n))
        have HN := hide (Aft.next (F := F) (fm := fm) (i := n) hA HBel.out hgood2 (fun j hj => by
          by_cases e : j = n
          · rw [e]; simp
          · simp [HS.out j (by omega)]) (by simp; omega))
        have hR := hA.reads hgood2 hb HST.out
        rw [show (ms ++ [msgOf F (fm n)]).length = ms.length + 1 by simp] at hR
        have hfresh : ∀ j, j < n → ((fm j).toList == (fm n).toList) = false := fun j hj => by
          rw [← beq_toListBytes]
          cases h : fm j == fm n
          · rfl
          · exact absurd (by rw [← (MapKept.bytes_beq _ _).1 h]; exact HS.out j hj) hm
        obtain ⟨r0, r1, r2, r3, r4⟩ := hA.newrow HP.out.len
        have hne : ∀ k, k < ms.length → ((mm (ms ++ [msgOf F (fm n)]) k).toList == (msgOf F (fm n)).toList) = false := fun k hk => mm_ne hm hk
        have hL0 : n = 0 → ms.length = 0 := fun h => by rw [H0.out h]; rfl
        have HR := hide hR
        have q10' := hR.q10
        clear hA hR HP HG HS H0 HST hFr g0 g1 g2 hgood2
        generalize hL : ms.length = L at *
        generalize hMM : msgOf F (fm n) = M at *
        rcases Nat.eq_zero_or_pos n with hn0 | hn0
        ·
          have hz : ((n : Int) == 0) = true := by rw [hn0]; rfl
          have hL1 : ((L : Int) + 1 != 1) = false := by rw [hL0 hn0]; rfl
          clear hn0 hL0
          go_wp2_with fail
          go_loopg [9, 10] n (fun k sv jv W => ∃ (j : Nat) (q : Nat), j ≤ n ∧ k = n - j ∧ jv = .int .i64 j ∧ sv = .bool false ∧ W = w2.drewN q)
          case atStart => exact ⟨0, 0, Nat.zero_le _, rfl, rfl, rfl, rfl⟩
          case round =>
            obtain ⟨j, q, hjn, hkj, rfl, rfl, rfl⟩ := hrel
            by_cases hj : j < n
            · have t1 : w2.cell? ⟨b, off + j * 3, Option.none⟩ = some (.string (fm j)) := HR.out.steps j (by omega)
              have t2 := HR.out.s0
              have t5 := hfresh j hj
              go_wp2_with fail
              go_quiet (fail)
              go_wp2_with fail
              go_roundg (n - (j + 1))
              case measure => omega
              case rel => exact ⟨j + 1, _, by omega, rfl, by go_num, rfl, rfl⟩
            · have HRq := hide (HR.out.drewN q)
              have HNq : Hid (∀ W, Below (w2.drewN q).heap.size (w2.drewN q) W → Inv F fm w W (n + 1)) := fun W hW => HN.out W ((below_drewN (Below.refl _ _) q).trans hW)
              have r0q : (w2.drewN q).cell? ⟨g, L * 5, Option.none⟩ = some (.string ⟨#[102]⟩) := r0
              have r1q : (w2.drewN q).cell? ⟨g, L * 5 + 1, Option.none⟩ = some (.int .i64 0) := r1
              have r2q : (w2.drewN q).cell? ⟨g, L * 5 + 2, Option.none⟩ = some (.int .i64 (ln n)) := r2
              have r3q : (w2.drewN q).cell? ⟨g, L * 5 + 3, Option.none⟩ = some (.int .i64 (cl n)) := r3
              have r4q : (w2.drewN q).cell? ⟨g, L * 5 + 4, Option.none⟩ = some (.string M) := r4
              generalize hwq : w2.drewN q = wq at HRq HNq r0q r1q r2q r3q r4q ⊢
              clear hwq r0 r1 r2 r3 r4 HR HN q10'
              have p0 := HRq.out.p0
              have p1 := HRq.out.p1
              have p2 := HRq.out.p2
              have p3 := HRq.out.p3
              have l1 := HRq.out.ltp
              have l2 := HRq.out.ltg
              have l4 := HRq.out.lts
              have q10' := HRq.out.q10
              go_wp2_with fail
              have HR3 := hide (HRq.out.alloc (.cells #[.string ⟨#[102]⟩, .int .i64 0, .int .i64 (ln n), .int .i64 (cl n), .string M] 52))
              have HN3 : Hid (∀ W, Below (wq.alloc (.cells #[.string ⟨#[102]⟩, .int .i64 0, .int .i64 (ln n), .int .i64 (cl n), .string M] 52)).heap.size (wq.alloc (.cells #[.string ⟨#[102]⟩, .int .i64 0, .int .i64 (ln n), .int .i64 (cl n), .string M] 52)) W → Inv F fm w W (n + 1)) :=
                fun W hW => HNq.out W (((Below.refl _ _).alloc (Nat.le_refl _) _).trans (hW.mono (by simp)))
              have x4 : (wq.alloc (.cells #[.string ⟨#[102]⟩, .int .i64 0, .int .i64 (ln n), .int .i64 (cl n), .string M] 52)).cell? ⟨wq.heap.size, 4, Option.none⟩ = some (.string M) := by simp
              generalize hw3 : wq.alloc (.cells #[.string ⟨#[102]⟩, .int .i64 0, .int .i64 (ln n), .int .i64 (cl n), .string M] 52) = w3 at HR3 HN3 x4 ⊢
              clear hw3 r0q r1q r2q r3q r4q p0 p1 p2 p3 l1 l2 l4 q10' HRq HNq hz hfresh
              have q10' := HR3.out.q10
              go_loopg [12] L (fun k kv W => ∃ (i' : Nat) (q : Nat), i' ≤ L ∧ k = L - i' ∧ kv = .int .i64 i' ∧ W = w3.drewN q)
              case atStart => exact ⟨0, 0, Nat.zero_le _, rfl, rfl, rfl⟩
              case round =>
                obtain ⟨i', q', hi', hki, rfl, rfl⟩ := hrel
                by_cases hlt' : i' < L
                · have t3 := HR3.out.msg i' (by omega)
                  have t6 := hne i' hlt'
                  go_wp2_with fail
                  go_quiet (fail)
                  go_wp2_with fail
                  go_roundg (L - (i' + 1))
                  case measure => omega
                  case rel => exact ⟨i' + 1, _, by omega, rfl, by go_num, rfl⟩
                · clear x4
                  have q11' := HR3.out.q11
                  have hlm : ∀ (q : Nat) (ty : TypeId), (Builtin.len_ #[44] ty #[.map (some mb)]).run Ybaf.prog (w3.drewN q) = .ok (.int .i64 ↑(L + 1)) (w3.drewN q) := fun q ty => HR3.out.lenM _ ty rfl
                  have hlk : ∀ (q k : Nat), k < L + 1 → (Instr.lookup 44 (.map (some mb)) (.string (mm (ms ++ [M]) k)) false).run Ybaf.prog (w3.drewN q) = .ok (.bool true) (w3.drewN q) := fun q k hk => HR3.out.look _ k hk rfl
                  go_wp2_with fail
                  go_quiet (fail)
                  go_wp2_with fail
                  go_loopg [13] (L + 1) (fun k kv W => ∃ (i' : Nat) (q : Nat), i' ≤ L + 1 ∧ k = L + 1 - i' ∧ kv = .int .i64 i' ∧ W = w3.drewN q)
                  case atStart => exact ⟨0, _, Nat.zero_le _, rfl, rfl, drewN_twice _ _ _⟩
                  case round =>
                    obtain ⟨i', q', hi', hki, rfl, rfl⟩ := hrel
                    by_cases hlt' : i' < L + 1
                    · have t3 := HR3.out.msg i' hlt'
                      have t4 : ∀ q : Nat, (Instr.lookup 44 (.map (some mb)) (.string (mm (ms ++ [M]) i')) false).run Ybaf.prog (w3.drewN q) = .ok (.bool true) (w3.drewN q) := fun q => hlk q i' hlt'
                      clear hlk hlm
                      go_wp2_with fail
                      go_quiet (fail)
                      go_wp2_with fail
                      go_roundg (L + 1 - (i' + 1))
                      case measure => omega
                      case rel => exact ⟨i' + 1, _, by omega, rfl, by go_num, rfl⟩
                    · go_wp2_with fail
                      go_roundg (len - (n + 1))
                      case measure => omega
                      case rel => exact ⟨n + 1, by omega, rfl, by go_num, HN3.out _ (below_drewN (Below.refl _ _) _)⟩
        ·
          have hz : ((n : Int) == 0) = false := beq_eq_false_iff_ne.2 (by omega)
          clear hn0 hL0
          go_wp2_with fail
          go_loopg [9, 10] n (fun k sv jv W => ∃ (j : Nat) (q : Nat), j ≤ n ∧ k = n - j ∧ jv = .int .i64 j ∧ sv = .bool false ∧ W = w2.drewN q)
          case atStart => exact ⟨0, 0, Nat.zero_le _, rfl, rfl, rfl, rfl⟩
          case round =>
            obtain ⟨j, q, hjn, hkj, rfl, rfl, rfl⟩ := hrel
            by_cases hj : j < n
            · have t1 : w2.cell? ⟨b, off + j * 3, Option.none⟩ = some (.string (fm j)) := HR.out.steps j (by omega)
              have t2 := HR.out.s0
              have t5 := hfresh j hj
              go_wp2_with fail
              go_quiet (fail)
              go_wp2_with fail
              go_roundg (n - (j + 1))
              case measure => omega
              case rel => exact ⟨j + 1, _, by omega, rfl, by go_num, rfl, rfl⟩
            · have HRq := hide (HR.out.drewN q)
              have HNq : Hid (∀ W, Below (w2.drewN q).heap.size (w2.drewN q) W → Inv F fm w W (n + 1)) := fun W hW => HN.out W ((below_drewN (Below.refl _ _) q).trans hW)
              have r0q : (w2.drewN q).cell? ⟨g, L * 5, Option.none⟩ = some (.string ⟨#[102]⟩) := r0
              have r1q : (w2.drewN q).cell? ⟨g, L * 5 + 1, Option.none⟩ = some (.int .i64 0) := r1
              have r2q : (w2.drewN q).cell? ⟨g, L * 5 + 2, Option.none⟩ = some (.int .i64 (ln n)) := r2
              have r3q : (w2.drewN q).cell? ⟨g, L * 5 + 3, Option.none⟩ = some (.int .i64 (cl n)) := r3
              have r4q : (w2.drewN q).cell? ⟨g, L * 5 + 4, Option.none⟩ = some (.string M) := r4
              generalize hwq : w2.drewN q = wq at HRq HNq r0q r1q r2q r3q r4q ⊢
              clear hwq r0 r1 r2 r3 r4 HR HN q10'
              have p0 := HRq.out.p0
              have p1 := HRq.out.p1
              have p2 := HRq.out.p2
              have p3 := HRq.out.p3
              have l1 := HRq.out.ltp
              have l2 := HRq.out.ltg
              have l4 := HRq.out.lts
              have q10' := HRq.out.q10
              go_wp2_with fail
              have HR3 := hide (HRq.out.alloc (.cells #[.string ⟨#[102]⟩, .int .i64 0, .int .i64 (ln n), .int .i64 (cl n), .string M] 52))
              have HN3 : Hid (∀ W, Below (wq.alloc (.cells #[.string ⟨#[102]⟩, .int .i64 0, .int .i64 (ln n), .int .i64 (cl n), .string M] 52)).heap.size (wq.alloc (.cells #[.string ⟨#[102]⟩, .int .i64 0, .int .i64 (ln n), .int .i64 (cl n), .string M] 52)) W → Inv F fm w W (n + 1)) :=
                fun W hW => HNq.out W (((Below.refl _ _).alloc (Nat.le_refl _) _).trans (hW.mono (by simp)))
              have x4 : (wq.alloc (.cells #[.string ⟨#[102]⟩, .int .i64 0, .int .i64 (ln n), .int .i64 (cl n), .string M] 52)).cell? ⟨wq.heap.size, 4, Option.none⟩ = some (.string M) := by simp
              generalize hw3 : wq.alloc (.cells #[.string ⟨#[102]⟩, .int .i64 0, .int .i64 (ln n), .int .i64 (cl n), .string M] 52) = w3 at HR3 HN3 x4 ⊢
              clear hw3 r0q r1q r2q r3q r4q p0 p1 p2 p3 l1 l2 l4 q10' HRq HNq hz hfresh
              have q10' := HR3.out.q10
              go_loopg [12] L (fun k kv W => ∃ (i' : Nat) (q : Nat), i' ≤ L ∧ k = L - i' ∧ kv = .int .i64 i' ∧ W = w3.drewN q)
              case atStart => exact ⟨0, 0, Nat.zero_le _, rfl, rfl, rfl⟩
              case round =>
                obtain ⟨i', q', hi', hki, rfl, rfl⟩ := hrel
                by_cases hlt' : i' < L
                · have t3 := HR3.out.msg i' (by omega)
                  have t6 := hne i' hlt'
                  go_wp2_with fail
                  go_quiet (fail)
                  go_wp2_with fail
                  go_roundg (L - (i' + 1))
                  case measure => omega
                  case rel => exact ⟨i' + 1, _, by omega, rfl, by go_num, rfl⟩
                · clear x4
                  have q11' := HR3.out.q11
                  have hlm : ∀ (q : Nat) (ty : TypeId), (Builtin.len_ #[44] ty #[.map (some mb)]).run Ybaf.prog (w3.drewN q) = .ok (.int .i64 ↑(L + 1)) (w3.drewN q) := fun q ty => HR3.out.lenM _ ty rfl
                  have hlk : ∀ (q k : Nat), k < L + 1 → (Instr.lookup 44 (.map (some mb)) (.string (mm (ms ++ [M]) k)) false).run Ybaf.prog (w3.drewN q) = .ok (.bool true) (w3.drewN q) := fun q k hk => HR3.out.look _ k hk rfl
                  go_wp2_with fail
                  go_quiet (fail)
                  go_wp2_with fail
                  go_loopg [13] (L + 1) (fun k kv W => ∃ (i' : Nat) (q : Nat), i' ≤ L + 1 ∧ k = L + 1 - i' ∧ kv = .int .i64 i' ∧ W = w3.drewN q)
                  case atStart => exact ⟨0, _, Nat.zero_le _, rfl, rfl, drewN_twice _ _ _⟩
                  case round =>
                    obtain ⟨i', q', hi', hki, rfl, rfl⟩ := hrel
                    by_cases hlt' : i' < L + 1
                    · have t3 := HR3.out.msg i' hlt'
                      have t4 : ∀ q : Nat, (Instr.lookup 44 (.map (some mb)) (.string (mm (ms ++ [M]) i')) false).run Ybaf.prog (w3.drewN q) = .ok (.bool true) (w3.drewN q) := fun q => hlk q i' hlt'
                      clear hlk hlm
                      go_wp2_with fail
                      go_quiet (fail)
                      go_wp2_with fail
                      go_roundg (L + 1 - (i' + 1))
                      case measure => omega
                      case rel => exact ⟨i' + 1, _, by omega, rfl, by go_num, rfl⟩
                    · go_wp2_with fail
                      go_roundg (len - (n + 1))
                      case measure => omega
                      case rel => exact ⟨n + 1, by omega, rfl, by go_num, HN3.out _ (below_drewN (Below.refl _ _) _)⟩
    · go_wp2_with fail
      go_ret
      exact ⟨rfl, HI.out.1⟩

set_option maxRecDepth 100000 in
set_option maxHeartbeats 400000 in
/-- A script that is too long: nothing is done. -/
theorem seq_long (ao : Option Addr) (len cap0 : Nat) (w : World) (hlen : 1024 < len) :
    Calls Ybaf.prog 3 #[.slice ao len cap0] w fun e w' => e = .returned (.bool true) ∧ Below w.heap.size w w' := by
  go_enter Ybaf.func3, Ybaf.ntmps3
  go_wp2_with fail
  go_ret
  exact ⟨rfl, Below.refl _ _⟩

set_option maxRecDepth 100000 in
set_option maxHeartbeats 400000 in
/-- The empty script. -/
theorem seq_empty (ao : Option Addr) (cap0 : Nat) (w : World) :
    Calls Ybaf.prog 3 #[.slice ao 0 cap0] w fun e w' => e = .returned (.bool true) ∧ Below w.heap.size w w' := by
  obtain ⟨cs, hbd, k10, k11⟩ := build47e
  have HB := hide hbd
  clear hbd k10 k11
  go_enter Ybaf.func3, Ybaf.ntmps3
  go_wp2_with (refine wpList_build47e rfl rfl cs HB.out ?_)
  go_loopg [4] 0 (fun k i wr => i = .int .i64 0 ∧ Hid (Below w.heap.size w wr))
  case atStart => exact ⟨rfl, (Below.refl _ _).alloc (Nat.le_refl _) _⟩
  case round =>
    obtain ⟨rfl, HI⟩ := hrel
    go_wp2_with fail
    go_ret
    exact ⟨rfl, HI.out⟩

end Go.Proofs.YbulkdcwkFmt
