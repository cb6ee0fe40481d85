/-
  OWN WORK. '(*knowledge).heldByAll': the least of each column.
-/
import Derived.Test.YbulkdcyaUtil
import Derived.Deep.RegionWith
namespace Go.Proofs.Ybulkdcya
open Go.RowKit

theorem Kn0.kept {w w' : World} {B mb n lb M : Nat} {e : Nat → Int} (h : Kn0 w B mb n lb e) (hM : M = w.heap.size) (k : Below M w w') : Kn0 w' B mb n lb e := by
  subst hM
  have hm := k.block mb h.mb_lt
  exact ⟨(World.cell?_of_block (a := ⟨mb, 0, none⟩) hm).trans h.c0, (World.cell?_of_block (a := ⟨mb, 1, none⟩) hm).trans h.c1, (World.frozen?_of_block (a := ⟨mb, 2, none⟩) hm).trans h.f2, h.low.kept (k.block lb h.low.lt), h.rng, h.ne, h.hn, h.Bm, h.Bl⟩

theorem Kn.kept {w w' : World} {B mb n lb M : Nat} {e : Nat → Int} (h : Kn w B mb n lb e) (hM : M = w.heap.size) (k : Below M w w') : Kn w' B mb n lb e := by
  rcases h with h | ⟨wb, h⟩
  · have hm := k.block mb (by rw [hM]; exact h.mb_lt)
    exact .inl ⟨h.toKn0.kept hM k, (World.cell?_of_block (a := ⟨mb, 2, none⟩) hm).trans h.c2, h.small⟩
  · have hm := k.block mb (by rw [hM]; exact h.mb_lt)
    exact .inr ⟨wb, h.toKn0.kept hM k, (World.cell?_of_block (a := ⟨mb, 2, none⟩) hm).trans h.c2, h.pos, h.whole.kept (k.block wb (by rw [hM]; exact h.whole.lt)), h.new, h.nel, h.Bw⟩

theorem Kn.zero {w : World} {B mb n lb : Nat} {e : Nat → Int} (h : Kn w B mb n lb e) : Kn0 w B mb n lb e := by
  rcases h with h | ⟨wb, h⟩
  · exact h.toKn0
  · exact h.toKn0

/-- The least of column i over the rows 0 .. r. -/
def least (e : Nat → Int) (n i : Nat) : Nat → Int
  | 0 => e i
  | r + 1 => min (least e n i r) (e ((r + 1) * n + i))

theorem vals_succ {k : IntKind} {N : Nat} {f : Nat → Int} : vals k (N + 1) f = vals k N f ++ [.int k (f N)] := by simp [vals, List.range_succ]

/-- What 'dst' may be: nil, or a row of ints of the caller's own. -/
def Dst (w : World) (M : Nat) (dv : Value) : Prop := dv = .slice none 0 0 ∨ ∃ db L cur, dv = .slice (some ⟨db, 0, none⟩) L L ∧ M ≤ db ∧ w.heap[db]? = some (.cells cur 3 (0, 0)) ∧ cur.size = L ∧ L ≤ 4096

theorem own_block {w : World} {base t n : Nat} {v : Value} {xs : List Value} (h : w.ownsRow base t 1 v n xs) {k : Nat} (hk : v.ownBlock = some k) : base ≤ k := by
  rcases h.2 with ⟨h1, _⟩ | ⟨g, cap, cur, hv, hb, _⟩
  · subst h1; simp [Value.ownBlock] at hk
  · subst hv
    simp [Value.ownBlock] at hk
    omega

theorem one_cell {w : World} {t : Nat} {x : Value} : ∀ (j : Nat) (u : Value), [x][j]? = some u → (w.alloc (.cells #[x] t)).cell? (Addr.add ⟨w.heap.size, 0, none⟩ j) = some u := by
  intro j u hu
  cases j with
  | zero =>
    simp at hu
    subst hu
    rw [show Addr.add ⟨w.heap.size, 0, none⟩ 0 = ⟨w.heap.size, 0, none⟩ by simp [Addr.add], cell_of_row _ _ _ _ _ _ (new_block w _)]
    rfl
  | succ j => simp at hu

theorem wrap_at {r n j N : Nat} (h1 : r * n ≤ N) (h2 : N ≤ 1600) (h3 : j < n) (h4 : n ≤ 40) : IntKind.i64.wrap (IntKind.i64.wrap ((r : Int) * (n : Int)) + (j : Int)) = ((r * n + j : Nat) : Int) := by
  have e : (r : Int) * (n : Int) = ((r * n : Nat) : Int) := by push_cast; rfl
  rw [e]
  generalize r * n = q at *
  rw [IntKind.wrap_i64, IntKind.wrap_i64]
  omega

theorem RowI.leastSet {W : World} {g n j r : Nat} {e : Nat → Int} {v : Int} (h : RowI W g 3 .i64 n (fun i => if i < j then least e n i r else least e n i (r - 1))) (hr : 1 ≤ r) (hv : v = min (least e n j (r - 1)) (e (r * n + j))) :
    RowI (W.setCell ⟨g, j, none⟩ (.int .i64 v)).drew g 3 .i64 n (fun i => if i < j + 1 then least e n i r else least e n i (r - 1)) := by
  have e1 : v = least e n j r := by
    obtain ⟨q, rfl⟩ : ∃ q, r = q + 1 := ⟨r - 1, by omega⟩
    rw [hv]; rfl
  rw [e1]
  refine ((h.set j (least e n j r)).kept (w' := (W.setCell ⟨g, j, none⟩ (.int .i64 (least e n j r))).drew) rfl).congr fun i _ => ?_
  by_cases h1 : i = j
  · subst h1; simp
  · by_cases h2 : i < j
    · simp [h1, h2, show i < j + 1 by omega]
    · simp [h1, h2, show ¬ i < j + 1 by omega]

theorem get_at (B mb n lb k : Nat) (q : Int) (e : Nat → Int) (w : World) (hq : q = (k : Int)) (h : Kn w B mb n lb e) (hk : k < n * n) :
    Calls Yba.prog 12 #[.pointer (some ⟨mb, 0, none⟩), .int .i64 q] w fun r w' => r = .returned (.int .i64 (e k)) ∧ w' = w := by
  subst hq
  exact get_any B mb n lb k e w h hk

theorem Kn.drew {w : World} {B mb n lb : Nat} {e : Nat → Int} (h : Kn w B mb n lb e) : Kn w.drew B mb n lb e := h.kept rfl (Below.refl _ _).drew

set_option maxRecDepth 100000 in
set_option maxHeartbeats 1000000 in
theorem held_run (B mb n lb : Nat) (e : Nat → Int) (w0 w : World) (M : Nat) (hM : M = w0.heap.size) (dv : Value) (h : Kn w0 B mb n lb e) (hw : Below M w0 w) (hd : Dst w M dv) :
    Calls Yba.prog 9 #[.pointer (some ⟨mb, 0, none⟩), dv] w fun r w' => ∃ ho cap, r = .returned (.slice ho n cap) ∧ (∀ i, i < n → ∃ g, ho = some ⟨g, 0, none⟩ ∧ w'.cell? ⟨g, i, none⟩ = some (.int .i64 (least e n i (n - 1)))) ∧ Below M w0 w' := by
  have HK := hid_of h
  have HW := hid_of hw
  have hn := h.zero.hn
  clear h hw
  obtain ⟨i3, hi, hz0, hz1, hz2⟩ := info_parts info3
  have c0 := (HK.out.kept hM HW.out).zero.c0
  have own : ∃ so cap, (dv = .slice none 0 0 ∧ so = none ∧ cap = 0 ∨ ∃ db, dv = .slice (some ⟨db, 0, none⟩) cap cap ∧ so = some ⟨db, 0, none⟩ ∧ cap ≤ 4096) ∧ w.ownsRow M 3 1 (.slice so 0 cap) 0 (vals .i64 0 e) := by
    rcases hd with rfl | ⟨db, L, cur, rfl, hMd, hdb, hcs, hL⟩
    · exact ⟨none, 0, .inl ⟨rfl, rfl, rfl⟩, rfl, .inl ⟨rfl, rfl⟩⟩
    · exact ⟨some ⟨db, 0, none⟩, L, .inr ⟨db, rfl, rfl, hL⟩, rfl, .inr ⟨db, L, cur, rfl, hMd, hdb, Nat.zero_le _, by unfold maxLen; omega, by omega, by simp [vals]⟩⟩
  obtain ⟨so, cap, hdv, hown⟩ := own
  have HO := hid_of hown
  clear hown hd
  have HM := hid_of hM
  clear hM
  rcases hdv with ⟨rfl, rfl, rfl⟩ | ⟨db, rfl, rfl, hcap⟩
  all_goals
    go_enter Yba.func9, Yba.ntmps9
    go_wp2_with fail
    go_loopg [1, 14] n (fun gk v jv W => ∃ (j cp : Nat) (so' : Option Addr), j ≤ n ∧ gk = n - j ∧ jv = .int .i64 j ∧ v = .slice so' j cp ∧ Hid (Below M w0 W) ∧ Hid (W.ownsRow M 3 1 (.slice so' j cp) j (vals .i64 j e)))
    case atStart => exact ⟨0, _, _, Nat.zero_le _, rfl, rfl, rfl, HW, HO⟩
    case round =>
      obtain ⟨j, cp, so', hj, hgk, rfl, rfl, HB, HOj⟩ := hrel
      clear c0
      by_cases hlt : j < n
      · go_wp2_with fail
        refine (get_any B mb n lb j e wr (HK.out.kept HM.out HB.out) (by have := Nat.le_mul_of_pos_right n (by omega : 0 < n); omega)).mono ?_
        rintro _ w' ⟨rfl, hw'⟩
        rw [hw']
        clear hw' w'
        go_wp2_with (at_builtin; go_loud (refine wpList_append_own _ rfl _ _ 23 rfl M 3 i3 (.int .i64 0) 1 8 Yba.underlying23 hi hz0 hz1 hz2 rfl (by decide) _ j (vals .i64 j e) rfl (HOj.out.alloc _) ⟨wr.heap.size, 0, none⟩ 1 1 [.int .i64 (e j)] rfl rfl ?cells (by simp [Value.oneCell']) (by unfold maxLen; omega) (by omega) (by have := HB.out.size; have := HM.out; simp; omega) ?_))
        case cells => exact one_cell
        intro v' w' hown' hg' hnil
        obtain ⟨g', cp', rfl, hle'⟩ := own_slice hown' hnil
        have HO' := hid_of hown'
        have HG' := hid_of hg'
        clear hown' hg' hnil
        go_wp2_with fail
        go_roundg (n - (j + 1))
        · refine ⟨j + 1, _, _, by omega, rfl, rfl, rfl, ?_, ?_⟩
          · exact (HB.out.alloc (by have := HB.out.size; have := HM.out; omega) _).grown HG'.out (by have := HB.out.size; have := HM.out; simp; omega) (fun k hk => own_block HOj.out hk)
          · rw [vals_succ]; exact HO'
        · omega
      · have hjn : n = j := by omega
        subst hjn
        go_wp2_with fail
        have HWr := hid_of (HB.out)
        by_cases hn0 : n = 0
        · subst hn0
          go_loopg [6] 0 (fun gk rv W => gk = 0 ∧ rv = .int .i64 1 ∧ W = wr)
          case atStart => exact ⟨rfl, rfl, rfl⟩
          case round =>
            obtain ⟨_, rfl, hW⟩ := hrel
            subst hW
            have c0 := (HK.out.kept HM.out HB.out).zero.c0
            go_wp2_with fail
            go_ret
            exact ⟨_, _, rfl, fun i hi => absurd hi (Nat.not_lt_zero _), HB.out⟩
        · obtain ⟨g, cp2, hv2, hMg⟩ := own_slice HOj.out (by intro e'; simp at e'; omega)
          simp only [Value.slice.injEq] at hv2
          obtain ⟨rfl, -, -⟩ := hv2
          have hrow := RowI.owned rfl HOj.out
          go_loopg [6] (n - 1) (fun gk rv W => ∃ (r : Nat), 1 ≤ r ∧ r ≤ n ∧ gk = n - r ∧ rv = .int .i64 r ∧ Hid (Below M w0 W) ∧ Hid (RowI W g 3 .i64 n (fun i => least e n i (r - 1))))
          case atStart => exact ⟨1, Nat.le_refl _, by omega, rfl, rfl, HB, hrow⟩
          case round =>
            obtain ⟨r, hr1, hrn, hgr, rfl, HBr, HRr⟩ := hrel
            by_cases hlr : r < n
            · have hN := sq_le hn
              have hrm : r * n ≤ n * n := Nat.mul_le_mul_right _ hrn
              have hrm1 : (r + 1) * n ≤ n * n := Nat.mul_le_mul_right _ hlr
              have hrm2 : (r + 1) * n = r * n + n := Nat.succ_mul _ _
              have c0 := (HK.out.kept HM.out HBr.out).zero.c0
              go_wp2_with fail
              clear c0
              go_loopg [34] n (fun gk jv W => ∃ (j : Nat), j ≤ n ∧ gk = n - j ∧ jv = .int .i64 j ∧ Hid (Below M w0 W) ∧ Hid (RowI W g 3 .i64 n (fun i => if i < j then least e n i r else least e n i (r - 1))))
              case atStart => exact ⟨0, Nat.zero_le _, rfl, rfl, HBr, HRr.out.congr (fun i _ => by simp)⟩
              case round =>
                obtain ⟨j, hj, hgj, rfl, HBj, HRj⟩ := hrel
                by_cases hlt2 : j < n
                · have c0 := (HK.out.kept HM.out HBj.out).zero.c0
                  have cj := HRj.out.cell hlt2
                  have fj := HRj.out.frozen j
                  simp only [Nat.lt_irrefl, if_false] at cj
                  have HKj := hid_of (HK.out.kept HM.out HBj.out)
                  go_wp2_with fail
                  go_region_with (go_at_call 12; refine (get_at B mb n lb (r * n + j) _ e _ (wrap_at hrm hN hlt2 hn) (by exact HKj.out.drew) (by omega)).mono ?_; rintro _ w' ⟨rfl, hw'⟩; rw [hw']; clear hw' w')
                  all_goals
                    go_wp2_with fail
                    all_goals
                      go_roundg (n - (j + 1))
                      · refine ⟨j + 1, by omega, rfl, rfl, ?_, ?_⟩
                        · exact (Below.setCell (p := ⟨g, j, none⟩) HBj.out hMg _).drew
                        · exact HRj.out.leastSet hr1 (by omega)
                      · omega
                · have hjn : n = j := by omega
                  subst hjn
                  go_wp2_with fail
                  go_roundg (n - (r + 1))
                  · exact ⟨r + 1, by omega, by omega, rfl, rfl, HBj, HRj.out.congr (fun i hi => if_pos hi)⟩
                  · omega
            · have hrn' : n = r := by omega
              subst hrn'
              have c0 := (HK.out.kept HM.out HBr.out).zero.c0
              go_wp2_with fail
              go_ret
              exact ⟨_, _, rfl, fun i hi => ⟨g, rfl, HRr.out.cell hi⟩, HBr.out⟩
end Go.Proofs.Ybulkdcya
