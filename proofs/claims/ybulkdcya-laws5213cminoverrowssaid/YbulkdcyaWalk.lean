/-
  OWN WORK. The law's own walk.
-/
import Derived.Test.YbulkdcyaLaw
namespace Go.Proofs.Ybulkdcya
open Go.RowKit

theorem Kn.first {w1 : World} {B lb n : Nat} (E : Nat → Int) (hrow : RowI w1 lb 5 .u8 (n * n) (fun _ => 0)) (hBl : B ≤ lb) (hB : B ≤ w1.heap.size) (hn : n ≤ 40) :
    Kn (w1.alloc (.cells #[.int .i64 n, .slice (some ⟨lb, 0, none⟩) (n * n) (n * n), .slice none 0 0] 26)) B w1.heap.size n lb (part E 0) := by
  have hmb := new_block w1 (.cells #[.int .i64 n, .slice (some ⟨lb, 0, none⟩) (n * n) (n * n), .slice none 0 0] 26)
  have hz : ∀ i, part E 0 i = 0 := fun i => by simp [part]
  refine .inl ⟨⟨?_, ?_, ?_, ?_, fun i => by rw [hz]; omega, ?_, hn, hB, hBl⟩, ?_, fun i _ => by rw [hz]; omega⟩
  · rw [cell_of_row _ _ _ _ _ _ hmb]; rfl
  · rw [cell_of_row _ _ _ _ _ _ hmb]; rfl
  · simp only [World.frozen?, hmb]; simp
  · exact (hrow.kept ((World.grownBy_alloc w1 _ none).block lb hrow.lt (by simp))).congr (fun i _ => by rw [hz]; rfl)
  · have := hrow.lt; omega
  · rw [cell_of_row _ _ _ _ _ _ hmb]; rfl

theorem least_step {E : Nat → Int} {n i r : Nat} (hr : 1 ≤ r) : least E n i r = min (least E n i (r - 1)) (E (r * n + i)) := by
  obtain ⟨q, rfl⟩ : ∃ q, r = q + 1 := ⟨r - 1, by omega⟩
  rfl

theorem own_cur {w : World} {base t g n : Nat} {xs : List Value} (h : w.ownsRow base t 1 (.slice (some ⟨g, 0, none⟩) n n) n xs) : ∃ cur : Array Value, w.heap[g]? = some (.cells cur t (0, 0)) ∧ cur.size = n := by
  rcases h.2 with ⟨h1, _⟩ | ⟨g', cap, cur, hv, _, hg, _, _, hs, _⟩
  · simp at h1
  · simp at hv
    obtain ⟨rfl, rfl⟩ := hv
    exact ⟨cur, hg, by omega⟩

theorem size3 {i3 : TypeInfo} (hi : Yba.prog.info? 3 = some i3) (hz1 : i3.size = 1) : (Yba.prog.info? 3).map (·.size) = some 1 := by rw [hi]; simp [hz1]

theorem src_cells {w w' : World} {x : Addr} {len : Nat} {z : Nat → Int} (h : ∀ i, i < len → w.cell? (x.add i) = some (.int .i64 (z i))) (hb : Below w.heap.size w w') : ∀ (j : Nat) (v : Value), (vals .i64 len z)[j]? = some v → w'.cell? (x.add j) = some v := by
  intro j v hv
  obtain ⟨hj, rfl⟩ := vals_at hv
  have h1 := h j hj
  rw [World.cell?_of_block (a := x.add j) (hb.block _ (World.block_lt_of_cell? w _ h1))]
  exact h1

set_option maxRecDepth 100000 in
set_option maxHeartbeats 2000000 in
theorem law_walk (a0 : Int) (a1 : Option Addr) (len1 cap1 : Nat) (z : Nat → Int) (a2 : Option Addr) (len2 cap2 : Nat) (z2 : Nat → Int) (w : World) (B : Nat) (hB : B = w.heap.size) (h0 : 0 ≤ a0 ∧ a0 ≤ 255) (hs : Src w a1 len1 z) (hl1 : len1 ≤ 4096) (hl2 : len2 ≤ 4096)
    (h2 : (a2 = none ∧ len2 = 0 ∧ cap2 = 0) ∨ ∃ x, a2 = some x ∧ ∀ i, i < len2 → w.cell? (x.add i) = some (.int .i64 (z2 i))) :
    Calls Yba.prog 3 #[.int .u8 a0, .slice a1 len1 cap1, .slice a2 len2 cap2] w fun e w' => e = .returned (.bool true) ∧ Below B w w' := by
  have HS := hid_of hs
  have HB := hid_of hB
  have H2 := hid_of h2
  have hrng := fun k => ent_rng hs k
  have HR := hid_of hrng
  clear hs hB h2 hrng
  go_enter Yba.func3, Yba.ntmps3
  go_wp2_with fail
  have hq : ∃ n : Nat, a0 % 40 = (n : Int) ∧ n ≤ 39 := ⟨(a0 % 40).toNat, by omega, by omega⟩
  obtain ⟨n, hq1, hq2⟩ := hq
  rw [hq1]
  clear hq1 h0
  refine (new_run n w (by omega)).mono ?_
  rintro _ w1 ⟨lb, rfl, hle, hrow, hg⟩
  have HL := hid_of hrow
  have HG := hid_of hg
  clear hrow hg
  go_wp2_with fail
  have hBw1 : B ≤ w1.heap.size := by have := HG.out.size; have := HB.out; omega
  have hk0 := Kn.first (ent len1 z) HL.out (by have := HB.out; omega) hBw1 (by omega)
  have hb0 : Below B w (w1.alloc (.cells #[.int .i64 n, .slice (some ⟨lb, 0, none⟩) (n * n) (n * n), .slice none 0 0] 26)) := ((Below.refl B w).grown HG.out (by have := HB.out; omega) (fun k hk => by cases hk)).alloc hBw1 _
  have HK0 := hid_of hk0
  have HB0 := hid_of hb0
  clear hk0 hb0 HL HG
  generalize w1.alloc (.cells #[.int .i64 n, .slice (some ⟨lb, 0, none⟩) (n * n) (n * n), .slice none 0 0] 26) = w2 at HK0 HB0 ⊢
  generalize w1.heap.size = mb at *
  have hN := sq_le (show n ≤ 40 by omega)
  go_loopg [9] (n * n) (fun gk kv W => ∃ k : Nat, k ≤ n * n ∧ gk = n * n - k ∧ kv = .int .i64 k ∧ Hid (Kn W B mb n lb (part (ent len1 z) k)) ∧ Hid (Below B w W))
  case atStart => exact ⟨0, Nat.zero_le _, rfl, rfl, HK0, HB0⟩
  case round =>
    obtain ⟨k, hk, hgk, rfl, HKk, HBk⟩ := hrel
    by_cases hlt : k < n * n
    · go_wp2_with fail
      refine (entry_any a1 len1 cap1 k z _ wr (HS.out.kept HB.out HBk.out) hl1 rfl (by omega)).mono ?_
      rintro _ w' ⟨rfl, hw'⟩
      rw [hw']
      clear hw' w'
      have he := HR.out k
      by_cases hv : 0 < ent len1 z k
      · go_wp2_with fail
        refine (set_any B mb n lb k (ent len1 z k) (part (ent len1 z) k) wr HKk.out hlt he.1 he.2 (by have := HBk.out.size; have := HB.out; omega)).mono ?_
        rintro _ w' ⟨rfl, hk', hb'⟩
        have HK' := hid_of hk'
        have HB' := hid_of hb'
        clear hk' hb'
        go_wp2_with fail
        go_roundg (n * n - (k + 1))
        · refine ⟨k + 1, by omega, rfl, rfl, ?_, HBk.out.trans HB'.out⟩
          rw [← part_upd]; exact HK'
        · omega
      · go_wp2_with fail
        go_roundg (n * n - (k + 1))
        · refine ⟨k + 1, by omega, rfl, rfl, ?_, HBk⟩
          rw [← part_zero (by omega)]; exact HKk
        · omega
    · obtain rfl : k = n * n := by omega
      have hlow := hid_of HKk.out.zero.low
      have c1 := HKk.out.zero.c1
      go_wp2_with fail
      refine (clone_byte lb (n * n) (n * n) _ wr hlow.out hN).mono ?_
      rintro _ wa ⟨cb, capb, rfl, hcb, hcr, hga⟩
      have hBa : Below wr.heap.size wr wa := (Below.refl _ _).grown hga (Nat.le_refl _) (fun k hk => by cases hk)
      have hKa := HKk.out.kept rfl hBa
      obtain ⟨vo, vl, vc, c2, hwh⟩ := hKa.whole
      have HCR := hid_of hcr
      have HBA := hid_of hBa
      have HKA := hid_of hKa
      have HWH := hid_of hwh
      clear hcr hga hBa hKa hwh c1 hlow
      go_wp2_with fail
      refine (clone_any wa (n * n) vo vl vc HWH.out hN).mono ?_
      rintro _ w3 ⟨co, cl, cc, rfl, htw, hg3⟩
      have hB3 : Below wa.heap.size wa w3 := (Below.refl _ _).grown hg3 (Nat.le_refl _) (fun k hk => by cases hk)
      have HT3 := hid_of htw
      have HK3 := hid_of (HKA.out.kept rfl hB3)
      have HC3 := hid_of (HCR.out.kept (hB3.block cb HCR.out.lt))
      have hBB : B ≤ wr.heap.size := by have := HBk.out.size; have := HB.out; omega
      have HB3 := hid_of ((HBk.out.trans (HBA.out.mono hBB)).trans (hB3.mono (by have := HBA.out.size; omega)))
      have c23 : w3.cell? ⟨mb, 2, none⟩ = some (.slice vo vl vc) := (World.cell?_of_block (a := ⟨mb, 2, none⟩) (hB3.block mb HKA.out.zero.mb_lt)).trans c2
      have HC23 := hid_of c23
      clear htw hg3 hB3 c23 c2 HWH HKA HBA HCR HKk HBk hBB HK0 HB0
      rcases H2.out with ⟨rfl, rfl, rfl⟩ | ⟨x, rfl, hx⟩
      · have q := neqNil23n w3
        go_wp2_with fail
        refine (held_run B mb n lb _ w3 w3 w3.heap.size rfl _ HK3.out (Below.refl _ _) (.inl rfl)).mono ?_
        rintro _ w5 ⟨ho, cp, rfl, hh, hb5⟩
        have HH := hid_of hh
        have HB5 := hid_of hb5
        clear hh hb5 q
        have HT5 := hid_of (HT3.out.kept HB5.out.block)
        have HK5 := hid_of (HK3.out.kept rfl HB5.out)
        have HC5 := hid_of (HC3.out.kept (HB5.out.block cb HC3.out.lt))
        have HBw5 := hid_of (HB3.out.trans (HB5.out.mono (by have := HB3.out.size; have := HB.out; omega)))
        have HC25 := hid_of ((World.cell?_of_block (a := ⟨mb, 2, none⟩) (HB5.out.block mb HK3.out.zero.mb_lt)).trans HC23.out)
        have HS5 := hid_of (HS.out.kept HB.out HBw5.out)
        clear HT3 HK3 HC3 HB5 HC23
        go_wp2_with fail
        go_loopg [15] n (fun gk iv W => ∃ i : Nat, i ≤ n ∧ gk = n - i ∧ iv = .int .i64 i ∧ W = w5)
        case atStart => exact ⟨0, Nat.zero_le _, rfl, rfl, rfl⟩
        case round =>
          obtain ⟨i, hi', hgi, rfl, hW⟩ := hrel
          rw [hW]
          clear hW
          by_cases hin : i < n
          · go_wp2_with fail
            refine (entry_any a1 len1 cap1 i z _ w5 HS5.out hl1 rfl (by omega)).mono ?_
            rintro _ w' ⟨rfl, hw'⟩
            rw [hw']
            clear hw' w'
            go_wp2_with fail
            go_loopg [16, 17] (n - 1) (fun gk lv rv W => ∃ r : Nat, 1 ≤ r ∧ r ≤ n ∧ gk = n - r ∧ rv = .int .i64 r ∧ lv = .int .i64 (least (ent len1 z) n i (r - 1)) ∧ W = w5)
            case atStart => exact ⟨1, Nat.le_refl _, by omega, rfl, rfl, rfl, rfl⟩
            case round =>
              obtain ⟨r, hr1, hrn, hgr, rfl, rfl, hW⟩ := hrel
              rw [hW]
              clear hW
              by_cases hlr : r < n
              · have hrm : r * n ≤ n * n := Nat.mul_le_mul_right _ hrn
                go_wp2_with fail
                refine (entry_any a1 len1 cap1 (r * n + i) z _ w5 HS5.out hl1 (by push_cast; rfl) (by omega)).mono ?_
                rintro _ w' ⟨rfl, hw'⟩
                rw [hw']
                clear hw' w'
                go_wp2_with fail
                all_goals
                  go_roundg (n - (r + 1))
                  · refine ⟨r + 1, by omega, by omega, rfl, rfl, ?_, rfl⟩
                    show _ = Value.int .i64 (least (ent len1 z) n i r)
                    exact congrArg (Value.int .i64) (by rw [least_step hr1]; omega)
                  · omega
              · obtain ⟨g, rfl, hc⟩ := HH.out i hin
                rw [least_congr (E := ent len1 z) (fun k hk => by simp [part, hk]) hin (n - 1) (by omega)] at hc
                have hrn' : n = r := by omega
                subst hrn'
                go_wp2_with fail
                go_roundg (n - (i + 1))
                · exact ⟨i + 1, by omega, rfl, rfl, rfl⟩
                · omega
          · have c0 := HK5.out.zero.c0
            have c1 := HK5.out.zero.c1
            have c2 := HC25.out
            go_wp2_with fail
            refine (equal_byte lb cb (n * n) (n * n) capb _ w5 HK5.out.zero.low HC5.out hN).mono ?_
            rintro _ w6 ⟨rfl, d, hw6⟩
            rw [hw6]
            clear hw6 w6
            go_wp2_with fail
            refine (equal_any (w5.drewN d) (n * n) vo vl vc co cl cc (HT5.out.kept (fun _ _ => rfl)) hN).mono ?_
            rintro _ w6 ⟨rfl, d2, hw6⟩
            rw [hw6]
            clear hw6 w6
            go_wp2_with fail
            go_ret
            exact ⟨rfl, below_drewN HBw5.out _⟩
      · have q := neqNil23s x len2 cap2 w3
        have HX := hid_of hx
        clear hx
        obtain ⟨i3, hi, hz0, hz1, hz2'⟩ := info_parts info3
        go_wp2_with (at_make; refine wpList_make_full _ rfl _ _ 23 rfl w3.heap.size 3 i3 _ 1 Yba.underlying23 hi hz0 hz1 _ _ _ _ len2 rfl rfl rfl rfl (by rw [hz2']; omega) (by unfold maxLen; omega) (Nat.le_refl _) ?_)
        intro w4 hown hg4
        obtain ⟨cur, hcur, hcs⟩ := own_cur hown
        have hB4 : Below w3.heap.size w3 w4 := (Below.refl _ _).grown hg4 (Nat.le_refl _) (fun k hk => by cases hk)
        have hX4 := src_cells HX.out (by rw [← HB.out]; exact HB3.out.trans (hB4.mono (by have := HB3.out.size; have := HB.out; omega)))
        have HX4 := hid_of hX4
        have HB4 := hid_of hB4
        have HCUR := hid_of hcur
        clear hown hg4 hB4 hX4 HX hcur
        have hrun := run_copy_row (P := Yba.prog) w4 23 23 3 3 w3.heap.size 0 len2 len2 x len2 cap2 cur 3 (vals .i64 len2 z2) Yba.underlying23 (size3 hi hz1) HCUR.out (by simp [length_vals]) HX4.out (by rw [length_vals]; omega) vals_one
        have hsz : (vals IntKind.i64 len2 z2 ++ List.drop (vals IntKind.i64 len2 z2).length cur.toList).toArray.size = len2 := by simp [length_vals, hcs]
        go_wp2_with fail
        refine (held_run B mb n lb _ w3 _ w3.heap.size rfl _ HK3.out (below_setRow HB4.out (Nat.le_refl _) _) (.inr ⟨_, _, _, rfl, Nat.le_refl _, setRow_heap _ _ _ _ _ _ HCUR.out, hsz, hl2⟩)).mono ?_
        clear hrun hsz
        rintro _ w5 ⟨ho, cp, rfl, hh, hb5⟩
        have HH := hid_of hh
        have HB5 := hid_of hb5
        clear hh hb5 q
        have HT5 := hid_of (HT3.out.kept HB5.out.block)
        have HK5 := hid_of (HK3.out.kept rfl HB5.out)
        have HC5 := hid_of (HC3.out.kept (HB5.out.block cb HC3.out.lt))
        have HBw5 := hid_of (HB3.out.trans (HB5.out.mono (by have := HB3.out.size; have := HB.out; omega)))
        have HC25 := hid_of ((World.cell?_of_block (a := ⟨mb, 2, none⟩) (HB5.out.block mb HK3.out.zero.mb_lt)).trans HC23.out)
        have HS5 := hid_of (HS.out.kept HB.out HBw5.out)
        clear HT3 HK3 HC3 HB5 HC23
        go_wp2_with fail
        go_loopg [15] n (fun gk iv W => ∃ i : Nat, i ≤ n ∧ gk = n - i ∧ iv = .int .i64 i ∧ W = w5)
        case atStart => exact ⟨0, Nat.zero_le _, rfl, rfl, rfl⟩
        case round =>
          obtain ⟨i, hi', hgi, rfl, hW⟩ := hrel
          rw [hW]
          clear hW
          by_cases hin : i < n
          · go_wp2_with fail
            refine (entry_any a1 len1 cap1 i z _ w5 HS5.out hl1 rfl (by omega)).mono ?_
            rintro _ w' ⟨rfl, hw'⟩
            rw [hw']
            clear hw' w'
            go_wp2_with fail
            go_loopg [16, 17] (n - 1) (fun gk lv rv W => ∃ r : Nat, 1 ≤ r ∧ r ≤ n ∧ gk = n - r ∧ rv = .int .i64 r ∧ lv = .int .i64 (least (ent len1 z) n i (r - 1)) ∧ W = w5)
            case atStart => exact ⟨1, Nat.le_refl _, by omega, rfl, rfl, rfl, rfl⟩
            case round =>
              obtain ⟨r, hr1, hrn, hgr, rfl, rfl, hW⟩ := hrel
              rw [hW]
              clear hW
              by_cases hlr : r < n
              · have hrm : r * n ≤ n * n := Nat.mul_le_mul_right _ hrn
                go_wp2_with fail
                refine (entry_any a1 len1 cap1 (r * n + i) z _ w5 HS5.out hl1 (by push_cast; rfl) (by omega)).mono ?_
                rintro _ w' ⟨rfl, hw'⟩
                rw [hw']
                clear hw' w'
                go_wp2_with fail
                all_goals
                  go_roundg (n - (r + 1))
                  · refine ⟨r + 1, by omega, by omega, rfl, rfl, ?_, rfl⟩
                    show _ = Value.int .i64 (least (ent len1 z) n i r)
                    exact congrArg (Value.int .i64) (by rw [least_step hr1]; omega)
                  · omega
              · obtain ⟨g, rfl, hc⟩ := HH.out i hin
                rw [least_congr (E := ent len1 z) (fun k hk => by simp [part, hk]) hin (n - 1) (by omega)] at hc
                have hrn' : n = r := by omega
                subst hrn'
                go_wp2_with fail
                go_roundg (n - (i + 1))
                · exact ⟨i + 1, by omega, rfl, rfl, rfl⟩
                · omega
          · have c0 := HK5.out.zero.c0
            have c1 := HK5.out.zero.c1
            have c2 := HC25.out
            go_wp2_with fail
            refine (equal_byte lb cb (n * n) (n * n) capb _ w5 HK5.out.zero.low HC5.out hN).mono ?_
            rintro _ w6 ⟨rfl, d, hw6⟩
            rw [hw6]
            clear hw6 w6
            go_wp2_with fail
            refine (equal_any (w5.drewN d) (n * n) vo vl vc co cl cc (HT5.out.kept (fun _ _ => rfl)) hN).mono ?_
            rintro _ w6 ⟨rfl, d2, hw6⟩
            rw [hw6]
            clear hw6 w6
            go_wp2_with fail
            go_ret
            exact ⟨rfl, below_drewN HBw5.out _⟩
end Go.Proofs.Ybulkdcya
