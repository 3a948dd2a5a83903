/- The law FnTimeReads: its walk, the end. -/
import Derived.Test.YtejlokdcocacaaaGreatDoorTrA
namespace Go.Proofs.YtejlokdcocacaaaGreatDoor
open Go.RowKit

theorem left_facts (p : Nat) (df : Int) : (df - df % ticksOf p).tmod (ticksOf p) = 0 ∧ 0 ≤ df - (df - df % ticksOf p) ∧ df - (df - df % ticksOf p) < ticksOf p := by
  have hm : (df - df % ticksOf p).tmod (ticksOf p) = 0 := by
    refine Int.tmod_eq_zero_of_dvd ⟨df / ticksOf p, ?_⟩
    have := Int.mul_ediv_add_emod df (ticksOf p)
    omega
  refine ⟨hm, ?_⟩
  rcases ticks_cases p with h | h | h | h <;> rw [h] <;> omega

set_option maxHeartbeats 8000000 in
set_option maxRecDepth 100000 in
theorem law_main {w : World} {B : Nat} (hT : Tabs w) (hB3 : 3 < B) (hB : B ≤ w.heap.size) (hG : Glob B w) (htab : Lib.TabIs Tryz.prog w "internal/strconv.uint64pow10" .u64 Lib.pow10Tab)
    (p : Nat) (hp : p ≤ 3) (x df : Int) (x0 : -9223372036854775808 ≤ x) (x1 : x ≤ 9223372036854775807) (d0 : -9223372035854775808 ≤ df) (d1 : df ≤ 9223372036854775807) :
    Calls Tryz.prog 3 #[.int .i64 p, .int .i64 x, .int .i64 df] w fun e w' => e = .returned (.bool true) ∧ Below w.heap.size w w' := by
  have e1 : ¬ (p : Int) > 3 := by omega
  have e2 : ¬ (3 : Int) < (p : Int) := by omega
  have e3 : ¬ df < -9223372035854775808 := by omega
  have hil := Lib.itoa_length_le x x0 x1
  have hl1 : ¬ 9223372036854775807 < 6 + (Lib.itoa x).length := by omega
  have hl2 : ¬ 9223372036854775807 < 6 + (Lib.itoa x).length + 7 := by omega
  have hb1 : Below w.heap.size w (w.alloc (.cells #[.int .i64 0, .int .i64 0, .int .i64 0, .int .i64 6, .int .i64 p, .int .i64 df, .int .i64 0, .int .i64 0, .int .i64 0, .int .i64 6, .int .i64 p, .int .i64 df] 23)) := (Below.refl _ _).alloc (Nat.le_refl _) _
  have htb := Lib.tabBelow_of_tabIs htab
  have HF := hid (Tryz.formatInt x x0 x1 _ (htb _ hb1))
  have HB1 := hid hb1
  have HT := hid hT
  have HG := hid hG
  have hnew := heap_alloc_new w (.cells #[.int .i64 0, .int .i64 0, .int .i64 0, .int .i64 6, .int .i64 p, .int .i64 df, .int .i64 0, .int .i64 0, .int .i64 0, .int .i64 6, .int .i64 p, .int .i64 df] 23)
  have HNEW := hid hnew
  clear hT hG htab htb hb1 hnew
  go_enter Tryz.func3, Tryz.ntmps3
  go_wp2_with fail
  refine HF.out.mono ?_
  rintro e w2 ⟨rfl, hk⟩
  have hb2 : Below (w.heap.size + 1) (w.alloc (.cells #[.int .i64 0, .int .i64 0, .int .i64 0, .int .i64 6, .int .i64 p, .int .i64 df, .int .i64 0, .int .i64 0, .int .i64 0, .int .i64 6, .int .i64 p, .int .i64 df] 23)) w2 := by
    obtain ⟨k, os, rfl⟩ := hk
    exact Lib.below_grow _ _ (by simp) k os
  have hrow := (hb2.block w.heap.size (by omega)).trans HNEW.out
  have hask : AsksAt w2 w.heap.size 4 (asksT p df) := by
    refine ⟨lt_of_block hrow, fun i hi => ?_⟩
    obtain rfl | rfl | rfl | rfl : i = 0 ∨ i = 1 ∨ i = 2 ∨ i = 3 := by omega
    all_goals exact ⟨cell_of_row w2 _ _ _ _ _ hrow, cell_of_row w2 _ _ _ _ _ hrow, cell_of_row w2 _ _ _ _ _ hrow⟩
  have hbel2 : Below w.heap.size w w2 := HB1.out.trans (hb2.mono (by omega))
  have HS := hid (script_T (HT.out.keep (hbel2.block 2 (by omega)) (hbel2.block 3 (by omega))) hB3 (by have := hbel2.size; omega) (HG.out.grow hbel2) p hp x df x0 x1 d0 d1 w.heap.size 4 hask)
  have HB2 := hid hbel2
  clear hk hb2 hrow hask hbel2 HF HB1 HT HG HNEW
  unfold textT at HS
  go_wp2_with fail
  refine HS.out.mono ?_
  rintro e w3 ⟨lv, rfl, hown, hb3⟩
  obtain ⟨hlen, hcase⟩ := hown
  have hg : ∃ g cap, lv = .slice (some ⟨g, 0, none⟩) 4 cap ∧ g < w3.heap.size ∧ w2.heap.size ≤ g ∧ (∀ j u, (flatC (csT (nanosOf p x) (df - df % ticksOf p)) 4)[j]? = some u → w3.cell? ⟨g, j, none⟩ = some u) ∧ 4 ≤ cap ∧ cap ≤ maxLen := by
    rcases hcase with ⟨_, h⟩ | ⟨g, cap, cur, rfl, hb, hh, h4, hm, hcs, htk⟩
    · omega
    · refine ⟨g, cap, rfl, lt_of_block hh, by omega, fun j u hj => ?_, h4, hm⟩
      rw [cell_of_row w3 g j _ _ _ hh]
      rw [← htk, List.getElem?_take] at hj
      split at hj
      · simpa using hj
      · cases hj
  obtain ⟨g, cap, rfl, hgl, hg2, hcell, hc4, hcm⟩ := hg
  have hbw3 := HB2.out.trans (hb3.mono HB2.out.size)
  have HB3 := hid hbw3
  have HN := hid (nanos_any (w := w3) p hp x)
  have HP := hid (fun w => precNanos_any (w := w) p hp)
  have hnb : (nanosOf p x).2 = true → True := fun _ => trivial
  have HC := hid hcell
  clear hcell hcase hlen hb3 hbw3 HS HB2 hnb
  unfold maxLen at hcm
  obtain ⟨lf1, lf2, lf3⟩ := left_facts p df
  have htk := ticks_pos p
  have ht9 : ticksOf p ≤ 1000000000 := by rcases ticks_cases p with h | h | h | h <;> rw [h] <;> decide
  rcases hn : nanosOf p x with ⟨n, ok⟩
  rw [hn] at HN HC
  obtain ⟨t, ht⟩ : ∃ t, ticksOf p = t := ⟨_, rfl⟩
  rw [ht] at HC HP lf1 lf2 lf3 htk ht9
  obtain ⟨nl, hnl⟩ : ∃ nl, df - df % t = nl := ⟨_, rfl⟩
  rw [hnl] at HC lf1 lf2 lf3
  clear hn ht hnl
  cases ok
  · go_wp2_with fail
    refine HN.out.mono ?_
    rintro e w4 ⟨rfl, hb4⟩
    have HB4 := hid (HB3.out.trans (hb4.mono HB3.out.size))
    have HB34 := hid hb4
    clear hb4 HB3 HN
    go_wp2_with fail
    refine (HP.out _).mono ?_
    rintro e w5 ⟨rfl, hb5⟩
    have hk := fun j => (hb5.cell (p := ⟨g, j, none⟩) (by have := HB34.out.size; exact Nat.lt_of_lt_of_le hgl this)).trans (HB34.out.cell (p := ⟨g, j, none⟩) hgl)
    have c0 : w5.cell? ⟨g, 0, none⟩ = some (.bool true) := (hk 0).trans (HC.out 0 _ rfl)
    have c30 : w5.cell? ⟨g, 30, none⟩ = some (.bool true) := (hk 30).trans (HC.out 30 _ rfl)
    have c15 : w5.cell? ⟨g, 15, none⟩ = some (.bool false) := (hk 15).trans (HC.out 15 _ rfl)
    have c26 : w5.cell? ⟨g, 26, none⟩ = some (.bool true) := (hk 26).trans (HC.out 26 _ rfl)
    have c29 : w5.cell? ⟨g, 29, none⟩ = some (.bool true) := (hk 29).trans (HC.out 29 _ rfl)
    have c27 : w5.cell? ⟨g, 27, none⟩ = some (.int .i64 0) := (hk 27).trans (HC.out 27 _ rfl)
    have c45 : w5.cell? ⟨g, 45, none⟩ = some (.bool true) := (hk 45).trans (HC.out 45 _ rfl)
    have c55 : w5.cell? ⟨g, 55, none⟩ = some (.int .i64 nl) := (hk 55).trans (HC.out 55 _ rfl)
    have c56 : w5.cell? ⟨g, 56, none⟩ = some (.bool false) := (hk 56).trans (HC.out 56 _ rfl)
    have HB5 := hid (HB4.out.trans (hb5.mono HB4.out.size))
    clear hb5 hk HB4 HB34 HC HP
    go_wp2_with fail
    go_ret
    exact ⟨rfl, HB5.out⟩
  · go_wp2_with fail
    refine HN.out.mono ?_
    rintro e w4 ⟨rfl, hb4⟩
    have HB4 := hid (HB3.out.trans (hb4.mono HB3.out.size))
    have HB34 := hid hb4
    clear hb4 HB3 HN
    go_wp2_with fail
    refine (HP.out _).mono ?_
    rintro e w5 ⟨rfl, hb5⟩
    have hk := fun j => (hb5.cell (p := ⟨g, j, none⟩) (by have := HB34.out.size; exact Nat.lt_of_lt_of_le hgl this)).trans (HB34.out.cell (p := ⟨g, j, none⟩) hgl)
    have c0 : w5.cell? ⟨g, 0, none⟩ = some (.bool true) := (hk 0).trans (HC.out 0 _ rfl)
    have c30 : w5.cell? ⟨g, 30, none⟩ = some (.bool true) := (hk 30).trans (HC.out 30 _ rfl)
    have c15 : w5.cell? ⟨g, 15, none⟩ = some (.bool true) := (hk 15).trans (HC.out 15 _ rfl)
    have c25 : w5.cell? ⟨g, 25, none⟩ = some (.int .i64 n) := (hk 25).trans (HC.out 25 _ rfl)
    have c45 : w5.cell? ⟨g, 45, none⟩ = some (.bool true) := (hk 45).trans (HC.out 45 _ rfl)
    have c55 : w5.cell? ⟨g, 55, none⟩ = some (.int .i64 nl) := (hk 55).trans (HC.out 55 _ rfl)
    have c56 : w5.cell? ⟨g, 56, none⟩ = some (.bool false) := (hk 56).trans (HC.out 56 _ rfl)
    have HB5 := hid (HB4.out.trans (hb5.mono HB4.out.size))
    clear hb5 hk HB4 HB34 HC HP
    go_wp2_with fail
    go_ret
    exact ⟨rfl, HB5.out⟩
end Go.Proofs.YtejlokdcocacaaaGreatDoor
