/- The law FnDecodeSkips: the loop over the times. Printed by gen_skb2.py. -/
import Derived.Test.YtejlokdcocacaaaGreatDoorKSkB1
namespace Go.Proofs.YtejlokdcocacaaaGreatDoor
open Go.RowKit

/-- Behind the first comparing loop. -/
structure Law4 (w4 : World) (v0 v3 v5 v7 v9 : Value) (a : Act) (wx : World) : Prop where
  frm : Fr4 v0 v3 v5 v7 v9 a
  on : Hid (Below w4.heap.size w4 wx)

set_option maxHeartbeats 200000000 in
set_option maxRecDepth 100000 in
theorem law_loop2 {w3 w4 : World} {B1 B2 D E k : Nat} {s : ByteArray} {q1 q2 : Option Addr} {c1 c2 : Nat} {v0 v3 v9 : Value} {xs1 : List Value} {Rq : Ending → World → Prop} (hn : k ≤ 90) (_ : (k : Int) ≤ 90)
    (HO1 : Hid (w3.ownsRow B1 48 10 (.slice q1 k c1) k xs1)) (HROWS : Hid (∀ i, i < k → RowAt B1 D E (.slice q1 k c1) xs1 w3 i (mNx (msAt s.data.toList i)))) (HHAS : Hid (∀ i, i < k → (mNx (msAt s.data.toList i)).has 1 = true))
    (HB4 : Hid (Below w3.heap.size w3 w4)) (hs34 : w3.heap.size ≤ w4.heap.size)
    (HO2 : Hid (w4.ownsRow B2 39 15 (.slice q2 (2 * k) c2) (2 * k) (flatC (tcs s.data.toList) (2 * k)))) {K : Act → World → Prop}
    (hK : ∀ a' w', Law4 w4 v0 v3 (.slice q1 k c1) (.slice q2 (2 * k) c2) v9 a' w' → K a' w') {a : Act} (ha : Fr4 v0 v3 (.slice q1 k c1) (.slice q2 (2 * k) c2) v9 a) :
    c17.wp Tryz.prog (Exit.then (b17.wp Tryz.prog (Exit.then K (bodyPost Tryz.prog Tryz.f4 Rq))) (Exit.then K (bodyPost Tryz.prog Tryz.f4 Rq))) a w4 := by
  refine Fr4.elim (P := fun a => c17.wp Tryz.prog _ a w4) ?_ ha
  intros
  clear ha
  refine unseq fun K1 hK1 => ?_
  conv at hK1 => enter [a, w, 1, 2]; whnf
  conv => enter [2]; whnf
  go_wp2_with fail
  go_loopg [72] (k + 1) (fun gh s72 wx => ∃ i : Nat, gh = k + 1 - i ∧ i ≤ k ∧ s72 = .int .i64 i ∧ Hid (Below w4.heap.size w4 wx))
  case atStart => exact ⟨0, rfl, Nat.zero_le _, rfl, Below.refl _ _⟩
  case round =>
  obtain ⟨i, hgh, hi, rfl, hbe⟩ := hrel
  by_cases hlt : i < k
  · as_aux_lemma =>
    obtain ⟨g1, cap1, hv1, hg1l, hg1b, hc1, hn1, hm1⟩ := rowE_cells HO1.out (by omega)
    obtain ⟨g2, cap2, hv2, hg2l, hg2b, hc2, hn2, hm2⟩ := rowE_cells HO2.out (by omega)
    obtain ⟨rfl, rfl⟩ : q1 = some ⟨g1, 0, none⟩ ∧ c1 = cap1 := by injection hv1 with a b c; exact ⟨a, c⟩
    obtain ⟨rfl, rfl⟩ : q2 = some ⟨g2, 0, none⟩ ∧ c2 = cap2 := by injection hv2 with a b c; exact ⟨a, c⟩
    obtain ⟨nm, p1, m1, cc1, fv, av, hr1, hf1⟩ := entry_at HROWS.out hc1 hlt
    have hr2 := told_at (fun i => (tcs_good s.data.toList i).1) hc2 (show 2 * i + 1 < 2 * k by omega)
    have hr3 := told_at (fun i => (tcs_good s.data.toList i).1) hc2 (show 2 * i < 2 * k by omega)
    have et : tcs s.data.toList (2 * i + 1) = toldT (mEntry (mNx (msAt s.data.toList i))).2 := by unfold tcs; rw [if_neg (by omega), show (2 * i + 1) / 2 = i by omega]
    have en : tcs s.data.toList (2 * i) = toldC true ⟨#[]⟩ ⟨#[]⟩ 0 0 false 0 0 false := by unfold tcs; rw [if_pos (by omega), show 2 * i / 2 = i by omega, HHAS.out i hlt]
    rw [et] at hr2
    rw [en] at hr3
    have hbw := HB4.out.trans (hbe.out.mono hs34)
    have hr1w := range_keep hbw hg1l hr1
    have hr2w := range_keep hbe.out hg2l hr2
    have hr3w := range_keep hbe.out hg2l hr3
    have hbs := hbe.out.size
    have hbs3 := hbw.size
    have HLT := hid hlt
    have HGH := hid hgh
    have hiI : (i : Int) < (k : Int) := by omega
    have hone := (rowOf_one nm p1 m1 cc1 _ _ _ _ fv av (mEntry (mNx (msAt s.data.toList i))).2 hf1).2
    generalize (mEntry (mNx (msAt s.data.toList i))).2 = r at hr1w hr2w hone
    have HONE : Hid ((rowOf (.string nm) (.slice p1 m1 cc1) fv av r).all (·.oneCell') = true) := hid (Array.all_eq_true_iff_forall_mem.2 fun u hu => hone u (by simpa using hu))
    have HR2 := hid hr2w
    have HR3 := hid hr3w
    have HR1 := hid hr1w
    have HZ11 := hid (heap_alloc_new wr (.cells zE 48))
    have hbel5 := below_row ((Below.refl wr.heap.size wr).alloc (Nat.le_refl _) (.cells zE 48)) (g := wr.heap.size) (Nat.le_refl _) (rowOf (.string nm) (.slice p1 m1 cc1) fv av r)
    have hk11 := setRow_heap (wr.alloc (.cells zE 48)) wr.heap.size _ (rowOf (.string nm) (.slice p1 m1 cc1) fv av r) _ _ HZ11.out
    clear hr1w hr2w hr3w hone
    obtain ⟨K1, hK1⟩ : ∃ K1, wr.heap.size = K1 := ⟨_, rfl⟩
    obtain ⟨v5, hv5⟩ : ∃ v5, (wr.alloc (.cells zE 48)).setRow K1 (rowOf (.string nm) (.slice p1 m1 cc1) fv av r) = v5 := ⟨_, rfl⟩
    rw [hK1] at hbel5 hk11 HZ11
    rw [hv5] at hbel5 hk11
    have hg1K : g1 < K1 := by omega
    have hg2K : g2 < K1 := by omega
    have HR2' := hid (range_keep hbel5 hg2K HR2.out)
    have HR3' := hid (range_keep hbel5 hg2K HR3.out)
    have HZ12 := hid (heap_alloc_new v5 z39)
    have hk15 : K1 < v5.heap.size := lt_of_block hk11
    obtain ⟨K2, hK2⟩ : ∃ K2, v5.heap.size = K2 := ⟨_, rfl⟩
    have hbel6 := below_row ((Below.refl v5.heap.size v5).alloc (Nat.le_refl _) z39) (g := v5.heap.size) (Nat.le_refl _) (toldT r)
    have hk12 := setRow_heap (v5.alloc z39) v5.heap.size _ (toldT r) _ _ HZ12.out
    rw [hK2] at hbel6 hk12 HZ12
    obtain ⟨v6, hv6⟩ : ∃ v6, (v5.alloc z39).setRow K2 (toldT r) = v6 := ⟨_, rfl⟩
    rw [hv6] at hbel6 hk12
    have HK11 := hid ((hbel6.block K1 (by omega)).trans hk11)
    have HK12 := hid hk12
    have HR3'' := hid (range_keep hbel6 (by omega) HR3'.out)
    have hbel7 : Below K1 wr v6 := hbel5.trans (hbel6.mono (by omega))
    have HBE := hid (hbe.out.trans (hbel7.mono (by omega)))
    have hgd2 := toldT_good r
    have HONE2 : Hid ((toldT r).all (·.oneCell') = true) := hid (Array.all_eq_true_iff_forall_mem.2 fun u hu => hgd2.2 u (by simpa using hu))
    clear hbel5 hk11 hbel6 hk12 hgd2 HR2 HR3 hbe hgh hlt hv1 hv2 hc1 hc2 hr1 hr2 hr3 et en hbw hn1 hn2 hg1b hg2b hm1 hm2
    clear hf1
    cases r with
    | err f =>
      go_upto_region 20 with (first | (refine at_op ⟨_, .load 48 (.tmp 75), _, _, _, _⟩ rfl ?_; refine wpList_load_mid (op := ⟨_, .load 48 (.tmp 75), _, _, _, _⟩) rfl 48 _ rfl g1 (i * 10) rfl _ _ HR1.out Tryz.underlying48 rfl info48s ?_) | (refine at_op ⟨none, .store 48 (.tmp 11) (.tmp 76), _, _, _, _⟩ rfl ?_; refine wpList_store_row (o := ⟨none, .store 48 (.tmp 11) (.tmp 76), _, _, _, _⟩) rfl 48 _ _ rfl K1 (rowOf (.string nm) (.slice p1 m1 cc1) fv av (.err f)) rfl rfl 48 _ HZ11.out info48s rfl HONE.out ?_; change wpList _ _ _ _ _ ((wr.alloc (.cells zE 48)).setRow K1 (rowOf (.string nm) (.slice p1 m1 cc1) fv av (.err f))); rw [hv5]))
      clear hv5 HR1 HZ11 HONE
      go_upto_region 21 with (first | (refine at_op ⟨_, .load 39 (.tmp 81), _, _, _, _⟩ rfl ?_; refine wpList_load_mid (op := ⟨_, .load 39 (.tmp 81), _, _, _, _⟩) rfl 39 _ rfl g2 ((2 * i + 1) * 15) rfl _ _ HR2'.out Tryz.underlying39 rfl info39s ?_) | (refine at_op ⟨none, .store 39 (.tmp 12) (.tmp 82), _, _, _, _⟩ rfl ?_; refine wpList_store_row (o := ⟨none, .store 39 (.tmp 12) (.tmp 82), _, _, _, _⟩) rfl 39 _ _ rfl K2 (toldT (.err f)) rfl rfl 39 _ HZ12.out info39s rfl HONE2.out ?_; change wpList _ _ _ _ _ ((v5.alloc z39).setRow K2 (toldT (.err f))); rw [hv6]))
      clear hv6 HR2' HZ12 HONE2
      have c20 : v6.cell? ⟨g2, 2 * i * 15, none⟩ = some (.bool true) := HR3''.out 0 _ rfl
      have e5 : v6.cell? ⟨K1, 5, none⟩ = some (.bool true) := cell_of_row v6 K1 5 _ _ _ HK11.out
      have e6 : v6.cell? ⟨K1, 6, none⟩ = some (.int .i64 f.line) := cell_of_row v6 K1 6 _ _ _ HK11.out
      have e7 : v6.cell? ⟨K1, 7, none⟩ = some (.int .i64 f.col) := cell_of_row v6 K1 7 _ _ _ HK11.out
      have e8 : v6.cell? ⟨K1, 8, none⟩ = some (.bool false) := cell_of_row v6 K1 8 _ _ _ HK11.out
      have t11 : v6.cell? ⟨K2, 11, none⟩ = some (.bool true) := cell_of_row v6 K2 11 _ _ _ HK12.out
      have t12 : v6.cell? ⟨K2, 12, none⟩ = some (.int .i64 f.line) := cell_of_row v6 K2 12 _ _ _ HK12.out
      have t13 : v6.cell? ⟨K2, 13, none⟩ = some (.int .i64 f.col) := cell_of_row v6 K2 13 _ _ _ HK12.out
      have t14 : v6.cell? ⟨K2, 14, none⟩ = some (.bool false) := cell_of_row v6 K2 14 _ _ _ HK12.out
      clear HR3''
      go_wp2_with fail
      go_roundg (k + 1 - (i + 1))
      case measure => have := HGH.out; have := HLT.out; omega
      case rel => exact ⟨i + 1, rfl, by have := HLT.out; omega, by go_num, HBE⟩
    | ok l =>
      obtain ⟨hb, hhb⟩ : ∃ hb, decide (l ≠ []) = hb := ⟨_, rfl⟩
      go_upto_region 20 with (first | (refine at_op ⟨_, .load 48 (.tmp 75), _, _, _, _⟩ rfl ?_; refine wpList_load_mid (op := ⟨_, .load 48 (.tmp 75), _, _, _, _⟩) rfl 48 _ rfl g1 (i * 10) rfl _ _ HR1.out Tryz.underlying48 rfl info48s ?_) | (refine at_op ⟨none, .store 48 (.tmp 11) (.tmp 76), _, _, _, _⟩ rfl ?_; refine wpList_store_row (o := ⟨none, .store 48 (.tmp 11) (.tmp 76), _, _, _, _⟩) rfl 48 _ _ rfl K1 (rowOf (.string nm) (.slice p1 m1 cc1) fv av (.ok l)) rfl rfl 48 _ HZ11.out info48s rfl HONE.out ?_; change wpList _ _ _ _ _ ((wr.alloc (.cells zE 48)).setRow K1 (rowOf (.string nm) (.slice p1 m1 cc1) fv av (.ok l))); rw [hv5]))
      clear hv5 HR1 HZ11 HONE
      go_upto_region 21 with (first | (refine at_op ⟨_, .load 39 (.tmp 81), _, _, _, _⟩ rfl ?_; refine wpList_load_mid (op := ⟨_, .load 39 (.tmp 81), _, _, _, _⟩) rfl 39 _ rfl g2 ((2 * i + 1) * 15) rfl _ _ HR2'.out Tryz.underlying39 rfl info39s ?_) | (refine at_op ⟨none, .store 39 (.tmp 12) (.tmp 82), _, _, _, _⟩ rfl ?_; refine wpList_store_row (o := ⟨none, .store 39 (.tmp 12) (.tmp 82), _, _, _, _⟩) rfl 39 _ _ rfl K2 (toldT (.ok l)) rfl rfl 39 _ HZ12.out info39s rfl HONE2.out ?_; change wpList _ _ _ _ _ ((v5.alloc z39).setRow K2 (toldT (.ok l))); rw [hv6]))
      clear hv6 HR2' HZ12 HONE2
      have c20 : v6.cell? ⟨g2, 2 * i * 15, none⟩ = some (.bool true) := HR3''.out 0 _ rfl
      have e3 : v6.cell? ⟨K1, 3, none⟩ = some (.string ⟨l.toArray⟩) := cell_of_row v6 K1 3 _ _ _ HK11.out
      have e4 : v6.cell? ⟨K1, 4, none⟩ = some (.bool hb) := by rw [← hhb]; exact cell_of_row v6 K1 4 _ _ _ HK11.out
      have e5 : v6.cell? ⟨K1, 5, none⟩ = some (.bool false) := cell_of_row v6 K1 5 _ _ _ HK11.out
      have e6 : v6.cell? ⟨K1, 6, none⟩ = some (.int .i64 0) := cell_of_row v6 K1 6 _ _ _ HK11.out
      have e7 : v6.cell? ⟨K1, 7, none⟩ = some (.int .i64 0) := cell_of_row v6 K1 7 _ _ _ HK11.out
      have e8 : v6.cell? ⟨K1, 8, none⟩ = some (.bool false) := cell_of_row v6 K1 8 _ _ _ HK11.out
      have t0 : v6.cell? ⟨K2, 0, none⟩ = some (.bool hb) := by rw [← hhb]; exact cell_of_row v6 K2 0 _ _ _ HK12.out
      have t1 : v6.cell? ⟨K2, 1, none⟩ = some (.string ⟨l.toArray⟩) := cell_of_row v6 K2 1 _ _ _ HK12.out
      have t11 : v6.cell? ⟨K2, 11, none⟩ = some (.bool false) := cell_of_row v6 K2 11 _ _ _ HK12.out
      have t12 : v6.cell? ⟨K2, 12, none⟩ = some (.int .i64 0) := cell_of_row v6 K2 12 _ _ _ HK12.out
      have t13 : v6.cell? ⟨K2, 13, none⟩ = some (.int .i64 0) := cell_of_row v6 K2 13 _ _ _ HK12.out
      have t14 : v6.cell? ⟨K2, 14, none⟩ = some (.bool false) := cell_of_row v6 K2 14 _ _ _ HK12.out
      clear hhb
      clear HR3''
      go_wp2_with fail
      go_roundg (k + 1 - (i + 1))
      case measure => have := HGH.out; have := HLT.out; omega
      case rel => exact ⟨i + 1, rfl, by have := HLT.out; omega, by go_num, HBE⟩
  obtain rfl : k = i := by omega
  have e1 : ¬ (k : Int) < (k : Int) := by omega
  clear hgh hi
  go_wp2_with fail
  exact ⟨⟨rfl, rfl, rfl, rfl, rfl, rfl, rfl⟩, hbe⟩
end Go.Proofs.YtejlokdcocacaaaGreatDoor
