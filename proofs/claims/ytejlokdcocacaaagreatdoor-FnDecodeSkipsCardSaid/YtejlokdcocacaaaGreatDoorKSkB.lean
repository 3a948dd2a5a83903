/- The law FnDecodeSkips, by the reference's entries. Printed by gen_skb2.py. -/
import Derived.Test.YtejlokdcocacaaaGreatDoorKSkB2
namespace Go.Proofs.YtejlokdcocacaaaGreatDoor
open Go.RowKit

set_option maxHeartbeats 200000000 in
set_option maxRecDepth 100000 in
theorem law_mid {w w3 w5 : World} {B B1 D E k : Nat} {s : ByteArray} {q0 q1 : Option Addr} {c0 c1 : Nat} {v7 v9 : Value} {xs1 : List Value} (HT : Hid (Tabs w)) (HG : Hid (Glob B w)) (hB3 : 3 < B) (hB : B ≤ w.heap.size) (hs : s.size ≤ 800) (hn : k ≤ 90) (hnI : (k : Int) ≤ 90)
    (HO1 : Hid (w3.ownsRow B1 48 10 (.slice q1 k c1) k xs1)) (HROWS : Hid (∀ i, i < k → RowAt B1 D E (.slice q1 k c1) xs1 w3 i (mNx (msAt s.data.toList i)))) (HHAS : Hid (∀ i, i < k → (mNx (msAt s.data.toList i)).has 1 = true))
    (HB35 : Hid (Below w3.heap.size w3 w5)) (hs35 : w3.heap.size ≤ w5.heap.size) (HBW5 : Hid (Below w.heap.size w w5)) (hsz5 : w.heap.size ≤ w5.heap.size)
    {a : Act} (ha : Fr4 (.string s) (.slice q0 k c0) (.slice q1 k c1) v7 v9 a) : r4.wp Tryz.prog (bodyPost Tryz.prog Tryz.f4 (fun e w' => e = .returned (.bool true) ∧ Below w.heap.size w w')) a w5 := by
  refine Fr4.elim (P := fun a => r4.wp Tryz.prog _ a w5) ?_ ha
  intros
  clear ha
  conv => enter [2]; whnf
  go_wp2_with fail
  go_loopg [4, 120] (k + 1) (fun gh s4 s29 wx => ∃ i : Nat, gh = k + 1 - i ∧ i ≤ k ∧ s29 = .int .i64 i ∧ Hid (wx.ownsRow w5.heap.size 23 3 s4 (2 * i) (askL 4 i)) ∧ Hid (Below w5.heap.size w5 wx))
  case atStart => exact ⟨0, rfl, Nat.zero_le _, rfl, rowE_nil _ _ _ _, Below.refl _ _⟩
  case round =>
  obtain ⟨i, hgh, hi, rfl, how, hbe⟩ := hrel
  by_cases hlt : i < k
  · as_aux_lemma =>
      have e1 : (i : Int) < (k : Int) := by omega
      have hB9 := hbe.out.size
      obtain ⟨v', w', happ, hown, hgr⟩ := calls_more how.out (by omega) hB9
      have HB9 := hid (grown_below hbe.out rfl hgr (fun g hg => (rowE_lt how.out g hg).1))
      have HO9 := hid hown
      have HLT := hid hlt
      have HGH := hid hgh
      clear hgr hown hbe how hgh hlt hB9
      go_wp2_with (first | (refine at_op ⟨some 125, .buildSlice 24 2 #[(0, .tmp 123), (1, .tmp 124)], 24, _, _, _⟩ rfl ?_; refine wpList_val (o := ⟨some 125, .buildSlice 24 2 #[(0, .tmp 123), (1, .tmp 124)], 24, _, _, _⟩) rfl (x_two23 (op := 4) rfl rfl rfl) ?_) | (refine at_op ⟨some 126, .call { callee := .builtin .append, args := #[.tmp 122, .tmp 125], argTypes := #[24, 24] }, 24, _, _, _⟩ rfl ?_; refine wpList_val (o := ⟨some 126, .call { callee := .builtin .append, args := #[.tmp 122, .tmp 125], argTypes := #[24, 24] }, 24, _, _, _⟩) rfl (x_appE rfl rfl rfl happ) ?_))
      go_roundg (k + 1 - (i + 1))
      case measure => have := HGH.out; have := HLT.out; omega
      case rel => exact ⟨i + 1, rfl, by have := HLT.out; omega, by go_num, HO9, HB9⟩
  obtain rfl : k = i := by omega
  have e1 : ¬ (k : Int) < (k : Int) := by omega
  have hbw := HBW5.out.trans (hbe.out.mono hsz5)
  have hsz6 := hbw.size
  have hs56 := hbe.out.size
  obtain ⟨p5, b5, c5, hv5, hp5, hask5⟩ := asksAt_of how.out
  subst hv5
  have HS := hid (script_field (w := wr) s (by omega) (HT.out.keep (hbw.block 2 (by omega)) (hbw.block 3 (by omega))) hB3 (by omega) (HG.out.grow hbw) k hn p5 b5 c5 hp5 hask5)
  have HBW6 := hid hbw
  have HB56 := hid hbe.out
  clear hp5 hask5 hbw how hbe hgh hi
  go_wp2_with fail
  refine HS.out.mono ?_
  rintro e w7 ⟨lv3, rfl, hown3, hb7⟩
  obtain ⟨q3, c3, rfl⟩ := rowE_slice hown3
  have HBW7 := hid (HBW6.out.trans (hb7.mono hsz6))
  have HB37 := hid ((HB35.out.trans (HB56.out.mono (by omega))).trans (hb7.mono (by omega)))
  have HO3 := hid hown3
  have hsz7 := HBW7.out.size
  have hs37 := HB37.out.size
  clear HS hown3 hb7 HBW6 HB56
  go_upto_region 30 with fail
  exact reseq (by assumption) (law_end hn hnI HO1 HROWS HHAS HB37 hs37 HBW7 hsz7 HO3 (by assumption) ⟨rfl, rfl, rfl, rfl, rfl, rfl, rfl⟩)

set_option maxHeartbeats 200000000 in
set_option maxRecDepth 100000 in
theorem law_core {w : World} {B : Nat} (hT : Tabs w) (hB3 : 3 < B) (hB : B ≤ w.heap.size) (hG : Glob B w) (s : ByteArray) (hs : s.size ≤ 800) (hL : Calls Tryz.prog 9 #[.string s] w (LnP s w)) :
    Calls Tryz.prog 4 #[.string s] w fun e w' => e = .returned (.bool true) ∧ Below w.heap.size w w' := by
  have hl1 : ¬ (s.size : Int) > 2147483647 := by omega
  have hl2 : ¬ (s.size : Int) > 800 := by omega
  have hl3 : (s.size : Int) ≤ 800 := by omega
  have HL := hid hL
  have HT := hid hT
  have HG := hid hG
  clear hL hT hG
  go_enter Tryz.func4, Tryz.ntmps4
  go_wp2_with fail
  refine HL.out.mono ?_
  rintro e w1 ⟨n, lv0, xs0, rfl, hown0, hn9, hhas, hend, hb1⟩
  obtain ⟨q0, c0, rfl⟩ := rowE_slice hown0
  have HB1 := hid hb1
  have HHAS := hid hhas
  have HEND := hid hend
  have hw1 := hb1.size
  clear hown0 hhas hend hb1 HL hl1 hl2 hl3
  by_cases hn : n ≤ 90
  case neg =>
    have e90 : (90 : Int) < (n : Int) := by omega
    go_wp2_with fail
    go_ret
    exact ⟨rfl, HB1.out⟩
  have e90 : ¬ (90 : Int) < (n : Int) := by omega
  have hnI : (n : Int) ≤ 90 := by omega
  go_wp2_with fail
  clear e90
  go_loopg [4, 29] (n + 1) (fun gh s4 s29 wx => ∃ k : Nat, gh = n + 1 - k ∧ k ≤ n ∧ s29 = .int .i64 k ∧ Hid (wx.ownsRow w1.heap.size 23 3 s4 (2 * k) (askL 5 k)) ∧ Hid (Below w1.heap.size w1 wx))
  case atStart => exact ⟨0, rfl, Nat.zero_le _, rfl, rowE_nil _ _ _ _, Below.refl _ _⟩
  case round =>
  obtain ⟨k, hgh, hk, rfl, how, hbe⟩ := hrel
  by_cases hlt : k < n
  · as_aux_lemma =>
      have e1 : (k : Int) < (n : Int) := by omega
      have hB9 := hbe.out.size
      obtain ⟨v', w', happ, hown, hgr⟩ := calls_more how.out (by omega) hB9
      have HB9 := hid (grown_below hbe.out rfl hgr (fun g hg => (rowE_lt how.out g hg).1))
      have HO9 := hid hown
      have HLT := hid hlt
      have HGH := hid hgh
      clear hgr hown hbe how hgh hlt hB9
      go_wp2_with (first | (refine at_op ⟨some 34, .buildSlice 24 2 #[(0, .tmp 32), (1, .tmp 33)], 24, _, _, _⟩ rfl ?_; refine wpList_val (o := ⟨some 34, .buildSlice 24 2 #[(0, .tmp 32), (1, .tmp 33)], 24, _, _, _⟩) rfl (x_two23 (op := 5) rfl rfl rfl) ?_) | (refine at_op ⟨some 35, .call { callee := .builtin .append, args := #[.tmp 31, .tmp 34], argTypes := #[24, 24] }, 24, _, _, _⟩ rfl ?_; refine wpList_val (o := ⟨some 35, .call { callee := .builtin .append, args := #[.tmp 31, .tmp 34], argTypes := #[24, 24] }, 24, _, _, _⟩) rfl (x_appE rfl rfl rfl happ) ?_))
      go_roundg (n + 1 - (k + 1))
      case measure => have := HGH.out; have := HLT.out; omega
      case rel => exact ⟨k + 1, rfl, by have := HLT.out; omega, by go_num, HO9, HB9⟩
  obtain rfl : k = n := by omega
  have e1 : ¬ (k : Int) < (k : Int) := by omega
  have hbw := HB1.out.trans (hbe.out.mono hw1)
  have HBW := hid hbw
  have hsz2 := hbw.size
  have HA := hid (all_skips (w := wr) s (by omega) (HT.out.keep (hbw.block 2 (by omega)) (hbw.block 3 (by omega))) hB3 (by omega) (HG.out.grow hbw) k (by omega) HHAS.out HEND.out)
  clear hgh hbw hbe
  go_wp2_with fail
  refine HA.out.mono ?_
  rintro e w3 ⟨lv1, xs1, D, E, rfl, hown1, hrows, hb3⟩
  have hbw3 := HBW.out.trans (hb3.mono hsz2)
  have how3 := rowE_keep how.out (fun g hg => hb3.block g (rowE_lt how.out g hg).2)
  obtain ⟨p, b, c, hv4, hp, hask⟩ := asksAt_of how3
  have hsz3 := hbw3.size
  subst hv4
  have HS := hid (script_time (w := w3) s (by omega) (HT.out.keep (hbw3.block 2 (by omega)) (hbw3.block 3 (by omega))) hB3 (by omega) (HG.out.grow hbw3) k hn p b c hp hask)
  have HBW3 := hid hbw3
  have HO1 := hid hown1
  have HROWS := hid hrows
  obtain ⟨q1, c1, rfl⟩ := rowE_slice hown1
  clear HA how hb3 hbw3 how3 hp hask hown1 hrows
  go_wp2_with fail
  refine HS.out.mono ?_
  rintro e w4 ⟨lv2, rfl, hown2, hb4⟩
  obtain ⟨q2, c2, rfl⟩ := rowE_slice hown2
  have HBW4 := hid (HBW3.out.trans (hb4.mono hsz3))
  have HB4 := hid hb4
  have HO2 := hid hown2
  have hsz4 := HBW4.out.size
  have hs34 := hb4.size
  clear HS hown2 hb4 HBW
  have e2 : ((2 * k : Nat) : Int) = 2 * (k : Int) := by omega
  go_upto_region 17 with fail
  clear e1 e2
  refine reseq (by assumption) (law_loop2 hn hnI HO1 HROWS HHAS HB4 hs34 HO2 ?_ ⟨rfl, rfl, rfl, rfl, rfl, rfl, rfl⟩)
  rintro a' w5 ⟨hfr, hbe⟩
  go_step
  have hs45 := hbe.out.size
  exact law_mid HT HG hB3 hB hs hn hnI HO1 HROWS HHAS (hid (HB4.out.trans (hbe.out.mono hs34))) (by omega) (hid (HBW4.out.trans (hbe.out.mono hsz4))) (by omega) hfr
end Go.Proofs.YtejlokdcocacaaaGreatDoor
