/- The reference's Next behind a fault; NewDecoder. -/
import Derived.Test.YtejlokdcocacaaaGreatDoorKSpecS
import Derived.BigRegion
import Derived.Test.YtejlokdcocacaaaGreatDoorKSpecT
namespace Go.Proofs.YtejlokdcocacaaaGreatDoor
open Go.RowKit

set_option maxHeartbeats 4000000 in
set_option maxRecDepth 100000 in
theorem next4 {w : World} {R : Nat} {s : ByteArray} {i fr : Nat} {m : MSt} (h : IsRd w R s i 4 fr) (hs : s.size ≤ 1000) (hm : Sp s i 4 m) :
    Calls Tryz.prog 21 #[.pointer (some ⟨R, 0, none⟩)] w fun e w' => ∃ i', e = .returned (.bool ((mNx m).has 1)) ∧ Sp s i' 0 (mNx m) ∧ IsRd w' R s i' 0 i' ∧ Rds R w w' := by
  have hi0 := hm.2.1
  obtain ⟨hln, hr0⟩ := hm.line4
  obtain ⟨i1, hi1⟩ : ∃ i1, i + runN notNlP s i = i1 := ⟨_, rfl⟩
  have hi1c : i1 ≤ s.size := by rw [← hi1]; exact runN_le hi0
  rw [hi1] at hln
  obtain ⟨i2, hi2⟩ : ∃ i2, min (i1 + 1) s.size = i2 := ⟨_, rfl⟩
  rw [hi2] at hln
  have hi := hln.2.1
  have hps := fun w => passed_spec (w := w) (s := s.extract i2 s.size) (by rw [size_ext]; omega) hln.sub hr0
  have HPS := hid hps
  have HM := hid (mEnd_4 hm.2.2)
  have HI1 := hid hi1
  have HSK := hid (skip_idle h 5 (by omega) (fun h => by omega) (fun h => by omega) (fun h => by omega))
  obtain ⟨c0, c1, c2, c3, fz⟩ := h.cells
  have hR := lt_of_block h
  clear h hps hi1
  go_enter Tryz.func21, Tryz.ntmps21
  go_wp2_with fail
  refine HSK.out.mono ?_
  rintro e w2 ⟨⟨x, y, rfl⟩, hr2, hf2⟩
  clear c0 c1 c2 c3 fz HSK
  have HS2 := hid hr2
  have HF2 := hid hf2
  have hrun := run_spec (f := notNlP) (j := 13) hr2 hs hi0 in_13
  rw [HI1.out] at hrun
  have HRUN := hid hrun
  obtain ⟨c0, c1, c2, c3, fz⟩ := hr2.cells
  clear hr2 hf2 hrun c0 c1 c3
  go_wp2_with fail
  refine HRUN.out.mono ?_
  rintro e w3 ⟨rfl, hr3, hf3⟩
  clear c2 fz HRUN HS2
  have HS3 := hid hr3
  have HF3 := hid (HF2.out.trans hf3)
  obtain ⟨c0, c1, c2, c3, fz⟩ := hr3.cells
  have hR3 := lt_of_block hr3
  have t1 : (i1 : Int) + 1 ≤ 1001 := by omega
  clear hr3 hf3 HF2 c2 c3
  go_upto_region 5 with fail
  have hmin : min ((i1 : Int) + 1) (s.size : Int) = (i2 : Int) := by omega
  clear hi2
  go_region
  obtain ⟨w4, hw4⟩ : ∃ w4, (w3.setCell ⟨R, 1, none⟩ (.int .i64 (i2 : Int))).drew = w4 := ⟨_, rfl⟩
  have HS := hid (show IsRd w4 R s i2 4 fr by rw [← hw4]; exact HS3.out.setAt i2)
  have HF4 := hid (show Rds R w w4 by rw [← hw4]; exact (HF3.out.setR 1 _).drew)
  go_upto_region 6 with fail
  change Code.wp _ _ _ _ ((w3.setCell ⟨R, 1, none⟩ (.int .i64 (i2 : Int))).drew)
  rw [hw4]
  clear hw4 hmin HS3 HF3 c0 c1 fz
  obtain ⟨c0, c1, c2, c3, fz⟩ := HS.out.cells
  have hR4 := lt_of_block HS.out
  have hi2 : ((i2 : Int)) ≤ (s.size : Int) := by omega
  go_region_with (go_at_call 44; refine (HPS.out _).mono ?_; rintro e w2 ⟨n, rfl, hsp, rfl⟩; have hn := hsp.2.1; rw [size_ext] at hn; have hin : ((i2 : Int)) + (n : Int) ≤ 1000 := by omega)
  all_goals
    have hsup := hsp.sup hi
    have HSP := hid hsup
    have hsd : IsRd w4.drew R s i2 4 fr := HS.out
    have h9 := ((hsd.setAt (i2 + n)).setPart 0).setFrom (i2 + n)
    have hdn := done_spec h9 (by omega) hsup.2.1
    have HDN := hid hdn
    have H9 := hid h9
    have hfm : Rds R w (((w4.drew.setCell ⟨R, 1, none⟩ (.int .i64 ((i2 + n : Nat) : Int))).setCell ⟨R, 2, none⟩ (.int .i64 ((0 : Nat) : Int))).setCell ⟨R, 3, none⟩ (.int .i64 ((i2 + n : Nat) : Int))) := (((HF4.out.drew.setR 1 _).setR 2 _).setR 3 _)
    have HFM := hid hfm
    clear hsp hsup hsd h9 hdn hfm
    go_wp2_with fail
    refine HDN.out.mono ?_
    rintro e w9 ⟨rfl, q, rfl⟩
    go_wp2_with fail
    go_ret
    have hmx : mNx m = (mSkip (mLine m)).to 0 := by unfold mNx; rw [HM.out]
    have hsp0 : Sp s (i2 + n) 0 (mNx m) := by rw [hmx]; exact HSP.out.to 0
    refine ⟨i2 + n, ?_, hsp0, H9.out.drewN q, ⟨HFM.out.os, HFM.out.tape, HFM.out.output, HFM.out.size, HFM.out.block⟩⟩
    rw [hsp0.has1]
    congr 2
    by_cases hx : s.size ≤ i2 + n
    · rw [decide_eq_true hx, decide_eq_false (show ¬ i2 + n < s.size by omega)]; rfl
    · rw [decide_eq_false hx, decide_eq_true (show i2 + n < s.size by omega)]; rfl
end Go.Proofs.YtejlokdcocacaaaGreatDoor

/- The reference's start; Next from wherever an entry ends. -/
namespace Go.Proofs.YtejlokdcocacaaaGreatDoor
open Go.RowKit

set_option maxHeartbeats 1000000 in
theorem newd_spec (s : ByteArray) (w : World) : Calls Tryz.prog 20 #[.string s] w fun e w' => e = .returned (.pointer (some ⟨w.heap.size, 0, none⟩)) ∧ IsRd w' w.heap.size s 0 5 0 ∧ Below w.heap.size w w' := by
  go_enter Tryz.func20, Tryz.ntmps20
  go_wp2
  go_ret
  exact ⟨rfl, heap_alloc_new _ _, (Below.refl _ _).alloc (Nat.le_refl _) _⟩

theorem next_any {w : World} {R : Nat} {s : ByteArray} {i p fr : Nat} {m : MSt} (h : IsRd w R s i p fr) (hs : s.size ≤ 1000) (hp : p = 4 ∨ p = 5) (hm : Sp s i p m) (hr0 : m.Or) :
    Calls Tryz.prog 21 #[.pointer (some ⟨R, 0, none⟩)] w fun e w' => ∃ i', e = .returned (.bool ((mNx m).has 1)) ∧ Sp s i' 0 (mNx m) ∧ IsRd w' R s i' 0 i' ∧ Rds R w w' := by
  rcases hp with rfl | rfl
  · exact next4 h hs hm
  · exact next5 h hs hm hr0
end Go.Proofs.YtejlokdcocacaaaGreatDoor
