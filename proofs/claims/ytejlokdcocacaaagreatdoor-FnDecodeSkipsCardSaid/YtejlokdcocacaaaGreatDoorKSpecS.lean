/- The reference's Next. -/
import Derived.Test.YtejlokdcocacaaaGreatDoorKSpecP
import Derived.Test.YtejlokdcocacaaaGreatDoorKSpecM
namespace Go.Proofs.YtejlokdcocacaaaGreatDoor
open Go.RowKit

set_option maxHeartbeats 4000000 in
set_option maxRecDepth 100000 in
theorem next5 {w : World} {R : Nat} {s : ByteArray} {i fr : Nat} {m : MSt} (h : IsRd w R s i 5 fr) (hs : s.size ≤ 1000) (hm : Sp s i 5 m) (hr0 : m.r0 ≤ m.r1) :
    Calls Tryz.prog 21 #[.pointer (some ⟨R, 0, none⟩)] w fun e w' => ∃ i', e = .returned (.bool ((mNx m).has 1)) ∧ Sp s i' 0 (mNx m) ∧ IsRd w' R s i' 0 i' ∧ Rds R w w' := by
  have hi := hm.2.1
  have HS := hid h
  have hps := fun w => passed_spec (w := w) (s := s.extract i s.size) (by rw [size_ext]; omega) hm.sub hr0
  have HPS := hid hps
  have HM := hid (mEnd_5 hm.2.2)
  obtain ⟨c0, c1, c2, c3, fz⟩ := h.cells
  have hR := lt_of_block h
  have hi2 : (i : Int) ≤ (s.size : Int) := by omega
  clear h hps
  go_enter Tryz.func21, Tryz.ntmps21
  go_upto_region 6 with fail
  go_region_with (go_at_call 44; refine (HPS.out _).mono ?_; rintro e w2 ⟨n, rfl, hsp, rfl⟩; have hn := hsp.2.1; rw [size_ext] at hn; have hin : (i : Int) + (n : Int) ≤ 1000 := by omega)
  all_goals
    have hsup := hsp.sup hi
    have HSP := hid hsup
    have hsd : IsRd w.drew R s i 5 fr := HS.out
    have h9 := ((hsd.setAt (i + n)).setPart 0).setFrom (i + n)
    have hdn := done_spec h9 (by omega) hsup.2.1
    have HDN := hid hdn
    have H9 := hid h9
    have hfm : Rds R w (((w.drew.setCell ⟨R, 1, none⟩ (.int .i64 ((i + n : Nat) : Int))).setCell ⟨R, 2, none⟩ (.int .i64 ((0 : Nat) : Int))).setCell ⟨R, 3, none⟩ (.int .i64 ((i + n : Nat) : Int))) := ((((Rds.refl R w).drew.setR 1 _).setR 2 _).setR 3 _)
    have HFM := hid hfm
    clear hsp hsup hsd h9 hdn hfm
    go_wp2_with fail
    refine HDN.out.mono ?_
    rintro e w9 ⟨rfl, q, rfl⟩
    go_wp2_with fail
    go_ret
    have hmx : mNx m = (mSkip m).to 0 := by unfold mNx; rw [HM.out]
    have hsp0 : Sp s (i + n) 0 (mNx m) := by rw [hmx]; exact HSP.out.to 0
    refine ⟨i + n, ?_, hsp0, H9.out.drewN q, ⟨HFM.out.os, HFM.out.tape, HFM.out.output, HFM.out.size, HFM.out.block⟩⟩
    rw [hsp0.has1]
    congr 2
    by_cases hx : s.size ≤ i + n
    · rw [decide_eq_true hx, decide_eq_false (show ¬ i + n < s.size by omega)]; rfl
    · rw [decide_eq_false hx, decide_eq_true (show i + n < s.size by omega)]; rfl
end Go.Proofs.YtejlokdcocacaaaGreatDoor
