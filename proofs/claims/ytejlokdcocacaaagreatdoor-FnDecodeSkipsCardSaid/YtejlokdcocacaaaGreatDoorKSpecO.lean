/- The reference's Time where it is not due. -/
import Derived.Test.YtejlokdcocacaaaGreatDoorKSpecN
namespace Go.Proofs.YtejlokdcocacaaaGreatDoor
open Go.RowKit

set_option maxHeartbeats 8000000 in
set_option maxRecDepth 100000 in
theorem time_early {w : World} {R : Nat} {s : ByteArray} {i p fr : Nat} {m : MSt} (h : IsRd w R s i p fr) (hp : 3 < p) (hfr : fr ≤ i) (hm : Sp s i p m) :
    Calls Tryz.prog 49 #[.pointer (some ⟨R, 0, none⟩)] w (NameR R s w (mTime m).1 (mTime m).2.bad fr) := by
  have hSv := Sv.begin h
  obtain ⟨w1, hw1⟩ : ∃ w1, w.alloc z37 = w1 := ⟨_, rfl⟩
  obtain ⟨V, hV⟩ : ∃ V, w.heap.size = V := ⟨_, rfl⟩
  rw [hw1, hV] at hSv
  have HS := hid hSv
  have HSK := hid (skip_idle hSv.rd 3 (by omega) (fun h => by omega) (fun h => by omega) (fun _ => by omega))
  have hR1 := lt_of_block hSv.rd
  have e3 : ((p : Int) != 3) = true := by rw [bne_iff_ne]; omega
  have e3' : ((p : Int) == 3) = false := by rw [beq_eq_false_iff_ne]; omega
  clear h hSv
  go_enter Tryz.func49, Tryz.ntmps49
  go_upto_region 1 with fail
  change Code.wp _ _ _ _ (w.alloc z37)
  rw [hw1]
  clear hw1
  go_wp2_with fail
  refine HSK.out.mono ?_
  rintro e w2 ⟨⟨x, y, rfl⟩, hr2, hf2⟩
  have HS2 := hid (HS.out.call hr2 hf2)
  obtain ⟨x0, y0, hrow⟩ := HS2.out.row
  have HROW := hid hrow
  obtain ⟨w3, hw3⟩ : ∃ w3, w2.setRow V (F37 false x y) = w3 := ⟨_, rfl⟩
  have hs3 := HS2.out.store false x y
  have hrow3 : w3.heap[V]? = some (.cells (F37 false x y) 37 (0, 0)) := by rw [← hw3]; exact setRow_heap _ _ _ _ _ _ hrow
  rw [hw3] at hs3
  have HS3 := hid hs3
  have n0 : w3.cell? ⟨V, 0, none⟩ = some (.bool false) := cell_of_row w3 V 0 _ _ _ hrow3
  have n1 : w3.cell? ⟨V, 1, none⟩ = some (.int .i64 x) := cell_of_row w3 V 1 _ _ _ hrow3
  have n2 : w3.cell? ⟨V, 2, none⟩ = some (.int .i64 y) := cell_of_row w3 V 2 _ _ _ hrow3
  have n3 : w3.cell? ⟨V, 3, none⟩ = some (.bool false) := cell_of_row w3 V 3 _ _ _ hrow3
  have nf : ∀ o, w3.frozen? ⟨V, o, none⟩ = false := fun o => frozen_of_row w3 V o _ _ hrow3
  obtain ⟨c0, c1, c2, c3, fz⟩ := hs3.rd.cells
  clear HS HSK hr2 hf2 hrow hrow3 hs3 c0 c1 c3 HS2
  go_wp2_with (refine wpList_store_row (o := ⟨none, .store 37 (.tmp 4) (.tmp 10), _, _, _, _⟩) rfl 37 _ _ rfl V (F37 false x y) rfl rfl 37 _ HROW.out info37t rfl (by simp [F37, Value.oneCell']) ?_; rw [hw3])
  go_region
  go_wp2_with fail
  have HS10 := HS3.out.drew.relay false x y
  obtain ⟨xa, ya, hxa⟩ := HS10.row
  refine bodyPost_ret (res_tt37 rfl rfl rfl rfl hxa rfl) rfl ?_
  have hmt : mTime m = (m, .ok []) := by unfold mTime; rw [if_pos (by have := hm.2.2; omega)]
  rw [hmt]
  have hsc : m.sec = p := hm.2.2
  refine ⟨i, _, _, xa, ya, rfl, ?_, hfr, ?_, HS10.fm⟩
  · show Sp s i m.sec m
    rw [hsc]; exact hm
  · show IsRd _ R s i m.sec fr
    rw [hsc]; exact HS10.rd
end Go.Proofs.YtejlokdcocacaaaGreatDoor
