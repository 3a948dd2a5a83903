/- The reference's behind: the comma. -/
import Derived.Test.YtejlokdcocacaaaGreatDoorKSpecE
import Derived.Test.YtejlokdcocacaaaGreatDoorKSpecA
import Derived.BigRegion
import Derived.Outline
import Derived.Deep.CutBlock
import Derived.Deep.DeepCutAuto
namespace Go.Proofs.YtejlokdcocacaaaGreatDoor
open Go.RowKit

def commaAt (s : ByteArray) (i : Nat) : Bool := nextIs (fun c => decide (c = 44)) s i
def bareAt (s : ByteArray) (i : Nat) : Bool := decide (s.size ≤ i) || nextIs whiteP s i

theorem info37t : (Tryz.prog.info? 37).map (·.size) = some 4 := by kernel_rfl
theorem IsRd.setRow {w : World} {R : Nat} {s : ByteArray} {i p fr g : Nat} (h : IsRd w R s i p fr) (hg : R ≠ g) (cs : Array Value) : IsRd (w.setRow g cs) R s i p fr := (setRow_other w g R cs hg).trans h
theorem Rds.setRow {R : Nat} {a b : World} (h : Rds R a b) {g : Nat} (hg : a.heap.size ≤ g) (cs : Array Value) : Rds R a (b.setRow g cs) :=
  ⟨(setRow_os _ _ _).trans h.os, (setRow_tape _ _ _).trans h.tape, (setRow_output _ _ _).trans h.output, by have := h.size; simp; omega, fun k hk hd => (setRow_other b g k cs (by omega)).trans (h.block k hk hd)⟩
theorem Rds.trans2 {R : Nat} {a b c : World} (h : Rds R a b) (k : Rds R b c) : Rds R a c := h.trans k
def F37 (b : Bool) (x y : Int) : Array Value := #[.bool b, .int .i64 x, .int .i64 y, .bool false]

/-- What a method of the reference's gives: a fault or none, the place, the part. -/
def RdPost (R : Nat) (s : ByteArray) (w : World) (b : Bool) (i p fr : Nat) (e : Ending) (w' : World) : Prop :=
  (∃ v, e = .returned v ∧ FV v b) ∧ IsRd w' R s i p fr ∧ Rds R w w'

theorem RdPost.lay {R : Nat} {s : ByteArray} {w w2 : World} {b : Bool} {i p fr g : Nat} (H : IsRd w2 R s i p fr) (F : Rds R w w2) (hne : R ≠ g) (hg : w.heap.size ≤ g) (x y : Int) (v0 v1 v2 v3 : Value) :
    RdPost R s w b i p fr (.returned (.agg #[.bool b, .int .i64 x, .int .i64 y, .bool false])) ((((w2.setCell ⟨g, 0, none⟩ v0).setCell ⟨g, 1, none⟩ v1).setCell ⟨g, 2, none⟩ v2).setCell ⟨g, 3, none⟩ v3) :=
  ⟨⟨_, rfl, x, y, rfl⟩, (((H.setNew hne _).setNew hne _).setNew hne _).setNew hne _, (((F.setNew hg _).setNew hg _).setNew hg _).setNew hg _⟩

set_option maxHeartbeats 4000000 in
set_option maxRecDepth 100000 in
theorem behind_none {w : World} {R : Nat} {s : ByteArray} {i p fr : Nat} (h : IsRd w R s i p fr) (hs : s.size ≤ 1000) (hi : i ≤ s.size) (hc : commaAt s i = false) :
    Calls Tryz.prog 96 #[.pointer (some ⟨R, 0, none⟩)] w (RdPost R s w false i p fr) := by
  have hR := lt_of_block h
  obtain ⟨w1, hw1⟩ : ∃ w1, w.alloc z37 = w1 := ⟨_, rfl⟩
  have H1 : Hid (IsRd w1 R s i p fr) := hid (hw1 ▸ h.alloc z37)
  have HF : Hid (Rds R w w1) := hid (hw1 ▸ (Rds.refl R w).alloc z37)
  have hn : w1.heap[w.heap.size]? = some (.cells #[.bool false, .int .i64 0, .int .i64 0, .bool false] 37 (0, 0)) := by rw [← hw1]; exact heap_alloc_new _ _
  have HD := hid (fun n => done_spec (H1.out.drewN n) (by omega) hi)
  obtain ⟨c0, c1, c2, c3, fz⟩ := H1.out.cells
  have n0 : w1.cell? ⟨w.heap.size, 0, none⟩ = some (.bool false) := cell_of_row w1 w.heap.size 0 _ _ _ hn
  have n1 : w1.cell? ⟨w.heap.size, 1, none⟩ = some (.int .i64 0) := cell_of_row w1 w.heap.size 1 _ _ _ hn
  have n2 : w1.cell? ⟨w.heap.size, 2, none⟩ = some (.int .i64 0) := cell_of_row w1 w.heap.size 2 _ _ _ hn
  have n3 : w1.cell? ⟨w.heap.size, 3, none⟩ = some (.bool false) := cell_of_row w1 w.heap.size 3 _ _ _ hn
  have nf : ∀ o, w1.frozen? ⟨w.heap.size, o, none⟩ = false := fun o => frozen_of_row w1 w.heap.size o _ _ hn
  have HN := hid hn
  clear h c2 c3 fz hn
  by_cases hd : s.size ≤ i
  · have hd1 : decide (s.size ≤ i) = true := by simpa using hd
    rw [hd1] at HD
    go_enter Tryz.func96, Tryz.ntmps96
    go_wp2_with fail
    change Code.wp _ _ _ _ (w.alloc z37)
    rw [hw1]
    go_quiet ((go_at_call 45; exact Calls.quiet_of (HD.out _)))
    obtain ⟨w2, hw2⟩ : ∃ w2, w1.drewN nq = w2 := ⟨_, rfl⟩
    have H2 : Hid (IsRd w2 R s i p fr) := hid (hw2 ▸ H1.out.drewN nq)
    have HF2 : Hid (Rds R w w2) := hid (hw2 ▸ HF.out.drewN nq)
    have HN2 : Hid (w2.heap[w.heap.size]? = some (.cells #[.bool false, .int .i64 0, .int .i64 0, .bool false] 37 (0, 0))) := hid (hw2 ▸ HN.out)
    rw [hw2]
    clear n0 n1 n2 n3 nf c0 c1 hw2 hw1
    have n0 : w2.cell? ⟨w.heap.size, 0, none⟩ = some (.bool false) := cell_of_row w2 w.heap.size 0 _ _ _ HN2.out
    have n1 : w2.cell? ⟨w.heap.size, 1, none⟩ = some (.int .i64 0) := cell_of_row w2 w.heap.size 1 _ _ _ HN2.out
    have n2 : w2.cell? ⟨w.heap.size, 2, none⟩ = some (.int .i64 0) := cell_of_row w2 w.heap.size 2 _ _ _ HN2.out
    have n3 : w2.cell? ⟨w.heap.size, 3, none⟩ = some (.bool false) := cell_of_row w2 w.heap.size 3 _ _ _ HN2.out
    have nf : ∀ o, w2.frozen? ⟨w.heap.size, o, none⟩ = false := fun o => frozen_of_row w2 w.heap.size o _ _ HN2.out
    go_wp2_with fail
    refine bodyPost_ret (res37 rfl rfl (lay37 HN2.out _ _ _ _) rfl) rfl ?_
    exact RdPost.lay H2.out HF2.out (by omega) (Nat.le_refl _) _ _ _ _ _ _
  · have hd1 : decide (s.size ≤ i) = false := by simpa using hd
    have hlt : i < s.size := by omega
    have hlt2 : (i : Int) < (s.size : Int) := by omega
    have e44 : ((s[i].toNat : Int) == 44) = false := by
      have : (s[i]).toNat ≠ 44 := by simpa [commaAt, nextIs, hlt] using hc
      rw [beq_eq_false_iff_ne]; omega
    rw [hd1] at HD
    clear hd
    go_enter Tryz.func96, Tryz.ntmps96
    go_wp2_with fail
    change Code.wp _ _ _ _ (w.alloc z37)
    rw [hw1]
    go_quiet ((go_at_call 45; exact Calls.quiet_of (HD.out _)))
    obtain ⟨w2, hw2⟩ : ∃ w2, w1.drewN nq = w2 := ⟨_, rfl⟩
    have H2 : Hid (IsRd w2 R s i p fr) := hid (hw2 ▸ H1.out.drewN nq)
    have HF2 : Hid (Rds R w w2) := hid (hw2 ▸ HF.out.drewN nq)
    have HN2 : Hid (w2.heap[w.heap.size]? = some (.cells #[.bool false, .int .i64 0, .int .i64 0, .bool false] 37 (0, 0))) := hid (hw2 ▸ HN.out)
    rw [hw2]
    clear n0 n1 n2 n3 nf c0 c1 hw2 hw1
    have n0 : w2.cell? ⟨w.heap.size, 0, none⟩ = some (.bool false) := cell_of_row w2 w.heap.size 0 _ _ _ HN2.out
    have n1 : w2.cell? ⟨w.heap.size, 1, none⟩ = some (.int .i64 0) := cell_of_row w2 w.heap.size 1 _ _ _ HN2.out
    have n2 : w2.cell? ⟨w.heap.size, 2, none⟩ = some (.int .i64 0) := cell_of_row w2 w.heap.size 2 _ _ _ HN2.out
    have n3 : w2.cell? ⟨w.heap.size, 3, none⟩ = some (.bool false) := cell_of_row w2 w.heap.size 3 _ _ _ HN2.out
    have nf : ∀ o, w2.frozen? ⟨w.heap.size, o, none⟩ = false := fun o => frozen_of_row w2 w.heap.size o _ _ HN2.out
    go_wp2_with fail
    refine bodyPost_ret (res37 rfl rfl (lay37 HN2.out _ _ _ _) rfl) rfl ?_
    exact RdPost.lay H2.out HF2.out (by omega) (Nat.le_refl _) _ _ _ _ _ _
set_option maxHeartbeats 4000000 in
set_option maxRecDepth 100000 in
theorem behind_comma {w : World} {R : Nat} {s : ByteArray} {i p fr : Nat} (h : IsRd w R s i p fr) (hs : s.size ≤ 1000) (hi : i ≤ s.size) (hp : p ≤ 5) (hfr : fr ≤ i) (hc : commaAt s i = true) :
    Calls Tryz.prog 96 #[.pointer (some ⟨R, 0, none⟩)] w (RdPost R s w (bareAt s (i + 1)) (i + 1) (if bareAt s (i + 1) = true then if p = 5 then 5 else 4 else p) fr) := by
  have hR := lt_of_block h
  obtain ⟨w1, hw1⟩ : ∃ w1, w.alloc z37 = w1 := ⟨_, rfl⟩
  have H1 : Hid (IsRd w1 R s i p fr) := hid (hw1 ▸ h.alloc z37)
  have HF : Hid (Rds R w w1) := hid (hw1 ▸ (Rds.refl R w).alloc z37)
  have hn : w1.heap[w.heap.size]? = some (.cells #[.bool false, .int .i64 0, .int .i64 0, .bool false] 37 (0, 0)) := by rw [← hw1]; exact heap_alloc_new _ _
  have HD := hid (fun n => done_spec (H1.out.drewN n) (by omega) hi)
  obtain ⟨c0, c1, c2, c3, fz⟩ := H1.out.cells
  have n0 : w1.cell? ⟨w.heap.size, 0, none⟩ = some (.bool false) := cell_of_row w1 w.heap.size 0 _ _ _ hn
  have n1 : w1.cell? ⟨w.heap.size, 1, none⟩ = some (.int .i64 0) := cell_of_row w1 w.heap.size 1 _ _ _ hn
  have n2 : w1.cell? ⟨w.heap.size, 2, none⟩ = some (.int .i64 0) := cell_of_row w1 w.heap.size 2 _ _ _ hn
  have n3 : w1.cell? ⟨w.heap.size, 3, none⟩ = some (.bool false) := cell_of_row w1 w.heap.size 3 _ _ _ hn
  have nf : ∀ o, w1.frozen? ⟨w.heap.size, o, none⟩ = false := fun o => frozen_of_row w1 w.heap.size o _ _ hn
  have HN := hid hn
  clear h c2 c3 fz hn
  have hlt : i < s.size := by
    unfold commaAt nextIs at hc
    by_cases h : i < s.size
    · exact h
    · rw [dif_neg h] at hc; simp at hc
  have hlt2 : (i : Int) < (s.size : Int) := by omega
  have hd1 : decide (s.size ≤ i) = false := by simp; omega
  have e44 : ((s[i].toNat : Int) == 44) = true := by
    have : (s[i]).toNat = 44 := by simpa [commaAt, nextIs, hlt] using hc
    rw [beq_iff_eq]; omega
  rw [hd1] at HD
  obtain ⟨b, hb⟩ : ∃ b, bareAt s (i + 1) = b := ⟨_, rfl⟩
  rw [hb]
  have HB := hid hb
  obtain ⟨p', hp'⟩ : ∃ p', (if b = true then if p = 5 then 5 else 4 else p) = p' := ⟨_, rfl⟩
  rw [hp']
  have HP := hid hp'
  clear hb hp'
  go_enter Tryz.func96, Tryz.ntmps96
  go_wp2_with fail
  change Code.wp _ _ _ _ (w.alloc z37)
  rw [hw1]
  go_quiet ((go_at_call 45; exact Calls.quiet_of (HD.out _)))
  obtain ⟨w2, hw2⟩ : ∃ w2, w1.drewN nq = w2 := ⟨_, rfl⟩
  have H2 : Hid (IsRd w2 R s i p fr) := hid (hw2 ▸ H1.out.drewN nq)
  have HF2 : Hid (Rds R w w2) := hid (hw2 ▸ HF.out.drewN nq)
  have HN2 : Hid (w2.heap[w.heap.size]? = some (.cells #[.bool false, .int .i64 0, .int .i64 0, .bool false] 37 (0, 0))) := hid (hw2 ▸ HN.out)
  rw [hw2]
  clear n0 n1 n2 n3 nf c0 c1 hw2 hw1 HN HF H1 HD
  obtain ⟨c0, c1, c2, c3, fz⟩ := H2.out.cells
  go_upto_region 3 with fail
  obtain ⟨w3, hw3⟩ : ∃ w3, w2.setCell ⟨R, 1, none⟩ (.int .i64 ((i : Int) + 1)) = w3 := ⟨_, rfl⟩
  have H3 : Hid (IsRd w3 R s (i + 1) p fr) := hid (hw3 ▸ H2.out.setAt (i + 1))
  have HF3 : Hid (Rds R w w3) := hid (hw3 ▸ HF2.out.setR 1 _)
  have HN3 : Hid (w3.heap[w.heap.size]? = some (.cells #[.bool false, .int .i64 0, .int .i64 0, .bool false] 37 (0, 0))) := hid (hw3 ▸ (Below.heap_setCell _ _ _ _ (by show w.heap.size ≠ R; omega)).trans HN2.out)
  rw [hw3]
  clear hw3 c0 c1 c2 c3 fz HN2 HF2 H2 hc
  have HD := hid (done_spec H3.out (by omega) (by omega))
  by_cases hd : s.size ≤ i + 1
  · have hd1 : decide (s.size ≤ i + 1) = true := by simpa using hd
    have hb : b = true := by rw [← HB.out, bareAt, hd1]; rfl
    subst hb
    rw [hd1] at HD
    go_wp2_with fail
    refine HD.out.mono ?_
    rintro e w4 ⟨rfl, n, rfl⟩
    obtain ⟨w4, hw4⟩ : ∃ w4, w3.drewN n = w4 := ⟨_, rfl⟩
    have H4 : Hid (IsRd w4 R s (i + 1) p fr) := hid (hw4 ▸ H3.out.drewN n)
    have HF4 : Hid (Rds R w w4) := hid (hw4 ▸ HF3.out.drewN n)
    have HN4 : Hid (w4.heap[w.heap.size]? = some (.cells #[.bool false, .int .i64 0, .int .i64 0, .bool false] 37 (0, 0))) := hid (hw4 ▸ HN3.out)
    rw [hw4]
    obtain ⟨c0, c1, c2, c3, fz⟩ := H4.out.cells
    have hR4 := lt_of_block H4.out
    clear hw4 HN3 HF3 H3 HD c0 c2 c3
    go_wp2_with fail
    refine (specFault_spec H4.out hs hp (i + 1) (by omega) (by omega)).mono ?_
    rintro e w5 ⟨⟨v, rfl, x, y, rfl⟩, h5, f5⟩
    have HN5 := hid ((f5.block w.heap.size (lt_of_block HN4.out) (by omega)).trans HN4.out)
    have H5 := hid h5
    have F5 := hid (HF4.out.trans f5)
    clear h5 f5 HN4 HF4 H4 c1
    go_wp2_with (refine wpList_store_row (o := ⟨none, .store 37 (.tmp 2) (.tmp 36), _, _, _, _⟩) rfl 37 _ _ rfl w.heap.size (F37 true x y) rfl rfl 37 _ HN5.out info37t rfl (by simp [F37, Value.oneCell']) ?_)
    refine bodyPost_ret (res37 rfl rfl (setRow_heap _ _ _ _ _ _ HN5.out) rfl) rfl ?_
    rw [← HP.out]
    exact ⟨⟨_, rfl, x, y, rfl⟩, H5.out.setRow (by omega) _, F5.out.setRow (Nat.le_refl _) _⟩
  · have hd1 : decide (s.size ≤ i + 1) = false := by simpa using hd
    rw [hd1] at HD
    have HX := hid (fun n => next_spec (H3.out.drewN n) (fun x w => in_1 x w))
    have hbx : b = nextIs whiteP s (i + 1) := by rw [← HB.out, bareAt, hd1]; rfl
    rw [← hbx] at HX
    clear hbx
    cases b
    · go_wp2_with fail
      refine HD.out.mono ?_
      rintro e w4 ⟨rfl, n, rfl⟩
      go_wp2_with fail
      refine (HX.out n).mono ?_
      rintro e w4 ⟨rfl, n2, rfl⟩
      obtain ⟨w4, hw4⟩ : ∃ w4, (w3.drewN n).drewN n2 = w4 := ⟨_, rfl⟩
      have H4 : Hid (IsRd w4 R s (i + 1) p fr) := hid (hw4 ▸ (H3.out.drewN n).drewN n2)
      have HF4 : Hid (Rds R w w4) := hid (hw4 ▸ (HF3.out.drewN n).drewN n2)
      have HN4 : Hid (w4.heap[w.heap.size]? = some (.cells #[.bool false, .int .i64 0, .int .i64 0, .bool false] 37 (0, 0))) := hid (hw4 ▸ HN3.out)
      rw [hw4]
      have n0 : w4.cell? ⟨w.heap.size, 0, none⟩ = some (.bool false) := cell_of_row w4 w.heap.size 0 _ _ _ HN4.out
      have n1 : w4.cell? ⟨w.heap.size, 1, none⟩ = some (.int .i64 0) := cell_of_row w4 w.heap.size 1 _ _ _ HN4.out
      have n2 : w4.cell? ⟨w.heap.size, 2, none⟩ = some (.int .i64 0) := cell_of_row w4 w.heap.size 2 _ _ _ HN4.out
      have n3 : w4.cell? ⟨w.heap.size, 3, none⟩ = some (.bool false) := cell_of_row w4 w.heap.size 3 _ _ _ HN4.out
      have nf : ∀ o, w4.frozen? ⟨w.heap.size, o, none⟩ = false := fun o => frozen_of_row w4 w.heap.size o _ _ HN4.out
      clear hw4 HN3 HF3 H3 HD HX
      go_wp2_with fail
      refine bodyPost_ret (res37 rfl rfl (lay37 HN4.out _ _ _ _) rfl) rfl ?_
      rw [← HP.out]
      exact RdPost.lay H4.out HF4.out (by omega) (Nat.le_refl _) _ _ _ _ _ _
    · go_wp2_with fail
      refine HD.out.mono ?_
      rintro e w4 ⟨rfl, n, rfl⟩
      go_wp2_with fail
      refine (HX.out n).mono ?_
      rintro e w4 ⟨rfl, n2, rfl⟩
      obtain ⟨w4, hw4⟩ : ∃ w4, (w3.drewN n).drewN n2 = w4 := ⟨_, rfl⟩
      have H4 : Hid (IsRd w4 R s (i + 1) p fr) := hid (hw4 ▸ (H3.out.drewN n).drewN n2)
      have HF4 : Hid (Rds R w w4) := hid (hw4 ▸ (HF3.out.drewN n).drewN n2)
      have HN4 : Hid (w4.heap[w.heap.size]? = some (.cells #[.bool false, .int .i64 0, .int .i64 0, .bool false] 37 (0, 0))) := hid (hw4 ▸ HN3.out)
      rw [hw4]
      obtain ⟨c0, c1, c2, c3, fz⟩ := H4.out.cells
      have hR4 := lt_of_block H4.out
      clear hw4 HN3 HF3 H3 HD HX c0 c2 c3
      go_wp2_with fail
      refine (specFault_spec H4.out hs hp (i + 1) (by omega) (by omega)).mono ?_
      rintro e w5 ⟨⟨v, rfl, x, y, rfl⟩, h5, f5⟩
      have HN5 := hid ((f5.block w.heap.size (lt_of_block HN4.out) (by omega)).trans HN4.out)
      have H5 := hid h5
      have F5 := hid (HF4.out.trans f5)
      clear h5 f5 HN4 HF4 H4 c1
      go_wp2_with (refine wpList_store_row (o := ⟨none, .store 37 (.tmp 2) (.tmp 36), _, _, _, _⟩) rfl 37 _ _ rfl w.heap.size (F37 true x y) rfl rfl 37 _ HN5.out info37t rfl (by simp [F37, Value.oneCell']) ?_)
      refine bodyPost_ret (res37 rfl rfl (setRow_heap _ _ _ _ _ _ HN5.out) rfl) rfl ?_
      rw [← HP.out]
      exact ⟨⟨_, rfl, x, y, rfl⟩, H5.out.setRow (by omega) _, F5.out.setRow (Nat.le_refl _) _⟩
end Go.Proofs.YtejlokdcocacaaaGreatDoor
