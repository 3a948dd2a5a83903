/- The reference's Time. -/
import Derived.Test.YtejlokdcocacaaaGreatDoorKSpecM
import Derived.Test.YtejlokdcocacaaaGreatDoorKSpecK
namespace Go.Proofs.YtejlokdcocacaaaGreatDoor
open Go.RowKit

/-- Whether a time's reading gives a fault. -/
def TimeR.bad : TimeR → Bool
  | .err _ => true
  | .ok _ => false

theorem mTime_end {s : ByteArray} {m b : MSt} {l : List UInt8} {i1 i2 p1 : Nat} {le : Nat × Bool} (h3 : m.sec = 3) (hl : m.ran timeCP = l) (hb : (if l = [] then (m.skip timeCP).to 5 else m.skip timeCP) = b) (hw : b.has 1 = false ∨ whiteP b.at0.toNat = true) (hsp : Sp s i1 p1 b) (hi : i1 + runN blankP s i1 = i2) (hle : lineEnd (restOf s i2) = le) :
    (le.2 = true → ∃ mm, mTime m = (mm, .ok l) ∧ Sp s (i2 + le.1) 5 mm) ∧ (le.2 = false → ∃ f, mTime m = (((b.skip blankP).skip notEolP).broke, .err f)) := by
  have hc : Sp s i2 p1 (b.skip blankP) := by rw [← hi]; exact hsp.skip blankP
  have he := hc.eol
  rw [hle] at he
  unfold mTime
  rw [if_neg (by omega)]
  simp only
  rw [hl, hb]
  by_cases hn : b.has 1 = false
  · have hz : s.size ≤ i1 := by have := hsp.has1; rw [hn] at this; simpa using this
    have hz2 : s.size ≤ i2 := by omega
    rw [restOf_end s i2 hz2] at hle
    have hle0 : le = (0, true) := by rw [← hle]; rfl
    rw [if_pos hn, hle0]
    refine ⟨fun _ => ⟨_, rfl, ?_⟩, fun h => by simp at h⟩
    have h2 := hc.2.1
    have h1 := hsp.2.1
    rw [show i2 + (0, true).1 = i1 by show i2 + 0 = i1; omega]
    exact hsp.to 5
  · rw [if_neg hn]
    have hwt : whiteP b.at0.toNat = true := by rcases hw with h | h; exact absurd h hn; exact h
    rw [if_neg (by rw [hwt]; simp)]
    by_cases hcn : (b.skip blankP).has 1 = false
    · have hz2 : s.size ≤ i2 := by have := hc.has1; rw [hcn] at this; simpa using this
      rw [restOf_end s i2 hz2] at hle
      have hle0 : le = (0, true) := by rw [← hle]; rfl
      rw [if_pos hcn, hle0]
      exact ⟨fun _ => ⟨_, rfl, hc.to 5⟩, fun h => by simp at h⟩
    · rw [if_neg hcn]
      obtain ⟨ln, lb⟩ := le
      cases lb
      · rw [if_neg (by rw [he.1]; simp)]
        exact ⟨fun h => by simp at h, fun _ => ⟨_, rfl⟩⟩
      · rw [if_pos he.1]
        exact ⟨fun _ => ⟨_, rfl, (he.2.1 he.1).to 5⟩, fun h => by simp at h⟩

theorem mTime_white {m b : MSt} {l : List UInt8} (h3 : m.sec = 3) (hl : m.ran timeCP = l) (hb : (if l = [] then (m.skip timeCP).to 5 else m.skip timeCP) = b) (h1 : b.has 1 = true) (hw : false = whiteP b.at0.toNat) :
    mTime m = ((b.skip notEolP).broke, .err ((b.skip notEolP).flt m.off)) := by
  unfold mTime
  rw [if_neg (by omega)]
  simp only
  rw [hl, hb, if_neg (by rw [h1]; simp), if_pos hw.symm]

set_option maxHeartbeats 8000000 in
set_option maxRecDepth 100000 in
theorem time_spec {w : World} {R : Nat} {s : ByteArray} {i fr : Nat} {m : MSt} (h : IsRd w R s i 3 fr) (hs : s.size ≤ 1000) (hfr : fr ≤ i) (hm : Sp s i 3 m) :
    Calls Tryz.prog 49 #[.pointer (some ⟨R, 0, none⟩)] w (NameR R s w (mTime m).1 (mTime m).2.bad fr) := by
  have hi := hm.2.1
  have hSv := Sv.begin h
  obtain ⟨w1, hw1⟩ : ∃ w1, w.alloc z37 = w1 := ⟨_, rfl⟩
  obtain ⟨V, hV⟩ : ∃ V, w.heap.size = V := ⟨_, rfl⟩
  have hrow0 : w1.heap[V]? = some (.cells #[.bool false, .int .i64 0, .int .i64 0, .bool false] 37 (0, 0)) := by rw [← hw1, ← hV]; exact heap_alloc_new _ _
  rw [hw1, hV] at hSv
  have HS := hid hSv
  have HSK := hid (skip_idle hSv.rd 3 (by omega) (fun h => by omega) (fun h => by omega) (fun _ => by omega))
  have hR1 := lt_of_block hSv.rd
  clear h hSv
  go_enter Tryz.func49, Tryz.ntmps49
  go_upto_region 1 with fail
  change Code.wp _ _ _ _ (w.alloc z37)
  rw [hw1]
  clear hw1
  go_wp2_with fail
  refine HSK.out.mono ?_
  rintro e w2 ⟨⟨x, y, rfl⟩, hr2, hf2⟩
  have HS2 := hid (HS.out.call hr2 hf2)
  obtain ⟨x0, y0, hrow⟩ := HS2.out.row
  have HROW := hid hrow
  obtain ⟨w3, hw3⟩ : ∃ w3, w2.setRow V (F37 false x y) = w3 := ⟨_, rfl⟩
  have hs3 := HS2.out.store false x y
  have hrow3 : w3.heap[V]? = some (.cells (F37 false x y) 37 (0, 0)) := by rw [← hw3]; exact setRow_heap _ _ _ _ _ _ hrow
  rw [hw3] at hs3
  have HS3 := hid hs3
  have HR3 := hid hrow3
  have n0 : w3.cell? ⟨V, 0, none⟩ = some (.bool false) := cell_of_row w3 V 0 _ _ _ hrow3
  obtain ⟨c0, c1, c2, c3, fz⟩ := hs3.rd.cells
  have HRUN := hid (run_spec (f := timeCP) (j := 10) hs3.rd hs hi in_10)
  clear HS HSK hr2 hf2 hrow hrow3 hs3 c0 c3 HS2 hrow0
  go_wp2_with (refine wpList_store_row (o := ⟨none, .store 37 (.tmp 4) (.tmp 10), _, _, _, _⟩) rfl 37 _ _ rfl V (F37 false x y) rfl rfl 37 _ HROW.out info37t rfl (by simp [F37, Value.oneCell']) ?_; rw [hw3])
  refine HRUN.out.mono ?_
  rintro e w4 ⟨rfl, hr4, hf4⟩
  have HS4 := hid (HS3.out.call hr4 hf4)
  have hsk := hm.skip timeCP
  have hrn := ran_nil hm timeCP
  have hex := extract_data s i (runN timeCP s i)
  obtain ⟨l, hl⟩ : ∃ l, m.ran timeCP = l := ⟨_, rfl⟩
  rw [← hm.ran timeCP, hl] at hex
  have hsv : s.extract i (i + runN timeCP s i) = ⟨l.toArray⟩ := by rw [← hex]
  rw [hl] at hrn
  rw [hsv]
  obtain ⟨i1, hi1⟩ : ∃ i1, i + runN timeCP s i = i1 := ⟨_, rfl⟩
  rw [hi1] at HS4 hsk
  have hi1b : i ≤ i1 := by omega
  have hi1c : i1 ≤ s.size := hsk.2.1
  have HL := hid hl
  have HSKP := hid hsk
  clear hr4 hf4 HRUN HS3 HR3 n0 c1 c2 fz hex hsv hl hrn hsk hi1
  obtain ⟨c0, c1, c2, c3, fz⟩ := HS4.out.rd.cells
  obtain ⟨p1, hp1⟩ : ∃ p1, (if l = [] then 5 else 3) = p1 := ⟨_, rfl⟩
  obtain ⟨b, hb⟩ : ∃ b, (if l = [] then (m.skip timeCP).to 5 else m.skip timeCP) = b := ⟨_, rfl⟩
  have hspb : Sp s i1 p1 b := by
    rw [← hb, ← hp1]
    split
    · exact HSKP.out.to 5
    · exact HSKP.out
  have HSPB := hid hspb
  have HPB := hid hp1
  have HBB := hid hb
  clear hspb hb HSKP
  rcases l with _ | ⟨c, t⟩
  · have hp1' : p1 = 5 := by rw [← hp1]; rfl
    subst hp1'
    clear hp1
    obtain ⟨w5, hw5⟩ : ∃ w5, w4.setCell ⟨R, 2, none⟩ (.int .i64 ((5 : Nat) : Int)) = w5 := ⟨_, rfl⟩
    have hs5 := HS4.out.part 5
    rw [hw5] at hs5
    have HS5 := hid hs5
    clear hs5
    clear c0 c1 c3
    go_upto_region 8 with fail
    change Code.wp _ _ _ _ (w4.setCell ⟨R, 2, none⟩ (.int .i64 ((5 : Nat) : Int)))
    rw [hw5]
    clear hw5 c2 fz HS4
    have HD := hid (done_spec HS5.out.rd (by omega) hi1c)
    by_cases hd : s.size ≤ i1
    · rw [decide_eq_true hd] at HD
      go_wp2_with fail
      refine HD.out.mono ?_
      rintro e w6 ⟨rfl, n, rfl⟩
      have HS6 := hid (HS5.out.drewN n)
      generalize w5.drewN n = w6 at HS6 ⊢
      have HW : Hid (b.has 1 = false ∨ whiteP b.at0.toNat = true) := hid (.inl (by rw [HSPB.out.has1]; simp; omega))
      clear HD HS5
      have hspk := HSPB.out.skip blankP
      obtain ⟨i2, hi2⟩ : ∃ i2, i1 + runN blankP s i1 = i2 := ⟨_, rfl⟩
      have hrun := run_spec (f := blankP) (j := 0) HS6.out.rd hs hi1c in_0
      rw [hi2] at hrun hspk
      have hi2b : i1 ≤ i2 := by omega
      have hi2c : i2 ≤ s.size := hspk.2.1
      have hle := lineEnd_spec (s.extract i2 s.size) (by rw [ByteArray.size_extract]; omega)
      rw [extract_rest] at hle
      have heol := hspk.eol
      have HRUN := hid hrun
      have HEOL := hid heol
      have HSPK := hid hspk
      have HI2 := hid hi2
      clear hrun heol hspk hi2
      obtain ⟨le, hle2⟩ : ∃ le, lineEnd (restOf s i2) = le := ⟨_, rfl⟩
      rw [hle2] at hle HEOL
      have HME := hid (mTime_end hm.2.2 HL.out HBB.out HW.out HSPB.out HI2.out hle2)
      obtain ⟨ln, lb⟩ := le
      have HLE := hid hle
      clear hle hle2
      go_wp2_with fail
      refine HRUN.out.mono ?_
      rintro e w7 ⟨rfl, hr7, hf7⟩
      have HS7 := hid (HS6.out.call hr7 hf7)
      obtain ⟨c0, c1, c2, c3, fz⟩ := HS7.out.rd.cells
      have hi2d : (i2 : Int) ≤ (s.size : Int) := by omega
      have hR7 := lt_of_block HS7.out.rd
      clear hr7 hf7 HRUN HS6 c3
      go_upto_region 12 with fail
      go_quiet ((go_at_call 93; exact Calls.quiet_of_same (HLE.out _)))
      obtain ⟨w8, hw8⟩ : ∃ w8, w7.drewN nq = w8 := ⟨_, rfl⟩
      have hs8 := HS7.out.drewN nq
      rw [hw8] at hs8 ⊢
      have HS8 := hid hs8
      clear hw8 c0 c1 c2 fz HS7 HLE hs8
      obtain ⟨c0, c1, c2, c3, fz⟩ := HS8.out.rd.cells
      have hR8 := lt_of_block HS8.out.rd
      clear c0 c3
      cases lb
      · obtain ⟨f, hmt⟩ := HME.out.2 rfl
        have HMT := hid hmt
        have hspn := (HSPK.out.skip notEolP).broke
        have hrun := run_spec (f := notEolP) (j := 12) HS8.out.rd hs hi2c in_12
        obtain ⟨i3, hi3⟩ : ∃ i3, i2 + runN notEolP s i2 = i3 := ⟨_, rfl⟩
        rw [hi3] at hrun hspn
        have hi3b : fr ≤ i3 := by omega
        have HRUN := hid hrun
        have HSPN := hid hspn
        clear hmt hrun hspn hi3 HEOL HME
        go_wp2_with fail
        refine HRUN.out.mono ?_
        rintro e w9 ⟨rfl, hr9, hf9⟩
        have HS9 := hid (HS8.out.call hr9 hf9)
        clear hr9 hf9 HRUN c1 c2 fz HS8
        go_wp2_with fail
        refine (specFault_spec HS9.out.rd hs (by omega) i2 hi2c (by omega)).mono ?_
        rintro e w10 ⟨⟨v, rfl, x2, y2, rfl⟩, h10, f10⟩
        have HS10 := hid (HS9.out.call h10 f10)
        obtain ⟨x8, y8, hr8⟩ := HS10.out.row
        have HR8 := hid hr8
        clear h10 f10 hr8 HS9
        go_wp2_with (refine wpList_store_row (o := ⟨none, .store 37 (.tmp 4) (.tmp 70), _, _, _, _⟩) rfl 37 _ _ rfl V (F37 true x2 y2) rfl rfl 37 _ HR8.out info37t rfl (by simp [F37, Value.oneCell']) ?_)
        have HS11 := HS10.out.store true x2 y2
        refine bodyPost_ret (res_tt37 rfl rfl rfl rfl (setRow_heap _ _ _ _ _ _ HR8.out) rfl) rfl ?_
        rw [HMT.out]
        have hsc : (((b.skip blankP).skip notEolP).broke).sec = brk 5 := HSPN.out.2.2
        refine ⟨i3, ⟨#[]⟩, false, x2, y2, rfl, ?_, hi3b, ?_, HS11.fm⟩
        · show Sp s i3 (((b.skip blankP).skip notEolP).broke).sec _
          rw [hsc]; exact HSPN.out
        · show IsRd _ R s i3 (((b.skip blankP).skip notEolP).broke).sec fr
          rw [hsc]; exact HS11.rd
      · obtain ⟨mm, hmt, hspm⟩ := HME.out.1 rfl
        have HMT := hid hmt
        have HSPM := hid hspm
        have hln : (i2 : Int) + (ln : Int) ≤ 1000 := by have h9 : i2 + ln ≤ s.size := hspm.2.1; omega
        have hs9 := (HS8.out.place (i2 + ln)).part 5
        clear hmt hspm HEOL HME
        go_upto_region 19 with fail
        obtain ⟨w9, hw9⟩ : ∃ w9, (w8.setCell ⟨R, 1, none⟩ (.int .i64 ((i2 + ln : Nat) : Int))).setCell ⟨R, 2, none⟩ (.int .i64 ((5 : Nat) : Int)) = w9 := ⟨_, rfl⟩
        change Code.wp _ _ _ _ ((w8.setCell ⟨R, 1, none⟩ (.int .i64 ((i2 + ln : Nat) : Int))).setCell ⟨R, 2, none⟩ (.int .i64 ((5 : Nat) : Int)))
        rw [hw9] at hs9 ⊢
        have HS9 := hid hs9
        obtain ⟨x9, y9, hr9⟩ := hs9.row
        have n0 : w9.cell? ⟨V, 0, none⟩ = some (.bool false) := cell_of_row w9 V 0 _ _ _ hr9
        have n1 : w9.cell? ⟨V, 1, none⟩ = some (.int .i64 x9) := cell_of_row w9 V 1 _ _ _ hr9
        have n2 : w9.cell? ⟨V, 2, none⟩ = some (.int .i64 y9) := cell_of_row w9 V 2 _ _ _ hr9
        have n3 : w9.cell? ⟨V, 3, none⟩ = some (.bool false) := cell_of_row w9 V 3 _ _ _ hr9
        have nf : ∀ o, w9.frozen? ⟨V, o, none⟩ = false := fun o => frozen_of_row w9 V o _ _ hr9
        clear hw9 hs9 hr9 c1 c2 fz HS8
        go_region
        go_wp2_with fail
        have HS10 := HS9.out.drew.relay false x9 y9
        obtain ⟨xa, ya, hxa⟩ := HS10.row
        refine bodyPost_ret (res_tt37 rfl rfl rfl rfl hxa rfl) rfl ?_
        rw [HMT.out]
        have hsc : mm.sec = 5 := HSPM.out.2.2
        refine ⟨i2 + ln, _, _, xa, ya, rfl, ?_, by omega, ?_, HS10.fm⟩
        · show Sp s (i2 + ln) mm.sec mm
          rw [hsc]; exact HSPM.out
        · show IsRd _ R s (i2 + ln) mm.sec fr
          rw [hsc]; exact HS10.rd
    · rw [decide_eq_false hd] at HD
      have HN := hid (fun n => next_spec (HS5.out.rd.drewN n) (fun x w => in_1 x w))
      have hnx := HSPB.out.next whiteP
      have hb1 : b.has 1 = true := by rw [HSPB.out.has1]; simp; omega
      rw [hb1, Bool.true_and] at hnx
      cases hw : nextIs whiteP s i1
      · rw [hw] at HN hnx
        have hmt := mTime_white hm.2.2 HL.out HBB.out hb1 hnx
        have HMT := hid hmt
        have hspn := (HSPB.out.skip notEolP).broke
        obtain ⟨i3, hi3⟩ : ∃ i3, i1 + runN notEolP s i1 = i3 := ⟨_, rfl⟩
        rw [hi3] at hspn
        have HSPN := hid hspn
        have hi3b : fr ≤ i3 := by omega
        have HI3 := hid hi3
        clear hmt hspn hnx hb1 hw hi3
        go_wp2_with fail
        refine HD.out.mono ?_
        rintro e w6 ⟨rfl, n, rfl⟩
        go_wp2_with fail
        refine (HN.out n).mono ?_
        rintro e w6 ⟨rfl, n2, rfl⟩
        have HS6 := hid ((HS5.out.drewN n).drewN n2)
        generalize (w5.drewN n).drewN n2 = w6 at HS6 ⊢
        clear HD HN HS5
        have hrun := run_spec (f := notEolP) (j := 12) HS6.out.rd hs hi1c in_12
        rw [HI3.out] at hrun
        have HRUN := hid hrun
        clear hrun
        go_wp2_with fail
        refine HRUN.out.mono ?_
        rintro e w9 ⟨rfl, hr9, hf9⟩
        have HS9 := hid (HS6.out.call hr9 hf9)
        clear hr9 hf9 HRUN HS6
        go_wp2_with fail
        refine (specFault_spec HS9.out.rd hs (by omega) i hi hfr).mono ?_
        rintro e w10 ⟨⟨v, rfl, x2, y2, rfl⟩, h10, f10⟩
        have HS10 := hid (HS9.out.call h10 f10)
        obtain ⟨x8, y8, hr8⟩ := HS10.out.row
        have HR8 := hid hr8
        clear h10 f10 hr8 HS9
        go_wp2_with (refine wpList_store_row (o := ⟨none, .store 37 (.tmp 4) (.tmp 44), _, _, _, _⟩) rfl 37 _ _ rfl V (F37 true x2 y2) rfl rfl 37 _ HR8.out info37t rfl (by simp [F37, Value.oneCell']) ?_)
        have HS11 := HS10.out.store true x2 y2
        refine bodyPost_ret (res_tt37 rfl rfl rfl rfl (setRow_heap _ _ _ _ _ _ HR8.out) rfl) rfl ?_
        rw [HMT.out]
        have hsc : ((b.skip notEolP).broke).sec = brk 5 := HSPN.out.2.2
        refine ⟨i3, ⟨#[]⟩, false, x2, y2, rfl, ?_, hi3b, ?_, HS11.fm⟩
        · show Sp s i3 ((b.skip notEolP).broke).sec _
          rw [hsc]; exact HSPN.out
        · show IsRd _ R s i3 ((b.skip notEolP).broke).sec fr
          rw [hsc]; exact HS11.rd
      · rw [hw] at HN hnx
        have HW : Hid (b.has 1 = false ∨ whiteP b.at0.toNat = true) := hid (.inr hnx.symm)
        clear hnx hb1 hw
        go_wp2_with fail
        refine HD.out.mono ?_
        rintro e w6 ⟨rfl, n, rfl⟩
        go_wp2_with fail
        refine (HN.out n).mono ?_
        rintro e w6 ⟨rfl, n2, rfl⟩
        have HS6 := hid ((HS5.out.drewN n).drewN n2)
        generalize (w5.drewN n).drewN n2 = w6 at HS6 ⊢
        clear HD HN HS5
        have hspk := HSPB.out.skip blankP
        obtain ⟨i2, hi2⟩ : ∃ i2, i1 + runN blankP s i1 = i2 := ⟨_, rfl⟩
        have hrun := run_spec (f := blankP) (j := 0) HS6.out.rd hs hi1c in_0
        rw [hi2] at hrun hspk
        have hi2b : i1 ≤ i2 := by omega
        have hi2c : i2 ≤ s.size := hspk.2.1
        have hle := lineEnd_spec (s.extract i2 s.size) (by rw [ByteArray.size_extract]; omega)
        rw [extract_rest] at hle
        have heol := hspk.eol
        have HRUN := hid hrun
        have HEOL := hid heol
        have HSPK := hid hspk
        have HI2 := hid hi2
        clear hrun heol hspk hi2
        obtain ⟨le, hle2⟩ : ∃ le, lineEnd (restOf s i2) = le := ⟨_, rfl⟩
        rw [hle2] at hle HEOL
        have HME := hid (mTime_end hm.2.2 HL.out HBB.out HW.out HSPB.out HI2.out hle2)
        obtain ⟨ln, lb⟩ := le
        have HLE := hid hle
        clear hle hle2
        go_wp2_with fail
        refine HRUN.out.mono ?_
        rintro e w7 ⟨rfl, hr7, hf7⟩
        have HS7 := hid (HS6.out.call hr7 hf7)
        obtain ⟨c0, c1, c2, c3, fz⟩ := HS7.out.rd.cells
        have hi2d : (i2 : Int) ≤ (s.size : Int) := by omega
        have hR7 := lt_of_block HS7.out.rd
        clear hr7 hf7 HRUN HS6 c3
        go_upto_region 12 with fail
        go_quiet ((go_at_call 93; exact Calls.quiet_of_same (HLE.out _)))
        obtain ⟨w8, hw8⟩ : ∃ w8, w7.drewN nq = w8 := ⟨_, rfl⟩
        have hs8 := HS7.out.drewN nq
        rw [hw8] at hs8 ⊢
        have HS8 := hid hs8
        clear hw8 c0 c1 c2 fz HS7 HLE hs8
        obtain ⟨c0, c1, c2, c3, fz⟩ := HS8.out.rd.cells
        have hR8 := lt_of_block HS8.out.rd
        clear c0 c3
        cases lb
        · obtain ⟨f, hmt⟩ := HME.out.2 rfl
          have HMT := hid hmt
          have hspn := (HSPK.out.skip notEolP).broke
          have hrun := run_spec (f := notEolP) (j := 12) HS8.out.rd hs hi2c in_12
          obtain ⟨i3, hi3⟩ : ∃ i3, i2 + runN notEolP s i2 = i3 := ⟨_, rfl⟩
          rw [hi3] at hrun hspn
          have hi3b : fr ≤ i3 := by omega
          have HRUN := hid hrun
          have HSPN := hid hspn
          clear hmt hrun hspn hi3 HEOL HME
          go_wp2_with fail
          refine HRUN.out.mono ?_
          rintro e w9 ⟨rfl, hr9, hf9⟩
          have HS9 := hid (HS8.out.call hr9 hf9)
          clear hr9 hf9 HRUN c1 c2 fz HS8
          go_wp2_with fail
          refine (specFault_spec HS9.out.rd hs (by omega) i2 hi2c (by omega)).mono ?_
          rintro e w10 ⟨⟨v, rfl, x2, y2, rfl⟩, h10, f10⟩
          have HS10 := hid (HS9.out.call h10 f10)
          obtain ⟨x8, y8, hr8⟩ := HS10.out.row
          have HR8 := hid hr8
          clear h10 f10 hr8 HS9
          go_wp2_with (refine wpList_store_row (o := ⟨none, .store 37 (.tmp 4) (.tmp 70), _, _, _, _⟩) rfl 37 _ _ rfl V (F37 true x2 y2) rfl rfl 37 _ HR8.out info37t rfl (by simp [F37, Value.oneCell']) ?_)
          have HS11 := HS10.out.store true x2 y2
          refine bodyPost_ret (res_tt37 rfl rfl rfl rfl (setRow_heap _ _ _ _ _ _ HR8.out) rfl) rfl ?_
          rw [HMT.out]
          have hsc : (((b.skip blankP).skip notEolP).broke).sec = brk 5 := HSPN.out.2.2
          refine ⟨i3, ⟨#[]⟩, false, x2, y2, rfl, ?_, hi3b, ?_, HS11.fm⟩
          · show Sp s i3 (((b.skip blankP).skip notEolP).broke).sec _
            rw [hsc]; exact HSPN.out
          · show IsRd _ R s i3 (((b.skip blankP).skip notEolP).broke).sec fr
            rw [hsc]; exact HS11.rd
        · obtain ⟨mm, hmt, hspm⟩ := HME.out.1 rfl
          have HMT := hid hmt
          have HSPM := hid hspm
          have hln : (i2 : Int) + (ln : Int) ≤ 1000 := by have h9 : i2 + ln ≤ s.size := hspm.2.1; omega
          have hs9 := (HS8.out.place (i2 + ln)).part 5
          clear hmt hspm HEOL HME
          go_upto_region 19 with fail
          obtain ⟨w9, hw9⟩ : ∃ w9, (w8.setCell ⟨R, 1, none⟩ (.int .i64 ((i2 + ln : Nat) : Int))).setCell ⟨R, 2, none⟩ (.int .i64 ((5 : Nat) : Int)) = w9 := ⟨_, rfl⟩
          change Code.wp _ _ _ _ ((w8.setCell ⟨R, 1, none⟩ (.int .i64 ((i2 + ln : Nat) : Int))).setCell ⟨R, 2, none⟩ (.int .i64 ((5 : Nat) : Int)))
          rw [hw9] at hs9 ⊢
          have HS9 := hid hs9
          obtain ⟨x9, y9, hr9⟩ := hs9.row
          have n0 : w9.cell? ⟨V, 0, none⟩ = some (.bool false) := cell_of_row w9 V 0 _ _ _ hr9
          have n1 : w9.cell? ⟨V, 1, none⟩ = some (.int .i64 x9) := cell_of_row w9 V 1 _ _ _ hr9
          have n2 : w9.cell? ⟨V, 2, none⟩ = some (.int .i64 y9) := cell_of_row w9 V 2 _ _ _ hr9
          have n3 : w9.cell? ⟨V, 3, none⟩ = some (.bool false) := cell_of_row w9 V 3 _ _ _ hr9
          have nf : ∀ o, w9.frozen? ⟨V, o, none⟩ = false := fun o => frozen_of_row w9 V o _ _ hr9
          clear hw9 hs9 hr9 c1 c2 fz HS8
          go_region
          go_wp2_with fail
          have HS10 := HS9.out.drew.relay false x9 y9
          obtain ⟨xa, ya, hxa⟩ := HS10.row
          refine bodyPost_ret (res_tt37 rfl rfl rfl rfl hxa rfl) rfl ?_
          rw [HMT.out]
          have hsc : mm.sec = 5 := HSPM.out.2.2
          refine ⟨i2 + ln, _, _, xa, ya, rfl, ?_, by omega, ?_, HS10.fm⟩
          · show Sp s (i2 + ln) mm.sec mm
            rw [hsc]; exact HSPM.out
          · show IsRd _ R s (i2 + ln) mm.sec fr
            rw [hsc]; exact HS10.rd
  · have hp1' : p1 = 3 := by rw [← hp1]; rfl
    subst hp1'
    clear hp1
    have HS5 := HS4
    clear c0 c1 c3
    go_upto_region 8 with fail
    clear c2 fz HS4
    generalize w4 = w5 at HS5 ⊢
    have HD := hid (done_spec HS5.out.rd (by omega) hi1c)
    by_cases hd : s.size ≤ i1
    · rw [decide_eq_true hd] at HD
      go_wp2_with fail
      refine HD.out.mono ?_
      rintro e w6 ⟨rfl, n, rfl⟩
      have HS6 := hid (HS5.out.drewN n)
      generalize w5.drewN n = w6 at HS6 ⊢
      have HW : Hid (b.has 1 = false ∨ whiteP b.at0.toNat = true) := hid (.inl (by rw [HSPB.out.has1]; simp; omega))
      clear HD HS5
      have hspk := HSPB.out.skip blankP
      obtain ⟨i2, hi2⟩ : ∃ i2, i1 + runN blankP s i1 = i2 := ⟨_, rfl⟩
      have hrun := run_spec (f := blankP) (j := 0) HS6.out.rd hs hi1c in_0
      rw [hi2] at hrun hspk
      have hi2b : i1 ≤ i2 := by omega
      have hi2c : i2 ≤ s.size := hspk.2.1
      have hle := lineEnd_spec (s.extract i2 s.size) (by rw [ByteArray.size_extract]; omega)
      rw [extract_rest] at hle
      have heol := hspk.eol
      have HRUN := hid hrun
      have HEOL := hid heol
      have HSPK := hid hspk
      have HI2 := hid hi2
      clear hrun heol hspk hi2
      obtain ⟨le, hle2⟩ : ∃ le, lineEnd (restOf s i2) = le := ⟨_, rfl⟩
      rw [hle2] at hle HEOL
      have HME := hid (mTime_end hm.2.2 HL.out HBB.out HW.out HSPB.out HI2.out hle2)
      obtain ⟨ln, lb⟩ := le
      have HLE := hid hle
      clear hle hle2
      go_wp2_with fail
      refine HRUN.out.mono ?_
      rintro e w7 ⟨rfl, hr7, hf7⟩
      have HS7 := hid (HS6.out.call hr7 hf7)
      obtain ⟨c0, c1, c2, c3, fz⟩ := HS7.out.rd.cells
      have hi2d : (i2 : Int) ≤ (s.size : Int) := by omega
      have hR7 := lt_of_block HS7.out.rd
      clear hr7 hf7 HRUN HS6 c3
      go_upto_region 12 with fail
      go_quiet ((go_at_call 93; exact Calls.quiet_of_same (HLE.out _)))
      obtain ⟨w8, hw8⟩ : ∃ w8, w7.drewN nq = w8 := ⟨_, rfl⟩
      have hs8 := HS7.out.drewN nq
      rw [hw8] at hs8 ⊢
      have HS8 := hid hs8
      clear hw8 c0 c1 c2 fz HS7 HLE hs8
      obtain ⟨c0, c1, c2, c3, fz⟩ := HS8.out.rd.cells
      have hR8 := lt_of_block HS8.out.rd
      clear c0 c3
      cases lb
      · obtain ⟨f, hmt⟩ := HME.out.2 rfl
        have HMT := hid hmt
        have hspn := (HSPK.out.skip notEolP).broke
        have hrun := run_spec (f := notEolP) (j := 12) HS8.out.rd hs hi2c in_12
        obtain ⟨i3, hi3⟩ : ∃ i3, i2 + runN notEolP s i2 = i3 := ⟨_, rfl⟩
        rw [hi3] at hrun hspn
        have hi3b : fr ≤ i3 := by omega
        have HRUN := hid hrun
        have HSPN := hid hspn
        clear hmt hrun hspn hi3 HEOL HME
        go_wp2_with fail
        refine HRUN.out.mono ?_
        rintro e w9 ⟨rfl, hr9, hf9⟩
        have HS9 := hid (HS8.out.call hr9 hf9)
        clear hr9 hf9 HRUN c1 c2 fz HS8
        go_wp2_with fail
        refine (specFault_spec HS9.out.rd hs (by omega) i2 hi2c (by omega)).mono ?_
        rintro e w10 ⟨⟨v, rfl, x2, y2, rfl⟩, h10, f10⟩
        have HS10 := hid (HS9.out.call h10 f10)
        obtain ⟨x8, y8, hr8⟩ := HS10.out.row
        have HR8 := hid hr8
        clear h10 f10 hr8 HS9
        go_wp2_with (refine wpList_store_row (o := ⟨none, .store 37 (.tmp 4) (.tmp 70), _, _, _, _⟩) rfl 37 _ _ rfl V (F37 true x2 y2) rfl rfl 37 _ HR8.out info37t rfl (by simp [F37, Value.oneCell']) ?_)
        have HS11 := HS10.out.store true x2 y2
        refine bodyPost_ret (res_tt37 rfl rfl rfl rfl (setRow_heap _ _ _ _ _ _ HR8.out) rfl) rfl ?_
        rw [HMT.out]
        have hsc : (((b.skip blankP).skip notEolP).broke).sec = brk 3 := HSPN.out.2.2
        refine ⟨i3, ⟨#[]⟩, false, x2, y2, rfl, ?_, hi3b, ?_, HS11.fm⟩
        · show Sp s i3 (((b.skip blankP).skip notEolP).broke).sec _
          rw [hsc]; exact HSPN.out
        · show IsRd _ R s i3 (((b.skip blankP).skip notEolP).broke).sec fr
          rw [hsc]; exact HS11.rd
      · obtain ⟨mm, hmt, hspm⟩ := HME.out.1 rfl
        have HMT := hid hmt
        have HSPM := hid hspm
        have hln : (i2 : Int) + (ln : Int) ≤ 1000 := by have h9 : i2 + ln ≤ s.size := hspm.2.1; omega
        have hs9 := (HS8.out.place (i2 + ln)).part 5
        clear hmt hspm HEOL HME
        go_upto_region 19 with fail
        obtain ⟨w9, hw9⟩ : ∃ w9, (w8.setCell ⟨R, 1, none⟩ (.int .i64 ((i2 + ln : Nat) : Int))).setCell ⟨R, 2, none⟩ (.int .i64 ((5 : Nat) : Int)) = w9 := ⟨_, rfl⟩
        change Code.wp _ _ _ _ ((w8.setCell ⟨R, 1, none⟩ (.int .i64 ((i2 + ln : Nat) : Int))).setCell ⟨R, 2, none⟩ (.int .i64 ((5 : Nat) : Int)))
        rw [hw9] at hs9 ⊢
        have HS9 := hid hs9
        obtain ⟨x9, y9, hr9⟩ := hs9.row
        have n0 : w9.cell? ⟨V, 0, none⟩ = some (.bool false) := cell_of_row w9 V 0 _ _ _ hr9
        have n1 : w9.cell? ⟨V, 1, none⟩ = some (.int .i64 x9) := cell_of_row w9 V 1 _ _ _ hr9
        have n2 : w9.cell? ⟨V, 2, none⟩ = some (.int .i64 y9) := cell_of_row w9 V 2 _ _ _ hr9
        have n3 : w9.cell? ⟨V, 3, none⟩ = some (.bool false) := cell_of_row w9 V 3 _ _ _ hr9
        have nf : ∀ o, w9.frozen? ⟨V, o, none⟩ = false := fun o => frozen_of_row w9 V o _ _ hr9
        clear hw9 hs9 hr9 c1 c2 fz HS8
        go_region
        go_wp2_with fail
        have HS10 := HS9.out.drew.relay false x9 y9
        obtain ⟨xa, ya, hxa⟩ := HS10.row
        refine bodyPost_ret (res_tt37 rfl rfl rfl rfl hxa rfl) rfl ?_
        rw [HMT.out]
        have hsc : mm.sec = 5 := HSPM.out.2.2
        refine ⟨i2 + ln, _, _, xa, ya, rfl, ?_, by omega, ?_, HS10.fm⟩
        · show Sp s (i2 + ln) mm.sec mm
          rw [hsc]; exact HSPM.out
        · show IsRd _ R s (i2 + ln) mm.sec fr
          rw [hsc]; exact HS10.rd
    · rw [decide_eq_false hd] at HD
      have HN := hid (fun n => next_spec (HS5.out.rd.drewN n) (fun x w => in_1 x w))
      have hnx := HSPB.out.next whiteP
      have hb1 : b.has 1 = true := by rw [HSPB.out.has1]; simp; omega
      rw [hb1, Bool.true_and] at hnx
      cases hw : nextIs whiteP s i1
      · rw [hw] at HN hnx
        have hmt := mTime_white hm.2.2 HL.out HBB.out hb1 hnx
        have HMT := hid hmt
        have hspn := (HSPB.out.skip notEolP).broke
        obtain ⟨i3, hi3⟩ : ∃ i3, i1 + runN notEolP s i1 = i3 := ⟨_, rfl⟩
        rw [hi3] at hspn
        have HSPN := hid hspn
        have hi3b : fr ≤ i3 := by omega
        have HI3 := hid hi3
        clear hmt hspn hnx hb1 hw hi3
        go_wp2_with fail
        refine HD.out.mono ?_
        rintro e w6 ⟨rfl, n, rfl⟩
        go_wp2_with fail
        refine (HN.out n).mono ?_
        rintro e w6 ⟨rfl, n2, rfl⟩
        have HS6 := hid ((HS5.out.drewN n).drewN n2)
        generalize (w5.drewN n).drewN n2 = w6 at HS6 ⊢
        clear HD HN HS5
        have hrun := run_spec (f := notEolP) (j := 12) HS6.out.rd hs hi1c in_12
        rw [HI3.out] at hrun
        have HRUN := hid hrun
        clear hrun
        go_wp2_with fail
        refine HRUN.out.mono ?_
        rintro e w9 ⟨rfl, hr9, hf9⟩
        have HS9 := hid (HS6.out.call hr9 hf9)
        clear hr9 hf9 HRUN HS6
        go_wp2_with fail
        refine (specFault_spec HS9.out.rd hs (by omega) i hi hfr).mono ?_
        rintro e w10 ⟨⟨v, rfl, x2, y2, rfl⟩, h10, f10⟩
        have HS10 := hid (HS9.out.call h10 f10)
        obtain ⟨x8, y8, hr8⟩ := HS10.out.row
        have HR8 := hid hr8
        clear h10 f10 hr8 HS9
        go_wp2_with (refine wpList_store_row (o := ⟨none, .store 37 (.tmp 4) (.tmp 44), _, _, _, _⟩) rfl 37 _ _ rfl V (F37 true x2 y2) rfl rfl 37 _ HR8.out info37t rfl (by simp [F37, Value.oneCell']) ?_)
        have HS11 := HS10.out.store true x2 y2
        refine bodyPost_ret (res_tt37 rfl rfl rfl rfl (setRow_heap _ _ _ _ _ _ HR8.out) rfl) rfl ?_
        rw [HMT.out]
        have hsc : ((b.skip notEolP).broke).sec = brk 3 := HSPN.out.2.2
        refine ⟨i3, ⟨#[]⟩, false, x2, y2, rfl, ?_, hi3b, ?_, HS11.fm⟩
        · show Sp s i3 ((b.skip notEolP).broke).sec _
          rw [hsc]; exact HSPN.out
        · show IsRd _ R s i3 ((b.skip notEolP).broke).sec fr
          rw [hsc]; exact HS11.rd
      · rw [hw] at HN hnx
        have HW : Hid (b.has 1 = false ∨ whiteP b.at0.toNat = true) := hid (.inr hnx.symm)
        clear hnx hb1 hw
        go_wp2_with fail
        refine HD.out.mono ?_
        rintro e w6 ⟨rfl, n, rfl⟩
        go_wp2_with fail
        refine (HN.out n).mono ?_
        rintro e w6 ⟨rfl, n2, rfl⟩
        have HS6 := hid ((HS5.out.drewN n).drewN n2)
        generalize (w5.drewN n).drewN n2 = w6 at HS6 ⊢
        clear HD HN HS5
        have hspk := HSPB.out.skip blankP
        obtain ⟨i2, hi2⟩ : ∃ i2, i1 + runN blankP s i1 = i2 := ⟨_, rfl⟩
        have hrun := run_spec (f := blankP) (j := 0) HS6.out.rd hs hi1c in_0
        rw [hi2] at hrun hspk
        have hi2b : i1 ≤ i2 := by omega
        have hi2c : i2 ≤ s.size := hspk.2.1
        have hle := lineEnd_spec (s.extract i2 s.size) (by rw [ByteArray.size_extract]; omega)
        rw [extract_rest] at hle
        have heol := hspk.eol
        have HRUN := hid hrun
        have HEOL := hid heol
        have HSPK := hid hspk
        have HI2 := hid hi2
        clear hrun heol hspk hi2
        obtain ⟨le, hle2⟩ : ∃ le, lineEnd (restOf s i2) = le := ⟨_, rfl⟩
        rw [hle2] at hle HEOL
        have HME := hid (mTime_end hm.2.2 HL.out HBB.out HW.out HSPB.out HI2.out hle2)
        obtain ⟨ln, lb⟩ := le
        have HLE := hid hle
        clear hle hle2
        go_wp2_with fail
        refine HRUN.out.mono ?_
        rintro e w7 ⟨rfl, hr7, hf7⟩
        have HS7 := hid (HS6.out.call hr7 hf7)
        obtain ⟨c0, c1, c2, c3, fz⟩ := HS7.out.rd.cells
        have hi2d : (i2 : Int) ≤ (s.size : Int) := by omega
        have hR7 := lt_of_block HS7.out.rd
        clear hr7 hf7 HRUN HS6 c3
        go_upto_region 12 with fail
        go_quiet ((go_at_call 93; exact Calls.quiet_of_same (HLE.out _)))
        obtain ⟨w8, hw8⟩ : ∃ w8, w7.drewN nq = w8 := ⟨_, rfl⟩
        have hs8 := HS7.out.drewN nq
        rw [hw8] at hs8 ⊢
        have HS8 := hid hs8
        clear hw8 c0 c1 c2 fz HS7 HLE hs8
        obtain ⟨c0, c1, c2, c3, fz⟩ := HS8.out.rd.cells
        have hR8 := lt_of_block HS8.out.rd
        clear c0 c3
        cases lb
        · obtain ⟨f, hmt⟩ := HME.out.2 rfl
          have HMT := hid hmt
          have hspn := (HSPK.out.skip notEolP).broke
          have hrun := run_spec (f := notEolP) (j := 12) HS8.out.rd hs hi2c in_12
          obtain ⟨i3, hi3⟩ : ∃ i3, i2 + runN notEolP s i2 = i3 := ⟨_, rfl⟩
          rw [hi3] at hrun hspn
          have hi3b : fr ≤ i3 := by omega
          have HRUN := hid hrun
          have HSPN := hid hspn
          clear hmt hrun hspn hi3 HEOL HME
          go_wp2_with fail
          refine HRUN.out.mono ?_
          rintro e w9 ⟨rfl, hr9, hf9⟩
          have HS9 := hid (HS8.out.call hr9 hf9)
          clear hr9 hf9 HRUN c1 c2 fz HS8
          go_wp2_with fail
          refine (specFault_spec HS9.out.rd hs (by omega) i2 hi2c (by omega)).mono ?_
          rintro e w10 ⟨⟨v, rfl, x2, y2, rfl⟩, h10, f10⟩
          have HS10 := hid (HS9.out.call h10 f10)
          obtain ⟨x8, y8, hr8⟩ := HS10.out.row
          have HR8 := hid hr8
          clear h10 f10 hr8 HS9
          go_wp2_with (refine wpList_store_row (o := ⟨none, .store 37 (.tmp 4) (.tmp 70), _, _, _, _⟩) rfl 37 _ _ rfl V (F37 true x2 y2) rfl rfl 37 _ HR8.out info37t rfl (by simp [F37, Value.oneCell']) ?_)
          have HS11 := HS10.out.store true x2 y2
          refine bodyPost_ret (res_tt37 rfl rfl rfl rfl (setRow_heap _ _ _ _ _ _ HR8.out) rfl) rfl ?_
          rw [HMT.out]
          have hsc : (((b.skip blankP).skip notEolP).broke).sec = brk 3 := HSPN.out.2.2
          refine ⟨i3, ⟨#[]⟩, false, x2, y2, rfl, ?_, hi3b, ?_, HS11.fm⟩
          · show Sp s i3 (((b.skip blankP).skip notEolP).broke).sec _
            rw [hsc]; exact HSPN.out
          · show IsRd _ R s i3 (((b.skip blankP).skip notEolP).broke).sec fr
            rw [hsc]; exact HS11.rd
        · obtain ⟨mm, hmt, hspm⟩ := HME.out.1 rfl
          have HMT := hid hmt
          have HSPM := hid hspm
          have hln : (i2 : Int) + (ln : Int) ≤ 1000 := by have h9 : i2 + ln ≤ s.size := hspm.2.1; omega
          have hs9 := (HS8.out.place (i2 + ln)).part 5
          clear hmt hspm HEOL HME
          go_upto_region 19 with fail
          obtain ⟨w9, hw9⟩ : ∃ w9, (w8.setCell ⟨R, 1, none⟩ (.int .i64 ((i2 + ln : Nat) : Int))).setCell ⟨R, 2, none⟩ (.int .i64 ((5 : Nat) : Int)) = w9 := ⟨_, rfl⟩
          change Code.wp _ _ _ _ ((w8.setCell ⟨R, 1, none⟩ (.int .i64 ((i2 + ln : Nat) : Int))).setCell ⟨R, 2, none⟩ (.int .i64 ((5 : Nat) : Int)))
          rw [hw9] at hs9 ⊢
          have HS9 := hid hs9
          obtain ⟨x9, y9, hr9⟩ := hs9.row
          have n0 : w9.cell? ⟨V, 0, none⟩ = some (.bool false) := cell_of_row w9 V 0 _ _ _ hr9
          have n1 : w9.cell? ⟨V, 1, none⟩ = some (.int .i64 x9) := cell_of_row w9 V 1 _ _ _ hr9
          have n2 : w9.cell? ⟨V, 2, none⟩ = some (.int .i64 y9) := cell_of_row w9 V 2 _ _ _ hr9
          have n3 : w9.cell? ⟨V, 3, none⟩ = some (.bool false) := cell_of_row w9 V 3 _ _ _ hr9
          have nf : ∀ o, w9.frozen? ⟨V, o, none⟩ = false := fun o => frozen_of_row w9 V o _ _ hr9
          clear hw9 hs9 hr9 c1 c2 fz HS8
          go_region
          go_wp2_with fail
          have HS10 := HS9.out.drew.relay false x9 y9
          obtain ⟨xa, ya, hxa⟩ := HS10.row
          refine bodyPost_ret (res_tt37 rfl rfl rfl rfl hxa rfl) rfl ?_
          rw [HMT.out]
          have hsc : mm.sec = 5 := HSPM.out.2.2
          refine ⟨i2 + ln, _, _, xa, ya, rfl, ?_, by omega, ?_, HS10.fm⟩
          · show Sp s (i2 + ln) mm.sec mm
            rw [hsc]; exact HSPM.out
          · show IsRd _ R s (i2 + ln) mm.sec fr
            rw [hsc]; exact HS10.rd
end Go.Proofs.YtejlokdcocacaaaGreatDoor
