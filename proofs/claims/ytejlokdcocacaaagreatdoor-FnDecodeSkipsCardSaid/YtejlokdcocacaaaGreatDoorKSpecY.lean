/- The reference's Field. Printed by gen_f48b.py. -/
import Derived.Test.YtejlokdcocacaaaGreatDoorKSpecY2
namespace Go.Proofs.YtejlokdcocacaaaGreatDoor
open Go.RowKit Go.Proofs.YtejlokdcocacaaaGreatDoorW.PrintLast

set_option maxHeartbeats 100000000 in
set_option maxRecDepth 100000 in
theorem field_spec {w : World} {R : Nat} {s : ByteArray} {i fr : Nat} {m : MSt} (h : IsRd w R s i 2 fr) (hs : s.size ≤ 1000) (hfr : fr ≤ i) (hm : Sp s i 2 m) :
    Calls Tryz.prog 48 #[.pointer (some ⟨R, 0, none⟩)] w (FieldP R s w (mField m).1 (mField m).2.bad (mField m).2.got fr) := by
  have hi := hm.2.1
  have hSg := Sg.begin h 50 #[.string ⟨#[]⟩, .int .i64 0, .string ⟨#[]⟩]
  obtain ⟨w1, hw1⟩ : ∃ w1, (w.alloc (.cells #[.string ⟨#[]⟩, .int .i64 0, .string ⟨#[]⟩] 50)).alloc z37 = w1 := ⟨_, rfl⟩
  obtain ⟨G, hG⟩ : ∃ G, w.heap.size = G := ⟨_, rfl⟩
  obtain ⟨V, hV⟩ : ∃ V, G + 1 = V := ⟨_, rfl⟩
  rw [hw1, hG, hV] at hSg
  have HS1 := hid hSg
  have HSK := hid (skip_idle hSg.sv.rd 2 (by omega) (fun h => by omega) (fun h => by omega) (fun h => by omega))
  have hR1 := lt_of_block hSg.sv.rd
  obtain ⟨u, hu⟩ : ∃ u, tok fieldKeyP tagE (restOf s i) = u := ⟨_, rfl⟩
  have HU := hid hu
  have hle : u.1 ≤ s.size - i := by rw [← hu, ← restOf_len]; exact (tok_le (f := fieldKeyP) (g := tagE) _ _ (Nat.le_refl _)).1
  obtain ⟨i1, hi1⟩ : ∃ i1, i + u.1 = i1 := ⟨_, rfl⟩
  have HI1 := hid hi1
  have hi1b : i ≤ i1 := by omega
  have hi1c : i1 ≤ s.size := by omega
  clear h hSg hu hi1
  go_enter Tryz.func48, Tryz.ntmps48
  go_upto_region 1 with fail
  change Code.wp _ _ _ _ ((w.alloc (.cells #[.string ⟨#[]⟩, .int .i64 0, .string ⟨#[]⟩] 50)).alloc z37)
  rw [hw1]
  clear hw1
  go_wp2_with fail
  refine HSK.out.mono ?_
  rintro e w2 ⟨⟨x, y, rfl⟩, hr2, hf2⟩
  have HS2 := hid (HS1.out.call hr2 hf2)
  obtain ⟨x0, y0, hrow⟩ := HS2.out.sv.row
  have HROW := hid hrow
  obtain ⟨w4, hw4⟩ : ∃ w4, w2.setRow V (F37 false x y) = w4 := ⟨_, rfl⟩
  have hs4 := HS2.out.store false x y
  have hrow4 : w4.heap[V]? = some (.cells (F37 false x y) 37 (0, 0)) := by rw [← hw4]; exact setRow_heap _ _ _ _ _ _ hrow
  rw [hw4] at hs4
  have HS4 := hid hs4
  have n0 : w4.cell? ⟨V, 0, none⟩ = some (.bool false) := cell_of_row w4 V 0 _ _ _ hrow4
  obtain ⟨c0, c1, c2, c3, fz⟩ := hs4.sv.rd.cells
  have HTK := hid (token94 (f := fieldKeyP) (g := tagE) 3 tok_3 hs4.sv.rd hs hi (by omega) hfr)
  clear HS1 HSK hr2 hf2 hrow hrow4 hs4 c0 c3 HS2
  go_wp2_with (refine wpList_store_row (o := ⟨none, .store 37 (.tmp 4) (.tmp 12), _, _, _, _⟩) rfl 37 _ _ rfl V (F37 false x y) rfl rfl 37 _ HROW.out info37t rfl (by simp [F37, Value.oneCell']) ?_; rw [hw4])
  refine HTK.out.mono ?_
  rintro e w5 ⟨⟨b, x5, y5, rfl, hb5⟩, hr5, hf5⟩
  rw [HU.out] at hb5 hr5 ⊢
  rw [HI1.out] at hr5
  have hs5 := HS4.out.call hr5 hf5
  clear hr5 hf5 HTK HS4 c1 c2 fz n0 HROW hw4
  cases b
  · have hvd : Lib.validD u.2 = true := by have h := hb5; revert h; cases Lib.validD u.2 <;> decide
    rw [if_pos hvd] at hs5
    have HS5 := hid hs5
    have HVD := hid hvd
    clear hb5 hvd hs5
    have hg5 := HS5.out.row
    have g0 : w5.cell? ⟨G, 0, none⟩ = some (.string ⟨#[]⟩) := cell_of_row w5 G 0 _ _ _ hg5
    have g1 : w5.cell? ⟨G, 1, none⟩ = some (.int .i64 0) := cell_of_row w5 G 1 _ _ _ hg5
    have g2 : w5.cell? ⟨G, 2, none⟩ = some (.string ⟨#[]⟩) := cell_of_row w5 G 2 _ _ _ hg5
    have gf : ∀ o, w5.frozen? ⟨G, o, none⟩ = false := fun o => frozen_of_row w5 G o _ _ hg5
    clear hg5
    obtain ⟨l, hl⟩ : ∃ l, u.2 = l := ⟨_, rfl⟩
    rw [hl]
    have HL := hid hl
    clear hl
    simp only [Bool.false_eq_true, if_false]
    have hs5b := HS5.out.set0 (.string ⟨l.toArray⟩)
    obtain ⟨x0, y0, hrow⟩ := hs5b.sv.row
    have HROW := hid hrow
    obtain ⟨w6, hw6⟩ : ∃ w6, (w5.setCell ⟨G, 0, none⟩ (.string ⟨l.toArray⟩)).setRow V (F37 false x5 y5) = w6 := ⟨_, rfl⟩
    have hs6 := hs5b.store false x5 y5
    rw [hw6] at hs6
    have HS6 := hid hs6
    clear hrow hs5b hs6 HS5
    obtain ⟨x6, y6, hr6⟩ := HS6.out.sv.row
    have n0 : w6.cell? ⟨V, 0, none⟩ = some (.bool false) := cell_of_row w6 V 0 _ _ _ hr6
    have HROW6 := hid hr6
    clear hr6
    go_upto_region 6 with (refine wpList_store_row (o := ⟨none, .store 37 (.tmp 4) (.tmp 32), _, _, _, _⟩) rfl 37 _ _ rfl V (F37 false x5 y5) rfl rfl 37 _ HROW.out info37t rfl (by simp [F37, Value.oneCell']) ?_; rw [hw6])
    clear g0 g1 g2 gf HROW hw6
    have hg6 := HS6.out.row
    have g0 : w6.cell? ⟨G, 0, none⟩ = some (.string ⟨l.toArray⟩) := cell_of_row w6 G 0 _ _ _ hg6
    have g1 : w6.cell? ⟨G, 1, none⟩ = some (.int .i64 0) := cell_of_row w6 G 1 _ _ _ hg6
    have g2 : w6.cell? ⟨G, 2, none⟩ = some (.string ⟨#[]⟩) := cell_of_row w6 G 2 _ _ _ hg6
    have gf : ∀ o, w6.frozen? ⟨G, o, none⟩ = false := fun o => frozen_of_row w6 G o _ _ hg6
    clear hg6
    obtain ⟨c0, c1, c2, c3, fz⟩ := HS6.out.sv.rd.cells
    have hR6 := lt_of_block HS6.out.sv.rd
    clear c2 c3
    rcases l with _ | ⟨c, t⟩
    · obtain ⟨f, X, hmt, hsp⟩ := field_key_bad hm HU.out (.inr (.inl HL.out))
      rw [HI1.out] at hsp
      have HMT := hid hmt
      have HSP := hid hsp
      clear hmt hsp
      clear c0 c1 fz g1 g2
      have hft := fault4 HS6.out.sv.rd hs (by omega) i hi hfr
      have HFT := hid hft
      clear hft
      go_wp2_with fail
      refine HFT.out.mono ?_
      rintro e wz ⟨⟨xz, yz, rfl⟩, hrz, hfz⟩
      have HSZ := hid (HS6.out.call hrz hfz)
      have HGZ := hid HSZ.out.row
      have hvz : (wz.setRow G #[.string ⟨#[]⟩, .int .i64 0, .string ⟨#[]⟩]).heap[V]? = some (.cells (F37 false (HSZ.out.sv.row.choose) (HSZ.out.sv.row.choose_spec.choose)) 37 (0, 0)) := (setRow_other _ _ _ _ (fun e => HSZ.out.gv e.symm)).trans HSZ.out.sv.row.choose_spec.choose_spec
      have HVZ := hid hvz
      clear hrz hfz HFT hvz HS6
      go_wp2_with (first | (refine wpList_store_row (o := ⟨none, .store 50 (.tmp 2) (.tmp 41), _, _, _, _⟩) rfl 50 _ _ rfl G #[.string ⟨#[]⟩, .int .i64 0, .string ⟨#[]⟩] rfl rfl 50 _ HGZ.out info50s rfl (by simp [Value.oneCell']) ?_) | (refine wpList_store_row (o := ⟨none, .store 37 (.tmp 4) (.tmp 44), _, _, _, _⟩) rfl 37 _ _ rfl V (F37 true xz yz) rfl rfl 37 _ HVZ.out info37t rfl (by simp [F37, Value.oneCell']) ?_))
      have HR0 := (HSZ.out.setG #[.string ⟨#[]⟩, .int .i64 0, .string ⟨#[]⟩]).store true xz yz
      refine bodyPost_ret (res_ctc50 rfl rfl rfl rfl HR0.row (setRow_heap _ _ _ _ _ _ HVZ.out) rfl rfl) rfl ?_
      rw [HMT.out]
      exact FieldP.mk HSP.out (by omega) HR0 _ _ _ _ _ _ _
    · have HD := hid (fun n => done_spec (HS6.out.sv.rd.drewN n) (by omega) hi1c)
      clear g1 g2
      by_cases hd : s.size ≤ i1
      · obtain ⟨f, X, hmt, hsp⟩ := field_key_bad hm HU.out (.inr (.inr (.inl (by rw [HI1.out]; exact hd))))
        rw [HI1.out] at hsp
        rw [decide_eq_true hd] at HD
        have HMT := hid hmt
        have HSP := hid hsp
        clear hmt hsp
        clear hd
        go_upto_region 10 with fail
        go_quiet ((go_at_call 45; exact Calls.quiet_of (HD.out _)))
        have HS7 := hid (HS6.out.drewN nq)
        generalize w6.drewN nq = w7 at HS7 ⊢
        clear HS6 c0 c1 fz n0 HD g0 gf
        obtain ⟨c0, c1, c2, c3, fz⟩ := HS7.out.sv.rd.cells
        have hR7 := lt_of_block HS7.out.sv.rd
        clear c0 c2 c3
        have hft := fault4 HS7.out.sv.rd hs (by omega) i1 hi1c (by omega)
        have HFT := hid hft
        clear hft
        go_wp2_with fail
        refine HFT.out.mono ?_
        rintro e wz ⟨⟨xz, yz, rfl⟩, hrz, hfz⟩
        have HSZ := hid (HS7.out.call hrz hfz)
        have HGZ := hid HSZ.out.row
        have hvz : (wz.setRow G #[.string ⟨#[]⟩, .int .i64 0, .string ⟨#[]⟩]).heap[V]? = some (.cells (F37 false (HSZ.out.sv.row.choose) (HSZ.out.sv.row.choose_spec.choose)) 37 (0, 0)) := (setRow_other _ _ _ _ (fun e => HSZ.out.gv e.symm)).trans HSZ.out.sv.row.choose_spec.choose_spec
        have HVZ := hid hvz
        clear hrz hfz HFT hvz HS7
        go_wp2_with (first | (refine wpList_store_row (o := ⟨none, .store 50 (.tmp 2) (.tmp 59), _, _, _, _⟩) rfl 50 _ _ rfl G #[.string ⟨#[]⟩, .int .i64 0, .string ⟨#[]⟩] rfl rfl 50 _ HGZ.out info50s rfl (by simp [Value.oneCell']) ?_) | (refine wpList_store_row (o := ⟨none, .store 37 (.tmp 4) (.tmp 65), _, _, _, _⟩) rfl 37 _ _ rfl V (F37 true xz yz) rfl rfl 37 _ HVZ.out info37t rfl (by simp [F37, Value.oneCell']) ?_))
        have HR0 := (HSZ.out.setG #[.string ⟨#[]⟩, .int .i64 0, .string ⟨#[]⟩]).store true xz yz
        refine bodyPost_ret (res_ctc50 rfl rfl rfl rfl HR0.row (setRow_heap _ _ _ _ _ _ HVZ.out) rfl rfl) rfl ?_
        rw [HMT.out]
        exact FieldP.mk HSP.out (by omega) HR0 _ _ _ _ _ _ _
      · have hd1 : (i1 : Int) < (s.size : Int) := by omega
        have hd3 : i1 < s.size := by omega
        rw [decide_eq_false hd] at HD
        clear hd
        by_cases h61 : s[i1] = 61
        · have e61 : ((s[i1].toNat : Int) != 61) = false := by rw [h61]; rfl
          have H61 := hid h61
          clear h61
          go_upto_region 10 with fail
          go_quiet ((go_at_call 45; exact Calls.quiet_of (HD.out _)))
          have HS7 := hid (HS6.out.drewN nq)
          generalize w6.drewN nq = w7 at HS7 ⊢
          clear HS6 c0 c1 fz n0 HD g0 gf e61
          obtain ⟨c0, c1, c2, c3, fz⟩ := HS7.out.sv.rd.cells
          have hR7 := lt_of_block HS7.out.sv.rd
          have hs8 := HS7.out.place (i1 + 1)
          have hi1d : (i1 : Int) + 1 ≤ 1000 := by omega
          clear c0 c2 c3
          go_upto_region 13 with fail
          obtain ⟨w8, hw8⟩ : ∃ w8, w7.setCell ⟨R, 1, none⟩ (.int .i64 ((i1 + 1 : Nat) : Int)) = w8 := ⟨_, rfl⟩
          change Code.wp _ _ _ _ (w7.setCell ⟨R, 1, none⟩ (.int .i64 ((i1 + 1 : Nat) : Int)))
          rw [hw8] at hs8 ⊢
          have HS8 := hid hs8
          clear hw8 hs8 HS7 c1 fz hi1d
          obtain ⟨i2, hi2⟩ : ∃ i2, i1 + 1 = i2 := ⟨_, rfl⟩
          rw [hi2] at HS8
          have HI2 := hid hi2
          have hi2b : i2 ≤ s.size := by omega
          have hi2c : fr ≤ i2 := by omega
          have hg2 : u.2 ≠ [] := by rw [HL.out]; simp
          have hg3 : i + u.1 < s.size := by rw [HI1.out]; exact hd3
          have hg4 : s[i + u.1]'hg3 = 61 := by
            have h := H61.out
            have e := HI1.out
            subst e
            exact h
          have HD2 := hid (done_spec HS8.out.sv.rd (by omega) hi2b)
          by_cases hd2 : s.size ≤ i2
          · obtain ⟨f, X, hmt, hsp⟩ := field_none hm HU.out HVD.out hg2 hg3 hg4 (by rw [HI1.out, hi2]; exact hd2)
            rw [HI1.out, hi2] at hsp
            rw [decide_eq_true hd2] at HD2
            have HMT := hid hmt
            have HSP := hid hsp
            clear hmt hsp
            clear hd2 hg2 hg4 hi2
            go_wp2_with fail
            refine HD2.out.mono ?_
            rintro e w9 ⟨rfl, n, rfl⟩
            have HS9 := hid (HS8.out.drewN n)
            generalize w8.drewN n = w9 at HS9 ⊢
            clear HD2 HS8
            obtain ⟨c0, c1, c2, c3, fz⟩ := HS9.out.sv.rd.cells
            have hR9 := lt_of_block HS9.out.sv.rd
            clear c0 c2 c3
            have hft := fault4 HS9.out.sv.rd hs (by omega) i2 hi2b hi2c
            have HFT := hid hft
            clear hft
            go_wp2_with fail
            refine HFT.out.mono ?_
            rintro e wz ⟨⟨xz, yz, rfl⟩, hrz, hfz⟩
            have HSZ := hid (HS9.out.call hrz hfz)
            have HGZ := hid HSZ.out.row
            have hvz : (wz.setRow G #[.string ⟨#[]⟩, .int .i64 0, .string ⟨#[]⟩]).heap[V]? = some (.cells (F37 false (HSZ.out.sv.row.choose) (HSZ.out.sv.row.choose_spec.choose)) 37 (0, 0)) := (setRow_other _ _ _ _ (fun e => HSZ.out.gv e.symm)).trans HSZ.out.sv.row.choose_spec.choose_spec
            have HVZ := hid hvz
            clear hrz hfz HFT hvz HS9
            go_wp2_with (first | (refine wpList_store_row (o := ⟨none, .store 50 (.tmp 2) (.tmp 75), _, _, _, _⟩) rfl 50 _ _ rfl G #[.string ⟨#[]⟩, .int .i64 0, .string ⟨#[]⟩] rfl rfl 50 _ HGZ.out info50s rfl (by simp [Value.oneCell']) ?_) | (refine wpList_store_row (o := ⟨none, .store 37 (.tmp 4) (.tmp 81), _, _, _, _⟩) rfl 37 _ _ rfl V (F37 true xz yz) rfl rfl 37 _ HVZ.out info37t rfl (by simp [F37, Value.oneCell']) ?_))
            have HR0 := (HSZ.out.setG #[.string ⟨#[]⟩, .int .i64 0, .string ⟨#[]⟩]).store true xz yz
            refine bodyPost_ret (res_ctc50 rfl rfl rfl rfl HR0.row (setRow_heap _ _ _ _ _ _ HVZ.out) rfl rfl) rfl ?_
            rw [HMT.out]
            exact FieldP.mk HSP.out (by omega) HR0 _ _ _ _ _ _ _
          · have hl2 : i2 < s.size := by omega
            have hl3 : (i2 : Int) < (s.size : Int) := by omega
            obtain ⟨mc, hcs, hca, hon1, hon2⟩ := field_on hm HU.out HVD.out hg2 hg3 hg4 (show i + u.1 + 1 = i2 by rw [HI1.out, hi2]) hl2
            rw [decide_eq_false hd2] at HD2
            have HC := hid hcs
            have HA := hid hca
            have HON1 := hid hon1
            have HON2 := hid hon2
            clear hd2 hg2 hg4 hi2 hcs hca hon1 hon2 HVD HL H61
            go_wp2_with fail
            refine HD2.out.mono ?_
            rintro e w85 ⟨rfl, n, rfl⟩
            have HS85 := hid (HS8.out.drewN n)
            generalize w8.drewN n = w85 at HS85 ⊢
            clear HD2 HS8
            obtain ⟨c0, c1, c2, c3, fz⟩ := HS85.out.sv.rd.cells
            have hR85 := lt_of_block HS85.out.sv.rd
            clear c2 c3
            go_upto_region 15 with fail
            refine reseq (by assumption) ?_
            have hsw : ∀ K : Act → World → Prop, (∀ a' w', Val48 w R s fr V G ⟨(c :: t).toArray⟩ m a' w' → K a' w') → ∀ a, Fr48 R G V a → sw48.wp Tryz.prog (Exit.then (swb48.wp Tryz.prog (Exit.then K (bodyPost Tryz.prog Tryz.f48 (FieldP R s w (mField m).1 (mField m).2.bad (mField m).2.got fr)))) (Exit.then K (bodyPost Tryz.prog Tryz.f48 (FieldP R s w (mField m).1 (mField m).2.bad (mField m).2.got fr)))) a w85 := by
              intro K hK a ha
              by_cases h34 : s[i2] = 34
              · exact field_sw_str hs hl2 hi2c hl3 HS85 HC HA HON1 HON2 (hid h34) hK ha
              · by_cases hb4 : s[i2] = 116 ∨ s[i2] = 84 ∨ s[i2] = 102 ∨ s[i2] = 70
                · exact field_sw_bool hs hl2 hi2c hl3 HS85 HC HA HON1 HON2 (hid h34) (hid hb4) hK ha
                · exact field_sw_num hs hl2 hi2c hl3 HS85 HC HA HON1 HON2 (hid h34) (hid hb4) hK ha
            refine hsw _ ?_ _ ⟨rfl, rfl, rfl, rfl, rfl⟩
            rintro a' wc ⟨hfr', j, kd, raw, d, HSC, HSPD, HON, hjf⟩
            go_step
            exact field_tail hs hjf HSC HSPD HON hfr'
        · have e61 : ((s[i1].toNat : Int) != 61) = true := by rw [bne_iff_ne]; intro h; exact h61 (UInt8.toNat.inj (by show s[i1].toNat = 61; omega))
          obtain ⟨f, X, hmt, hsp⟩ := field_key_bad hm HU.out (.inr (.inr (.inr (by rw [HI1.out]; exact ⟨hd3, h61⟩))))
          rw [HI1.out] at hsp
          have HMT := hid hmt
          have HSP := hid hsp
          clear hmt hsp
          clear h61
          go_upto_region 10 with fail
          go_quiet ((go_at_call 45; exact Calls.quiet_of (HD.out _)))
          have HS7 := hid (HS6.out.drewN nq)
          generalize w6.drewN nq = w7 at HS7 ⊢
          clear HS6 c0 c1 fz n0 HD g0 gf e61
          obtain ⟨c0, c1, c2, c3, fz⟩ := HS7.out.sv.rd.cells
          have hR7 := lt_of_block HS7.out.sv.rd
          clear c0 c2 c3
          have hft := fault4 HS7.out.sv.rd hs (by omega) i1 hi1c (by omega)
          have HFT := hid hft
          clear hft
          go_wp2_with fail
          refine HFT.out.mono ?_
          rintro e wz ⟨⟨xz, yz, rfl⟩, hrz, hfz⟩
          have HSZ := hid (HS7.out.call hrz hfz)
          have HGZ := hid HSZ.out.row
          have hvz : (wz.setRow G #[.string ⟨#[]⟩, .int .i64 0, .string ⟨#[]⟩]).heap[V]? = some (.cells (F37 false (HSZ.out.sv.row.choose) (HSZ.out.sv.row.choose_spec.choose)) 37 (0, 0)) := (setRow_other _ _ _ _ (fun e => HSZ.out.gv e.symm)).trans HSZ.out.sv.row.choose_spec.choose_spec
          have HVZ := hid hvz
          clear hrz hfz HFT hvz HS7
          go_wp2_with (first | (refine wpList_store_row (o := ⟨none, .store 50 (.tmp 2) (.tmp 59), _, _, _, _⟩) rfl 50 _ _ rfl G #[.string ⟨#[]⟩, .int .i64 0, .string ⟨#[]⟩] rfl rfl 50 _ HGZ.out info50s rfl (by simp [Value.oneCell']) ?_) | (refine wpList_store_row (o := ⟨none, .store 37 (.tmp 4) (.tmp 65), _, _, _, _⟩) rfl 37 _ _ rfl V (F37 true xz yz) rfl rfl 37 _ HVZ.out info37t rfl (by simp [F37, Value.oneCell']) ?_))
          have HR0 := (HSZ.out.setG #[.string ⟨#[]⟩, .int .i64 0, .string ⟨#[]⟩]).store true xz yz
          refine bodyPost_ret (res_ctc50 rfl rfl rfl rfl HR0.row (setRow_heap _ _ _ _ _ _ HVZ.out) rfl rfl) rfl ?_
          rw [HMT.out]
          exact FieldP.mk HSP.out (by omega) HR0 _ _ _ _ _ _ _
  · have hvd : Lib.validD u.2 = false := by have h := hb5; revert h; cases Lib.validD u.2 <;> decide
    have hq : (if Lib.validD u.2 = true then 2 else brk 2) = 4 := by rw [hvd]; rfl
    rw [hq] at hs5
    have HS5 := hid hs5
    obtain ⟨f, X, hmt, hsp⟩ := field_key_bad hm HU.out (.inl hvd)
    rw [HI1.out] at hsp
    have HMT := hid hmt
    have HSP := hid hsp
    clear hmt hsp
    clear hvd hq hb5
    have hg5 := HS5.out.row
    have g0 : w5.cell? ⟨G, 0, none⟩ = some (.string ⟨#[]⟩) := cell_of_row w5 G 0 _ _ _ hg5
    have g1 : w5.cell? ⟨G, 1, none⟩ = some (.int .i64 0) := cell_of_row w5 G 1 _ _ _ hg5
    have g2 : w5.cell? ⟨G, 2, none⟩ = some (.string ⟨#[]⟩) := cell_of_row w5 G 2 _ _ _ hg5
    have gf : ∀ o, w5.frozen? ⟨G, o, none⟩ = false := fun o => frozen_of_row w5 G o _ _ hg5
    clear hg5
    have hs5b := hs5.set0 (.string ⟨#[]⟩)
    obtain ⟨x0, y0, hrow⟩ := hs5b.sv.row
    have HROW := hid hrow
    obtain ⟨w6, hw6⟩ : ∃ w6, (w5.setCell ⟨G, 0, none⟩ (.string ⟨#[]⟩)).setRow V (F37 true x5 y5) = w6 := ⟨_, rfl⟩
    have hs6 := hs5b.store true x5 y5
    rw [hw6] at hs6
    have HS6 := hid hs6
    clear hrow hs5 hs5b hs6 HS5
    simp only [if_true]
    obtain ⟨x6, y6, hr6⟩ := HS6.out.sv.row
    have n0 : w6.cell? ⟨V, 0, none⟩ = some (.bool true) := cell_of_row w6 V 0 _ _ _ hr6
    have HROW6 := hid hr6
    clear hr6
    go_upto_region 7 with (refine wpList_store_row (o := ⟨none, .store 37 (.tmp 4) (.tmp 32), _, _, _, _⟩) rfl 37 _ _ rfl V (F37 true x5 y5) rfl rfl 37 _ HROW.out info37t rfl (by simp [F37, Value.oneCell']) ?_; rw [hw6])
    clear g0 g1 g2 gf
    refine end48_7 (G := G) (V := V)  (b := true) (x := x6) (y := y6) (fun _ _ _ _ _ h => h) rfl rfl rfl HS6.out.row rfl HROW6.out (fun e => HS6.out.gv e.symm) ?_
    intro A hA2 hA3 hA4 hAd
    have HR1 := (HS6.out.drew.setG #[.string ⟨#[]⟩, .int .i64 0, .string ⟨#[]⟩]).store true x6 y6
    have hz : ((w6.drew.setRow G #[.string ⟨#[]⟩, .int .i64 0, .string ⟨#[]⟩]).setRow V (F37 true x6 y6)).heap[V]? = some (.cells (F37 true x6 y6) 37 (0, 0)) := setRow_heap _ _ _ _ _ _ ((setRow_other _ _ _ _ (fun e => HS6.out.gv e.symm)).trans HROW6.out)
    change (_ : Act → World → Prop) _ _
    refine ‹∀ (a : Act) (w : World), Code.wp Tryz.prog _ _ a w → _› _ _ ?_
    refine wp_ret ?_
    change bodyPost Tryz.prog Tryz.f48 (FieldP R s w (mField m).1 (mField m).2.bad (mField m).2.got fr) .ret _ _
    refine bodyPost_ret (res_ctc50 rfl hA2 hA3 hA4 HR1.row hz rfl rfl) hAd ?_
    rw [HMT.out]
    exact FieldP.mk HSP.out (by omega) HR1 _ _ _ _ _ _ _
end Go.Proofs.YtejlokdcocacaaaGreatDoor
