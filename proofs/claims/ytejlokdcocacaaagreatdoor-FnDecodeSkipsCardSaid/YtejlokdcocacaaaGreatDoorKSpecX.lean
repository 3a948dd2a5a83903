/- The reference's Tag. Printed by gen_tag47.py. -/
import Derived.Test.YtejlokdcocacaaaGreatDoorKSpecT
import Derived.Test.YtejlokdcocacaaaGreatDoorKSpecM
import Derived.BigRegion
namespace Go.Proofs.YtejlokdcocacaaaGreatDoor
open Go.RowKit Go.Proofs.YtejlokdcocacaaaGreatDoorW.PrintLast

theorem tok_1 : ∀ (s2 : ByteArray) (_ : s2.size ≤ 1000) (w : World), Calls Tryz.prog 132 #[.int .i64 1, .string s2] w fun e w' => e = .returned (.tuple #[.string ⟨(tok tagKeyP tagE s2.data.toList).2.toArray⟩, .int .i64 ((tok tagKeyP tagE s2.data.toList).1 : Int)]) ∧ Below w.heap.size w w' :=
  fun s2 hs w => token_spec 1 2 escaped_1 setOf_1 in_2 (fun c hc => (tagE_ok c hc).1) s2 hs w
theorem tok_2 : ∀ (s2 : ByteArray) (_ : s2.size ≤ 1000) (w : World), Calls Tryz.prog 132 #[.int .i64 2, .string s2] w fun e w' => e = .returned (.tuple #[.string ⟨(tok tagValP tagE s2.data.toList).2.toArray⟩, .int .i64 ((tok tagValP tagE s2.data.toList).1 : Int)]) ∧ Below w.heap.size w w' :=
  fun s2 hs w => token_spec 2 6 escaped_2 setOf_2 in_6 (fun c hc => (tagE_ok c hc).1) s2 hs w

set_option maxHeartbeats 8000000 in
set_option maxRecDepth 100000 in
theorem tag_spec {w : World} {R : Nat} {s : ByteArray} {i fr : Nat} {m : MSt} (h : IsRd w R s i 1 fr) (hs : s.size ≤ 1000) (hfr : fr ≤ i) (hm : Sp s i 1 m) :
    Calls Tryz.prog 47 #[.pointer (some ⟨R, 0, none⟩)] w (TagP R s w (mTag m).1 (mTag m).2.bad (mTag m).2.got fr) := by
  have hi := hm.2.1
  have hSg := Sg.begin h 107 #[.string ⟨#[]⟩, .string ⟨#[]⟩]
  obtain ⟨w1, hw1⟩ : ∃ w1, (w.alloc (.cells #[.string ⟨#[]⟩, .string ⟨#[]⟩] 107)).alloc z37 = w1 := ⟨_, rfl⟩
  obtain ⟨G, hG⟩ : ∃ G, w.heap.size = G := ⟨_, rfl⟩
  obtain ⟨V, hV⟩ : ∃ V, G + 1 = V := ⟨_, rfl⟩
  rw [hw1, hG, hV] at hSg
  have HS1 := hid hSg
  have HSK := hid (skip_idle hSg.sv.rd 1 (by omega) (fun h => by omega) (fun h => by omega) (fun h => by omega))
  have hR1 := lt_of_block hSg.sv.rd
  clear h hSg
  go_enter Tryz.func47, Tryz.ntmps47
  go_upto_region 1 with fail
  change Code.wp _ _ _ _ ((w.alloc (.cells #[.string ⟨#[]⟩, .string ⟨#[]⟩] 107)).alloc z37)
  rw [hw1]
  clear hw1
  go_wp2_with fail
  refine HSK.out.mono ?_
  rintro e w2 ⟨⟨x, y, rfl⟩, hr2, hf2⟩
  have HS2 := hid (HS1.out.call hr2 hf2)
  obtain ⟨x0, y0, hrow⟩ := HS2.out.sv.row
  have HROW := hid hrow
  obtain ⟨w3, hw3⟩ : ∃ w3, w2.setRow V (F37 false x y) = w3 := ⟨_, rfl⟩
  have hs3 := HS2.out.store false x y
  have hrow3 : w3.heap[V]? = some (.cells (F37 false x y) 37 (0, 0)) := by rw [← hw3]; exact setRow_heap _ _ _ _ _ _ hrow
  rw [hw3] at hs3
  have HS3 := hid hs3
  have n0 : w3.cell? ⟨V, 0, none⟩ = some (.bool false) := cell_of_row w3 V 0 _ _ _ hrow3
  obtain ⟨c0, c1, c2, c3, fz⟩ := hs3.sv.rd.cells
  have HN := hid (next_spec hs3.sv.rd (fun x w => in_0 x w))
  clear HS1 HSK hr2 hf2 hrow hrow3 hs3 c0 c1 c3 HS2
  cases hb : nextIs blankP s i
  · rw [hb] at HN
    obtain ⟨u, hu⟩ : ∃ u, tok tagKeyP tagE (restOf s i) = u := ⟨_, rfl⟩
    have HNB := hid hb
    have HU := hid hu
    have hle : u.1 ≤ s.size - i := by rw [← hu, ← restOf_len]; exact (tok_le (f := tagKeyP) (g := tagE) _ _ (Nat.le_refl _)).1
    obtain ⟨i1, hi1⟩ : ∃ i1, i + u.1 = i1 := ⟨_, rfl⟩
    have HI1 := hid hi1
    have hi1b : i ≤ i1 := by omega
    have hi1c : i1 ≤ s.size := by omega
    clear hb hu
    go_wp2_with (refine wpList_store_row (o := ⟨none, .store 37 (.tmp 4) (.tmp 9), _, _, _, _⟩) rfl 37 _ _ rfl V (F37 false x y) rfl rfl 37 _ HROW.out info37t rfl (by simp [F37, Value.oneCell']) ?_; rw [hw3])
    refine HN.out.mono ?_
    rintro e w4 ⟨rfl, n, rfl⟩
    have HS4 := hid (HS3.out.drewN n)
    generalize w3.drewN n = w4 at HS4 ⊢
    have HTK := hid (token94 (f := tagKeyP) (g := tagE) 1 tok_1 HS4.out.sv.rd hs hi (by omega) hfr)
    clear HN HS3 n0 c2 fz hw3 HROW
    obtain ⟨c0, c1, c2, c3, fz⟩ := HS4.out.sv.rd.cells
    have hR4 := lt_of_block HS4.out.sv.rd
    clear c0 c2 c3 hi1
    go_wp2_with fail
    refine HTK.out.mono ?_
    rintro e w5 ⟨⟨b, x5, y5, rfl, hb5⟩, hr5, hf5⟩
    rw [HU.out] at hb5 hr5 ⊢
    rw [HI1.out] at hr5
    have HS5 := hid (HS4.out.call hr5 hf5)
    clear hr5 hf5 HTK HS4 c1 fz
    obtain ⟨x0, y0, hrow⟩ := HS5.out.sv.row
    have HROW := hid hrow
    obtain ⟨w6, hw6⟩ : ∃ w6, w5.setRow V (F37 b x5 y5) = w6 := ⟨_, rfl⟩
    have hs6 := HS5.out.store b x5 y5
    have hrow6 : w6.heap[V]? = some (.cells (F37 b x5 y5) 37 (0, 0)) := by rw [← hw6]; exact setRow_heap _ _ _ _ _ _ hrow
    rw [hw6] at hs6
    clear HS5 hrow
    cases b
    · have hvd : Lib.validD u.2 = true := by have h := hb5; revert h; cases Lib.validD u.2 <;> decide
      rw [if_pos hvd] at hs6
      have HS6 := hid hs6
      have HVD := hid hvd
      have n0 : w6.cell? ⟨V, 0, none⟩ = some (.bool false) := cell_of_row w6 V 0 _ _ _ hrow6
      clear hb5 hvd hs6 hrow6
      obtain ⟨c0, c1, c2, c3, fz⟩ := HS6.out.sv.rd.cells
      have hR6 := lt_of_block HS6.out.sv.rd
      clear c2 c3
      obtain ⟨l, hl⟩ : ∃ l, u.2 = l := ⟨_, rfl⟩
      rw [hl]
      have HL := hid hl
      clear hl
      simp only [Bool.false_eq_true, if_false]
      rcases l with _ | ⟨c, t⟩
      · obtain ⟨f, X, hmt, hsp⟩ := tag_key_bad hm HNB.out HU.out (.inr (.inl HL.out))
        rw [HI1.out] at hsp
        have HMT := hid hmt
        have HSP := hid hsp
        clear hmt hsp
        go_upto_region 12 with (refine wpList_store_row (o := ⟨none, .store 37 (.tmp 4) (.tmp 38), _, _, _, _⟩) rfl 37 _ _ rfl V (F37 false x5 y5) rfl rfl 37 _ HROW.out info37t rfl (by simp [F37, Value.oneCell']) ?_; rw [hw6])
        go_quiet (fail)
        go_wp2_with fail
        have HS7 := hid (HS6.out.drewN nq)
        generalize w6.drewN nq = w7 at HS7 ⊢
        clear HS6 c0 c1 fz n0 HROW hw6
        have hft := fault4 HS7.out.drew.sv.rd hs (by omega) i hi hfr
        refine region47_13 (G := G) (V := V) (R := R) (K := i) (k := ⟨#[]⟩) (v := ⟨#[]⟩) (RT := fun w' => Sg w R s i1 4 fr V false G 107 #[.string ⟨#[]⟩, .string ⟨#[]⟩] w') (fun _ _ _ _ _ h => h) rfl rfl rfl rfl rfl HS7.out.row (hft.mono fun e w' ⟨he, hr, hf⟩ => ⟨he, HS7.out.drew.call hr hf⟩) (fun w' h => h.row) (fun w' h => by obtain ⟨x, y, hx⟩ := h.sv.row; exact ⟨_, hx, rfl⟩) (fun e => HS7.out.gv e.symm) ?_
        intro wz xz yz hz
        have HR0 := (hz.setG #[.string ⟨#[]⟩, .string ⟨#[]⟩]).store true xz yz
        have hzv : ((wz.setRow G #[.string ⟨#[]⟩, .string ⟨#[]⟩]).setRow V (F37 true xz yz)).heap[V]? = some (.cells (F37 true xz yz) 37 (0, 0)) := by
          obtain ⟨x, y, hx⟩ := hz.sv.row
          exact setRow_heap _ _ _ _ _ _ ((setRow_other _ _ _ _ (fun e => hz.gv e.symm)).trans hx)
        simp only [putAll, Act.put, List.setIfInBounds_toArray, List.set_cons_zero, List.set_cons_succ]
        clear hft
        go_wp2_with fail
        refine bodyPost_ret (res_ctc107 rfl rfl rfl rfl HR0.row hzv rfl rfl) rfl ?_
        rw [HMT.out]
        exact TagP.mk HSP.out (by omega) HR0 _ _ _ _ _ _
      · by_cases hd : s.size ≤ i1
        · obtain ⟨f, X, hmt, hsp⟩ := tag_key_bad hm HNB.out HU.out (.inr (.inr (.inl (by rw [HI1.out]; exact hd))))
          rw [HI1.out] at hsp
          have HMT := hid hmt
          have HSP := hid hsp
          have HD := hid (fun n => done_spec (HS6.out.sv.rd.drewN n) (by omega) hi1c)
          rw [decide_eq_true hd] at HD
          clear hmt hsp hd
          go_upto_region 12 with (refine wpList_store_row (o := ⟨none, .store 37 (.tmp 4) (.tmp 38), _, _, _, _⟩) rfl 37 _ _ rfl V (F37 false x5 y5) rfl rfl 37 _ HROW.out info37t rfl (by simp [F37, Value.oneCell']) ?_; rw [hw6])
          go_quiet ((go_at_call 45; exact Calls.quiet_of (HD.out _)))
          go_wp2_with fail
          have HS7 := hid (HS6.out.drewN nq)
          generalize w6.drewN nq = w7 at HS7 ⊢
          clear HS6 c0 c1 fz n0 HROW hw6 HD
          have hft := fault4 HS7.out.drew.sv.rd hs (by omega) i hi hfr
          refine region47_13 (G := G) (V := V) (R := R) (K := i) (k := ⟨#[]⟩) (v := ⟨#[]⟩) (RT := fun w' => Sg w R s i1 4 fr V false G 107 #[.string ⟨#[]⟩, .string ⟨#[]⟩] w') (fun _ _ _ _ _ h => h) rfl rfl rfl rfl rfl HS7.out.row (hft.mono fun e w' ⟨he, hr, hf⟩ => ⟨he, HS7.out.drew.call hr hf⟩) (fun w' h => h.row) (fun w' h => by obtain ⟨x, y, hx⟩ := h.sv.row; exact ⟨_, hx, rfl⟩) (fun e => HS7.out.gv e.symm) ?_
          intro wz xz yz hz
          have HR0 := (hz.setG #[.string ⟨#[]⟩, .string ⟨#[]⟩]).store true xz yz
          have hzv : ((wz.setRow G #[.string ⟨#[]⟩, .string ⟨#[]⟩]).setRow V (F37 true xz yz)).heap[V]? = some (.cells (F37 true xz yz) 37 (0, 0)) := by
            obtain ⟨x, y, hx⟩ := hz.sv.row
            exact setRow_heap _ _ _ _ _ _ ((setRow_other _ _ _ _ (fun e => hz.gv e.symm)).trans hx)
          simp only [putAll, Act.put, List.setIfInBounds_toArray, List.set_cons_zero, List.set_cons_succ]
          clear hft
          go_wp2_with fail
          refine bodyPost_ret (res_ctc107 rfl rfl rfl rfl HR0.row hzv rfl rfl) rfl ?_
          rw [HMT.out]
          exact TagP.mk HSP.out (by omega) HR0 _ _ _ _ _ _
        · have hd1 : (i1 : Int) < (s.size : Int) := by omega
          have hd3 : i1 < s.size := by omega
          have HD := hid (fun n => done_spec (HS6.out.sv.rd.drewN n) (by omega) hi1c)
          rw [decide_eq_false hd] at HD
          clear hd
          by_cases h61 : s[i1] = 61
          · have e61 : ((s[i1].toNat : Int) != 61) = false := by rw [h61]; rfl
            have H61 := hid h61
            clear h61
            go_upto_region 12 with (refine wpList_store_row (o := ⟨none, .store 37 (.tmp 4) (.tmp 38), _, _, _, _⟩) rfl 37 _ _ rfl V (F37 false x5 y5) rfl rfl 37 _ HROW.out info37t rfl (by simp [F37, Value.oneCell']) ?_; rw [hw6])
            go_quiet ((go_at_call 45; exact Calls.quiet_of (HD.out _)))
            have hs7 := HS6.out.drewN nq
            generalize w6.drewN nq = w7 at hs7 ⊢
            have HS7 := hid hs7
            clear HS6 c0 c1 fz n0 HROW hw6 HD hs7 e61
            obtain ⟨c0, c1, c2, c3, fz⟩ := HS7.out.sv.rd.cells
            have hR7 := lt_of_block HS7.out.sv.rd
            have hs8 := HS7.out.place (i1 + 1)
            have hi1d : (i1 : Int) + 1 ≤ 1000 := by omega
            clear c0 c2 c3
            go_upto_region 15 with fail
            obtain ⟨w8, hw8⟩ : ∃ w8, w7.setCell ⟨R, 1, none⟩ (.int .i64 ((i1 + 1 : Nat) : Int)) = w8 := ⟨_, rfl⟩
            change Code.wp _ _ _ _ (w7.setCell ⟨R, 1, none⟩ (.int .i64 ((i1 + 1 : Nat) : Int)))
            rw [hw8] at hs8 ⊢
            have HS8 := hid hs8
            clear hw8 hs8 HS7 c1 fz
            obtain ⟨i2, hi2⟩ : ∃ i2, i1 + 1 = i2 := ⟨_, rfl⟩
            rw [hi2] at HS8
            have HI2 := hid hi2
            have hi2b : i2 ≤ s.size := by omega
            have hi2c : fr ≤ i2 := by omega
            obtain ⟨v, hv⟩ : ∃ v, tok tagValP tagE (restOf s i2) = v := ⟨_, rfl⟩
            have HW := hid hv
            have hle2 : v.1 ≤ s.size - i2 := by rw [← hv, ← restOf_len]; exact (tok_le (f := tagValP) (g := tagE) _ _ (Nat.le_refl _)).1
            obtain ⟨i3, hi3⟩ : ∃ i3, i2 + v.1 = i3 := ⟨_, rfl⟩
            have HI3 := hid hi3
            have hi3b : i2 ≤ i3 := by omega
            have hi3c : i3 ≤ s.size := by omega
            have hg2 : u.2 ≠ [] := by rw [HL.out]; simp
            have HG2 := hid hg2
            have hv2 : tok tagValP tagE (restOf s (i + u.1 + 1)) = v := by rw [HI1.out, HI2.out]; exact hv
            have HV2 := hid hv2
            have hg3 : i + u.1 < s.size := by rw [HI1.out]; exact hd3
            have HG3 := hid hg3
            have hg4 : s[i + u.1]'hg3 = 61 := by
              have h := H61.out
              have e := HI1.out
              subst e
              exact h
            have HG4 := hid hg4
            have HTK := hid (token94 (f := tagValP) (g := tagE) 2 tok_2 HS8.out.sv.rd hs hi2b (by omega) hi2c)
            obtain ⟨c0, c1, c2, c3, fz⟩ := HS8.out.sv.rd.cells
            have hR8 := lt_of_block HS8.out.sv.rd
            clear c0 c2 c3 hi2 hv hi3 hg2 hv2 hg4 hi1d
            go_wp2_with fail
            refine HTK.out.mono ?_
            rintro e w9 ⟨⟨b, x9, y9, rfl, hb9⟩, hr9, hf9⟩
            rw [HW.out] at hb9 hr9 ⊢
            rw [HI3.out] at hr9
            have HS9 := hid (HS8.out.call hr9 hf9)
            clear hr9 hf9 HTK HS8 c1 fz
            obtain ⟨x0, y0, hrow⟩ := HS9.out.sv.row
            have HROW := hid hrow
            obtain ⟨w10, hw10⟩ : ∃ w10, w9.setRow V (F37 b x9 y9) = w10 := ⟨_, rfl⟩
            have hs10 := HS9.out.store b x9 y9
            have hrow10 : w10.heap[V]? = some (.cells (F37 b x9 y9) 37 (0, 0)) := by rw [← hw10]; exact setRow_heap _ _ _ _ _ _ hrow
            rw [hw10] at hs10
            clear HS9 hrow
            cases b
            · have hvd : Lib.validD v.2 = true := by have h := hb9; revert h; cases Lib.validD v.2 <;> decide
              rw [if_pos hvd] at hs10
              have HS10 := hid hs10
              have HVD2 := hid hvd
              have n0 : w10.cell? ⟨V, 0, none⟩ = some (.bool false) := cell_of_row w10 V 0 _ _ _ hrow10
              clear hb9 hvd hs10 hrow10
              obtain ⟨l2, hl⟩ : ∃ l, v.2 = l := ⟨_, rfl⟩
              rw [hl]
              have HL2 := hid hl
              clear hl
              simp only [Bool.false_eq_true, if_false]
              rcases l2 with _ | ⟨c', t'⟩
              · obtain ⟨f, X, hmt, hsp⟩ := tag_val_bad hm HNB.out HU.out HVD.out HG2.out hg3 HG4.out HV2.out (.inr HL2.out)
                rw [HI1.out, HI2.out, HI3.out] at hsp
                have HMT := hid hmt
                have HSP := hid hsp
                clear hmt hsp
                go_wp2_with (refine wpList_store_row (o := ⟨none, .store 37 (.tmp 4) (.tmp 80), _, _, _, _⟩) rfl 37 _ _ rfl V (F37 false x9 y9) rfl rfl 37 _ HROW.out info37t rfl (by simp [F37, Value.oneCell']) ?_; rw [hw10])
                clear n0 HROW hw10
                have hft := fault4 HS10.out.drew.sv.rd hs (by omega) i2 hi2b hi2c
                refine region47_20 (G := G) (V := V) (R := R) (K := i2) (k := ⟨#[]⟩) (v := ⟨#[]⟩) (RT := fun w' => Sg w R s i3 4 fr V false G 107 #[.string ⟨#[]⟩, .string ⟨#[]⟩] w') (fun _ _ _ _ _ h => h) rfl rfl rfl rfl rfl HS10.out.row (hft.mono fun e w' ⟨he, hr, hf⟩ => ⟨he, HS10.out.drew.call hr hf⟩) (fun w' h => h.row) (fun w' h => by obtain ⟨x, y, hx⟩ := h.sv.row; exact ⟨_, hx, rfl⟩) (fun e => HS10.out.gv e.symm) ?_
                intro wz xz yz hz
                have HR0 := (hz.setG #[.string ⟨#[]⟩, .string ⟨#[]⟩]).store true xz yz
                have hzv : ((wz.setRow G #[.string ⟨#[]⟩, .string ⟨#[]⟩]).setRow V (F37 true xz yz)).heap[V]? = some (.cells (F37 true xz yz) 37 (0, 0)) := by
                  obtain ⟨x, y, hx⟩ := hz.sv.row
                  exact setRow_heap _ _ _ _ _ _ ((setRow_other _ _ _ _ (fun e => hz.gv e.symm)).trans hx)
                simp only [putAll, Act.put, List.setIfInBounds_toArray, List.set_cons_zero, List.set_cons_succ]
                clear hft
                go_wp2_with fail
                refine bodyPost_ret (res_ctc107 rfl rfl rfl rfl HR0.row hzv rfl rfl) rfl ?_
                rw [HMT.out]
                exact TagP.mk HSP.out (by omega) HR0 _ _ _ _ _ _
              · obtain ⟨d, hspd, hdone, hmore⟩ := tag_ok hm HNB.out HU.out HVD.out HG2.out hg3 HG4.out HV2.out HVD2.out (by rw [HL2.out]; simp)
                rw [HI1.out, HI2.out, HI3.out] at hspd hdone hmore
                have HD := hid (done_spec HS10.out.sv.rd (by omega) hi3c)
                by_cases hd : s.size ≤ i3
                · rw [decide_eq_true hd] at HD
                  have HMT := hid (hdone hd)
                  have HSP := hid (hspd.to 2)
                  clear hdone hmore hspd hd
                  go_wp2_with (refine wpList_store_row (o := ⟨none, .store 37 (.tmp 4) (.tmp 80), _, _, _, _⟩) rfl 37 _ _ rfl V (F37 false x9 y9) rfl rfl 37 _ HROW.out info37t rfl (by simp [F37, Value.oneCell']) ?_; rw [hw10])
                  refine HD.out.mono ?_
                  rintro e w11 ⟨rfl, n, rfl⟩
                  have HS11 := hid (HS10.out.drewN n)
                  generalize w10.drewN n = w11 at HS11 ⊢
                  clear HD HS10 n0 HROW hw10
                  obtain ⟨c0, c1, c2, c3, fz⟩ := HS11.out.sv.rd.cells
                  have hR11 := lt_of_block HS11.out.sv.rd
                  have hs12 := HS11.out.part 2
                  clear c0 c1 c3
                  go_upto_region 26 with fail
                  obtain ⟨w12, hw12⟩ : ∃ w12, w11.setCell ⟨R, 2, none⟩ (.int .i64 ((2 : Nat) : Int)) = w12 := ⟨_, rfl⟩
                  change Code.wp _ _ _ _ (w11.setCell ⟨R, 2, none⟩ (.int .i64 ((2 : Nat) : Int)))
                  rw [hw12] at hs12 ⊢
                  have HS12 := hid hs12
                  obtain ⟨x12, y12, hr12⟩ := HS12.out.sv.row
                  have n0 : w12.cell? ⟨V, 0, none⟩ = some (.bool false) := cell_of_row w12 V 0 _ _ _ hr12
                  have HROW12 := hid hr12
                  clear hr12
                  clear hw12 hs12 c2 fz HS11
                  refine region47_26 (G := G) (V := V) (u0 := ⟨(c :: t).toArray⟩) (u1 := ⟨(c' :: t').toArray⟩) (b := false) (x := x12) (y := y12) (fun _ _ _ _ _ h => h) rfl rfl rfl rfl rfl HS12.out.row rfl HROW12.out (fun e => HS12.out.gv e.symm) ?_
                  have HR1 := (HS12.out.drew.setG #[.string ⟨(c :: t).toArray⟩, .string ⟨(c' :: t').toArray⟩]).store false x12 y12
                  have hz : ((w12.drew.setRow G #[.string ⟨(c :: t).toArray⟩, .string ⟨(c' :: t').toArray⟩]).setRow V (F37 false x12 y12)).heap[V]? = some (.cells (F37 false x12 y12) 37 (0, 0)) := setRow_heap _ _ _ _ _ _ ((setRow_other _ _ _ _ (fun e => HS12.out.gv e.symm)).trans HROW12.out)
                  simp only [putAll, Act.put, List.setIfInBounds_toArray, List.set_cons_zero, List.set_cons_succ]
                  go_wp2_with fail
                  refine bodyPost_ret (res_ctc107 rfl rfl rfl rfl HR1.row hz rfl rfl) rfl ?_
                  rw [HMT.out]
                  exact TagP.mk HSP.out (by omega) HR1 _ _ _ _ _ _
                · rw [decide_eq_false hd] at HD
                  have HMM := hid (hmore (by omega))
                  have hbh := fun n => behind_any (w := w10.drewN n) (HS10.out.sv.rd.drewN n) hs (by omega) (show fr ≤ i3 by omega) hspd
                  obtain ⟨b2, hb2⟩ : ∃ b2, (mComma d).2.isSome = b2 := ⟨_, rfl⟩
                  rw [hb2] at hbh
                  have HB2 := hid hb2
                  have HBH := hid hbh
                  clear hdone hmore hspd hd hbh hb2
                  go_wp2_with (refine wpList_store_row (o := ⟨none, .store 37 (.tmp 4) (.tmp 80), _, _, _, _⟩) rfl 37 _ _ rfl V (F37 false x9 y9) rfl rfl 37 _ HROW.out info37t rfl (by simp [F37, Value.oneCell']) ?_; rw [hw10])
                  refine HD.out.mono ?_
                  rintro e w11 ⟨rfl, n, rfl⟩
                  have HS11 := hid (HS10.out.drewN n)
                  have HBH2 := hid (HBH.out n)
                  generalize w10.drewN n = w11 at HS11 HBH2 ⊢
                  clear HD HS10 n0 HROW hw10 HBH
                  go_wp2_with fail
                  refine HBH2.out.mono ?_
                  rintro e w12 ⟨i', x12, y12, rfl, hsp, hfr', hrd, hfm⟩
                  have HSP := hid hsp
                  have HS12 := hid (HS11.out.call hrd hfm)
                  clear hsp hrd hfm HBH2 HS11
                  obtain ⟨x0, y0, hrow⟩ := HS12.out.sv.row
                  have HROW := hid hrow
                  obtain ⟨w13, hw13⟩ : ∃ w13, w12.setRow V (F37 b2 x12 y12) = w13 := ⟨_, rfl⟩
                  have hs13 := HS12.out.store b2 x12 y12
                  rw [hw13] at hs13
                  have HS13 := hid hs13
                  clear HS12 hrow hs13
                  cases b2
                  · obtain ⟨x13, y13, hr13⟩ := HS13.out.sv.row
                    have n0 : w13.cell? ⟨V, 0, none⟩ = some (.bool false) := cell_of_row w13 V 0 _ _ _ hr13
                    have HROW13 := hid hr13
                    clear hr13
                    go_upto_region 26 with (refine wpList_store_row (o := ⟨none, .store 37 (.tmp 4) (.tmp 97), _, _, _, _⟩) rfl 37 _ _ rfl V (F37 false x12 y12) rfl rfl 37 _ HROW.out info37t rfl (by simp [F37, Value.oneCell']) ?_; rw [hw13])
                    refine region47_26 (G := G) (V := V) (u0 := ⟨(c :: t).toArray⟩) (u1 := ⟨(c' :: t').toArray⟩) (b := false) (x := x13) (y := y13) (fun _ _ _ _ _ h => h) rfl rfl rfl rfl rfl HS13.out.row rfl HROW13.out (fun e => HS13.out.gv e.symm) ?_
                    have HR1 := (HS13.out.drew.setG #[.string ⟨(c :: t).toArray⟩, .string ⟨(c' :: t').toArray⟩]).store false x13 y13
                    have hz : ((w13.drew.setRow G #[.string ⟨(c :: t).toArray⟩, .string ⟨(c' :: t').toArray⟩]).setRow V (F37 false x13 y13)).heap[V]? = some (.cells (F37 false x13 y13) 37 (0, 0)) := setRow_heap _ _ _ _ _ _ ((setRow_other _ _ _ _ (fun e => HS13.out.gv e.symm)).trans HROW13.out)
                    simp only [putAll, Act.put, List.setIfInBounds_toArray, List.set_cons_zero, List.set_cons_succ]
                    go_wp2_with fail
                    refine bodyPost_ret (res_ctc107 rfl rfl rfl rfl HR1.row hz rfl rfl) rfl ?_
                    rw [HMM.out.1, HMM.out.2.1, HMM.out.2.2, HB2.out]
                    exact TagP.mk HSP.out (by omega) HR1 _ _ _ _ _ _
                  · obtain ⟨x13, y13, hr13⟩ := HS13.out.sv.row
                    have n0 : w13.cell? ⟨V, 0, none⟩ = some (.bool true) := cell_of_row w13 V 0 _ _ _ hr13
                    have HROW13 := hid hr13
                    clear hr13
                    go_upto_region 25 with (refine wpList_store_row (o := ⟨none, .store 37 (.tmp 4) (.tmp 97), _, _, _, _⟩) rfl 37 _ _ rfl V (F37 true x12 y12) rfl rfl 37 _ HROW.out info37t rfl (by simp [F37, Value.oneCell']) ?_; rw [hw13])
                    refine region47_25 (G := G) (V := V) (cs := #[.string ⟨#[]⟩, .string ⟨#[]⟩]) (b := true) (x := x13) (y := y13) (fun _ _ _ _ _ h => h) rfl rfl rfl HS13.out.row rfl (by simp [Value.oneCell']) HROW13.out (fun e => HS13.out.gv e.symm) ?_
                    have HR1 := (HS13.out.drew.setG #[.string ⟨#[]⟩, .string ⟨#[]⟩]).store true x13 y13
                    have hz : ((w13.drew.setRow G #[.string ⟨#[]⟩, .string ⟨#[]⟩]).setRow V (F37 true x13 y13)).heap[V]? = some (.cells (F37 true x13 y13) 37 (0, 0)) := setRow_heap _ _ _ _ _ _ ((setRow_other _ _ _ _ (fun e => HS13.out.gv e.symm)).trans HROW13.out)
                    simp only [putAll, Act.put, List.setIfInBounds_toArray, List.set_cons_zero, List.set_cons_succ]
                    go_wp2_with fail
                    refine bodyPost_ret (res_ctc107 rfl rfl rfl rfl HR1.row hz rfl rfl) rfl ?_
                    rw [HMM.out.1, HMM.out.2.1, HMM.out.2.2, HB2.out]
                    exact TagP.mk HSP.out (by omega) HR1 _ _ _ _ _ _
            · have hvd : Lib.validD v.2 = false := by have h := hb9; revert h; cases Lib.validD v.2 <;> decide
              have hq : (if Lib.validD v.2 = true then 1 else brk 1) = 4 := by rw [hvd]; rfl
              rw [hq] at hs10
              have HS10 := hid hs10
              obtain ⟨f, X, hmt, hsp⟩ := tag_val_bad hm HNB.out HU.out HVD.out HG2.out hg3 HG4.out HV2.out (.inl hvd)
              rw [HI1.out, HI2.out, HI3.out] at hsp
              have HMT := hid hmt
              have HSP := hid hsp
              clear hmt hsp hvd hq hb9 hs10 hrow10
              obtain ⟨x10, y10, hr10⟩ := HS10.out.sv.row
              have n0 : w10.cell? ⟨V, 0, none⟩ = some (.bool true) := cell_of_row w10 V 0 _ _ _ hr10
              have HROW10 := hid hr10
              clear hr10
              go_upto_region 18 with (refine wpList_store_row (o := ⟨none, .store 37 (.tmp 4) (.tmp 80), _, _, _, _⟩) rfl 37 _ _ rfl V (F37 true x9 y9) rfl rfl 37 _ HROW.out info37t rfl (by simp [F37, Value.oneCell']) ?_; rw [hw10])
              refine region47_18 (G := G) (V := V) (cs := #[.string ⟨#[]⟩, .string ⟨#[]⟩]) (b := true) (x := x10) (y := y10) (fun _ _ _ _ _ h => h) rfl rfl rfl HS10.out.row rfl (by simp [Value.oneCell']) HROW10.out (fun e => HS10.out.gv e.symm) ?_
              have HR1 := (HS10.out.drew.setG #[.string ⟨#[]⟩, .string ⟨#[]⟩]).store true x10 y10
              have hz : ((w10.drew.setRow G #[.string ⟨#[]⟩, .string ⟨#[]⟩]).setRow V (F37 true x10 y10)).heap[V]? = some (.cells (F37 true x10 y10) 37 (0, 0)) := setRow_heap _ _ _ _ _ _ ((setRow_other _ _ _ _ (fun e => HS10.out.gv e.symm)).trans HROW10.out)
              simp only [putAll, Act.put, List.setIfInBounds_toArray, List.set_cons_zero, List.set_cons_succ]
              go_wp2_with fail
              refine bodyPost_ret (res_ctc107 rfl rfl rfl rfl HR1.row hz rfl rfl) rfl ?_
              rw [HMT.out]
              exact TagP.mk HSP.out (by omega) HR1 _ _ _ _ _ _
          · have e61 : ((s[i1].toNat : Int) != 61) = true := by rw [bne_iff_ne]; intro h; exact h61 (UInt8.toNat.inj (by show s[i1].toNat = 61; omega))
            obtain ⟨f, X, hmt, hsp⟩ := tag_key_bad hm HNB.out HU.out (.inr (.inr (.inr (by rw [HI1.out]; exact ⟨hd3, h61⟩))))
            rw [HI1.out] at hsp
            have HMT := hid hmt
            have HSP := hid hsp
            clear hmt hsp h61
            go_upto_region 12 with (refine wpList_store_row (o := ⟨none, .store 37 (.tmp 4) (.tmp 38), _, _, _, _⟩) rfl 37 _ _ rfl V (F37 false x5 y5) rfl rfl 37 _ HROW.out info37t rfl (by simp [F37, Value.oneCell']) ?_; rw [hw6])
            go_quiet ((go_at_call 45; exact Calls.quiet_of (HD.out _)))
            go_wp2_with fail
            have HS7 := hid (HS6.out.drewN nq)
            generalize w6.drewN nq = w7 at HS7 ⊢
            clear HS6 c0 c1 fz n0 HROW hw6 HD e61
            have hft := fault4 HS7.out.drew.sv.rd hs (by omega) i hi hfr
            refine region47_13 (G := G) (V := V) (R := R) (K := i) (k := ⟨#[]⟩) (v := ⟨#[]⟩) (RT := fun w' => Sg w R s i1 4 fr V false G 107 #[.string ⟨#[]⟩, .string ⟨#[]⟩] w') (fun _ _ _ _ _ h => h) rfl rfl rfl rfl rfl HS7.out.row (hft.mono fun e w' ⟨he, hr, hf⟩ => ⟨he, HS7.out.drew.call hr hf⟩) (fun w' h => h.row) (fun w' h => by obtain ⟨x, y, hx⟩ := h.sv.row; exact ⟨_, hx, rfl⟩) (fun e => HS7.out.gv e.symm) ?_
            intro wz xz yz hz
            have HR0 := (hz.setG #[.string ⟨#[]⟩, .string ⟨#[]⟩]).store true xz yz
            have hzv : ((wz.setRow G #[.string ⟨#[]⟩, .string ⟨#[]⟩]).setRow V (F37 true xz yz)).heap[V]? = some (.cells (F37 true xz yz) 37 (0, 0)) := by
              obtain ⟨x, y, hx⟩ := hz.sv.row
              exact setRow_heap _ _ _ _ _ _ ((setRow_other _ _ _ _ (fun e => hz.gv e.symm)).trans hx)
            simp only [putAll, Act.put, List.setIfInBounds_toArray, List.set_cons_zero, List.set_cons_succ]
            clear hft
            go_wp2_with fail
            refine bodyPost_ret (res_ctc107 rfl rfl rfl rfl HR0.row hzv rfl rfl) rfl ?_
            rw [HMT.out]
            exact TagP.mk HSP.out (by omega) HR0 _ _ _ _ _ _
    · have hvd : Lib.validD u.2 = false := by have h := hb5; revert h; cases Lib.validD u.2 <;> decide
      have hq : (if Lib.validD u.2 = true then 1 else brk 1) = 4 := by rw [hvd]; rfl
      rw [hq] at hs6
      have HS6 := hid hs6
      obtain ⟨f, X, hmt, hsp⟩ := tag_key_bad hm HNB.out HU.out (.inl hvd)
      rw [HI1.out] at hsp
      have HMT := hid hmt
      have HSP := hid hsp
      clear hmt hsp hvd hq hb5 hs6 hrow6
      obtain ⟨x6, y6, hr6⟩ := HS6.out.sv.row
      have n0 : w6.cell? ⟨V, 0, none⟩ = some (.bool true) := cell_of_row w6 V 0 _ _ _ hr6
      have HROW6 := hid hr6
      clear hr6
      go_upto_region 11 with (refine wpList_store_row (o := ⟨none, .store 37 (.tmp 4) (.tmp 38), _, _, _, _⟩) rfl 37 _ _ rfl V (F37 true x5 y5) rfl rfl 37 _ HROW.out info37t rfl (by simp [F37, Value.oneCell']) ?_; rw [hw6])
      refine region47_11 (G := G) (V := V) (cs := #[.string ⟨#[]⟩, .string ⟨#[]⟩]) (b := true) (x := x6) (y := y6) (fun _ _ _ _ _ h => h) rfl rfl rfl HS6.out.row rfl (by simp [Value.oneCell']) HROW6.out (fun e => HS6.out.gv e.symm) ?_
      have HR1 := (HS6.out.drew.setG #[.string ⟨#[]⟩, .string ⟨#[]⟩]).store true x6 y6
      have hz : ((w6.drew.setRow G #[.string ⟨#[]⟩, .string ⟨#[]⟩]).setRow V (F37 true x6 y6)).heap[V]? = some (.cells (F37 true x6 y6) 37 (0, 0)) := setRow_heap _ _ _ _ _ _ ((setRow_other _ _ _ _ (fun e => HS6.out.gv e.symm)).trans HROW6.out)
      simp only [putAll, Act.put, List.setIfInBounds_toArray, List.set_cons_zero, List.set_cons_succ]
      go_wp2_with fail
      refine bodyPost_ret (res_ctc107 rfl rfl rfl rfl HR1.row hz rfl rfl) rfl ?_
      rw [HMT.out]
      exact TagP.mk HSP.out (by omega) HR1 _ _ _ _ _ _
  · rw [hb] at HN
    obtain ⟨hmt, hsp⟩ := tag_blank hm hb
    have HMT := hid hmt
    have HSP := hid hsp
    clear hmt hsp hb
    go_wp2_with (refine wpList_store_row (o := ⟨none, .store 37 (.tmp 4) (.tmp 9), _, _, _, _⟩) rfl 37 _ _ rfl V (F37 false x y) rfl rfl 37 _ HROW.out info37t rfl (by simp [F37, Value.oneCell']) ?_; rw [hw3])
    refine HN.out.mono ?_
    rintro e w4 ⟨rfl, n, rfl⟩
    have HS4 := hid (HS3.out.drewN n)
    generalize w3.drewN n = w4 at HS4 ⊢
    have HRUN := hid (run_spec (f := blankP) (j := 0) HS4.out.sv.rd hs hi in_0)
    clear HN HS3 n0 c2 fz hw3 HROW
    go_wp2_with fail
    refine HRUN.out.mono ?_
    rintro e w5 ⟨rfl, hr5, hf5⟩
    have HS5 := hid (HS4.out.call hr5 hf5)
    obtain ⟨c0, c1, c2, c3, fz⟩ := HS5.out.sv.rd.cells
    have hR5 := lt_of_block HS5.out.sv.rd
    have hs6 := HS5.out.part 2
    clear hr5 hf5 HRUN HS4 c0 c1 c3
    go_upto_region 7 with fail
    obtain ⟨w6, hw6⟩ : ∃ w6, w5.setCell ⟨R, 2, none⟩ (.int .i64 ((2 : Nat) : Int)) = w6 := ⟨_, rfl⟩
    change Code.wp _ _ _ _ (w5.setCell ⟨R, 2, none⟩ (.int .i64 ((2 : Nat) : Int)))
    rw [hw6] at hs6 ⊢
    have HS6 := hid hs6
    obtain ⟨x6, y6, hr6⟩ := HS6.out.sv.row
    have n0 : w6.cell? ⟨V, 0, none⟩ = some (.bool false) := cell_of_row w6 V 0 _ _ _ hr6
    have HROW6 := hid hr6
    clear hr6
    clear hw6 hs6 c2 fz HS5
    refine region47_7 (G := G) (V := V) (cs := #[.string ⟨#[]⟩, .string ⟨#[]⟩]) (b := false) (x := x6) (y := y6) (fun _ _ _ _ _ h => h) rfl rfl rfl HS6.out.row rfl (by simp [Value.oneCell']) HROW6.out (fun e => HS6.out.gv e.symm) ?_
    have HR1 := (HS6.out.drew.setG #[.string ⟨#[]⟩, .string ⟨#[]⟩]).store false x6 y6
    have hz : ((w6.drew.setRow G #[.string ⟨#[]⟩, .string ⟨#[]⟩]).setRow V (F37 false x6 y6)).heap[V]? = some (.cells (F37 false x6 y6) 37 (0, 0)) := setRow_heap _ _ _ _ _ _ ((setRow_other _ _ _ _ (fun e => HS6.out.gv e.symm)).trans HROW6.out)
    simp only [putAll, Act.put, List.setIfInBounds_toArray, List.set_cons_zero, List.set_cons_succ]
    go_wp2_with fail
    refine bodyPost_ret (res_ctc107 rfl rfl rfl rfl HR1.row hz rfl rfl) rfl ?_
    rw [HMT.out]
    exact TagP.mk HSP.out (by omega) HR1 _ _ _ _ _ _
end Go.Proofs.YtejlokdcocacaaaGreatDoor
