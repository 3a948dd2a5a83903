/- The reference's Field: the kinds of value. Printed by gen_f48b.py. -/
import Derived.Test.YtejlokdcocacaaaGreatDoorKSpecY1
namespace Go.Proofs.YtejlokdcocacaaaGreatDoor
open Go.RowKit Go.Proofs.YtejlokdcocacaaaGreatDoorW.PrintLast

/-- Where the kinds of value meet. -/
structure Val48 (w : World) (R : Nat) (s : ByteArray) (fr V G : Nat) (key : ByteArray) (m : MSt) (a : Act) (wx : World) : Prop where
  frm : Fr48 R G V a
  on : ∃ (j : Nat) (kd : Int) (raw : ByteArray) (d : MSt), Hid (Sg w R s j 2 fr V false G 50 #[.string key, .int .i64 kd, .string raw] wx) ∧ Hid (Sp s j 2 d) ∧ Hid (OnF m d) ∧ fr ≤ j

set_option maxHeartbeats 100000000 in
set_option maxRecDepth 100000 in
theorem field_sw_str {w w8 : World} {R : Nat} {s : ByteArray} {i2 fr V G : Nat} {c : UInt8} {t : List UInt8} {m mc : MSt} (hs : s.size ≤ 1000) (hl2 : i2 < s.size) (hi2c : fr ≤ i2) (hl3 : (i2 : Int) < (s.size : Int))
    (HS8 : Hid (Sg w R s i2 2 fr V false G 50 #[.string ⟨(c :: t).toArray⟩, .int .i64 0, .string ⟨#[]⟩] w8)) (HC : Hid (Sp s i2 2 mc)) (HA : Hid (mc.at0 = s[i2]))
    (HON1 : Hid (∀ d f, mVal mc = (d, .inl f) → mField m = (d, .err f))) (HON2 : Hid (∀ d x, mVal mc = (d, .inr x) → OnF m d)) (h34x : Hid (s[i2] = 34))
    {K : Act → World → Prop} (hK : ∀ a' w', Val48 w R s fr V G ⟨(c :: t).toArray⟩ m a' w' → K a' w') {a : Act} (ha : Fr48 R G V a) :
    sw48.wp Tryz.prog (Exit.then (swb48.wp Tryz.prog (Exit.then K (bodyPost Tryz.prog Tryz.f48 (FieldP R s w (mField m).1 (mField m).2.bad (mField m).2.got fr)))) (Exit.then K (bodyPost Tryz.prog Tryz.f48 (FieldP R s w (mField m).1 (mField m).2.bad (mField m).2.got fr)))) a w8 := by
  refine Fr48.elim (P := fun a => sw48.wp Tryz.prog _ a w8) ?_ ha
  intros
  refine unseq fun K1 hK1 => ?_
  conv at hK1 => enter [a, w, 1, 2]; whnf
  conv => enter [2]; whnf
  obtain ⟨c0, c1, c2, c3, fz⟩ := HS8.out.sv.rd.cells
  have hR8 := lt_of_block HS8.out.sv.rd
  clear c2 c3 ha
  go_quiet (fail)
  clear c0 c1 fz hR8
  have HS9 := hid (HS8.out.drewN nq)
  generalize w8.drewN nq = w9 at HS9 ⊢
  clear HS8
  have h34 := h34x.out
  clear h34x
  have e34 : ((s[i2].toNat : Int) == 34) = true := by rw [h34]; rfl
  obtain ⟨v, hv⟩ : ∃ v, tok strValP strE (restOf s (i2 + 1)) = v := ⟨_, rfl⟩
  have HW := hid hv
  have hle2 : v.1 ≤ s.size - (i2 + 1) := by rw [← hv, ← restOf_len]; exact (tok_le (f := strValP) (g := strE) _ _ (Nat.le_refl _)).1
  obtain ⟨i3, hi3⟩ : ∃ i3, i2 + 1 + v.1 = i3 := ⟨_, rfl⟩
  have HI3 := hid hi3
  have hi3b : i2 + 1 ≤ i3 := by omega
  have hi3c : i3 ≤ s.size := by omega
  have hfs := field_str HC.out hl2 HA.out h34 hv
  rw [hi3] at hfs
  have HFS := hid hfs
  have hi2d : (i2 : Int) + 1 ≤ 1000 := by omega
  obtain ⟨c0, c1, c2, c3, fz⟩ := HS9.out.sv.rd.cells
  have hR9 := lt_of_block HS9.out.sv.rd
  have hs95 := HS9.out.place (i2 + 1)
  obtain ⟨w95, hw95⟩ : ∃ w95, w9.setCell ⟨R, 1, none⟩ (.int .i64 ((i2 + 1 : Nat) : Int)) = w95 := ⟨_, rfl⟩
  rw [hw95] at hs95
  have HS95 := hid hs95
  clear c0 c2 c3 hv hi3 h34 hfs hs95
  go_upto_region 20 with fail
  try (change Code.wp _ _ _ _ (w9.setCell ⟨R, 1, none⟩ (.int .i64 ((i2 + 1 : Nat) : Int))); rw [hw95])
  clear hw95 c1 fz HS9 e34
  have hg95 := HS95.out.row
  have g0 : w95.cell? ⟨G, 0, none⟩ = some (.string ⟨(c :: t).toArray⟩) := cell_of_row w95 G 0 _ _ _ hg95
  have g1 : w95.cell? ⟨G, 1, none⟩ = some (.int .i64 0) := cell_of_row w95 G 1 _ _ _ hg95
  have g2 : w95.cell? ⟨G, 2, none⟩ = some (.string ⟨#[]⟩) := cell_of_row w95 G 2 _ _ _ hg95
  have gf : ∀ o, w95.frozen? ⟨G, o, none⟩ = false := fun o => frozen_of_row w95 G o _ _ hg95
  clear hg95
  have hs10 := HS95.out.set1 (.int .i64 1)
  obtain ⟨w10, hw10⟩ : ∃ w10, w95.setCell ⟨G, 1, none⟩ (.int .i64 1) = w10 := ⟨_, rfl⟩
  rw [hw10] at hs10
  have HS10 := hid hs10
  have HTK := hid (token94 (f := strValP) (g := strE) 4 tok_4 hs10.sv.rd hs (show i2 + 1 ≤ s.size by omega) (by omega) (show fr ≤ i2 + 1 by omega))
  clear hs10
  go_upto_region 21 with fail
  try (change Code.wp _ _ _ _ (w95.setCell ⟨G, 1, none⟩ (.int .i64 1)); rw [hw10])
  clear hw10 g0 g1 g2 gf HS95
  go_wp2_with fail
  refine HTK.out.mono ?_
  rintro e w11 ⟨⟨b, x11, y11, rfl, hb11⟩, hr11, hf11⟩
  rw [HW.out] at hb11 hr11 ⊢
  rw [HI3.out] at hr11
  have hs11 := HS10.out.call hr11 hf11
  clear hr11 hf11 HTK HS10
  have HS11 := hid hs11
  have hg11 := HS11.out.row
  have g0 : w11.cell? ⟨G, 0, none⟩ = some (.string ⟨(c :: t).toArray⟩) := cell_of_row w11 G 0 _ _ _ hg11
  have g1 : w11.cell? ⟨G, 1, none⟩ = some (.int .i64 1) := cell_of_row w11 G 1 _ _ _ hg11
  have g2 : w11.cell? ⟨G, 2, none⟩ = some (.string ⟨#[]⟩) := cell_of_row w11 G 2 _ _ _ hg11
  have gf : ∀ o, w11.frozen? ⟨G, o, none⟩ = false := fun o => frozen_of_row w11 G o _ _ hg11
  clear hg11
  cases b
  · have hvd : Lib.validD v.2 = true := by have h := hb11; revert h; cases Lib.validD v.2 <;> decide
    rw [if_pos hvd] at hs11
    have hs11b := hs11.set2 (.string ⟨v.2.toArray⟩)
    obtain ⟨x0, y0, hrow⟩ := hs11b.sv.row
    have HROW := hid hrow
    obtain ⟨w12, hw12⟩ : ∃ w12, (w11.setCell ⟨G, 2, none⟩ (.string ⟨v.2.toArray⟩)).setRow V (F37 false x11 y11) = w12 := ⟨_, rfl⟩
    have hs12 := hs11b.store false x11 y11
    rw [hw12] at hs12
    have HS12 := hid hs12
    have HVD2 := hid hvd
    simp only [Bool.false_eq_true, if_false]
    obtain ⟨x12, y12, hr12⟩ := HS12.out.sv.row
    have n0 : w12.cell? ⟨V, 0, none⟩ = some (.bool false) := cell_of_row w12 V 0 _ _ _ hr12
    have HROW12 := hid hr12
    clear hr12
    have HD := hid (done_spec HS12.out.sv.rd (by omega) hi3c)
    clear hrow hs11 hs11b hs12 HS11 hvd hb11
    by_cases hd : s.size ≤ i3
    · rw [decide_eq_true hd] at HD
      obtain ⟨f, X, hmv, hsp⟩ := HFS.out.1 (.inr hd)
      have hmt := HON1.out _ _ hmv
      have HMT := hid hmt
      have HSP := hid hsp
      clear hmt hsp
      clear hmv hd HFS
      go_wp2_with (refine wpList_store_row (o := ⟨none, .store 37 (.tmp 4) (.tmp 117), _, _, _, _⟩) rfl 37 _ _ rfl V (F37 false x11 y11) rfl rfl 37 _ HROW.out info37t rfl (by simp [F37, Value.oneCell']) ?_; rw [hw12])
      refine HD.out.mono ?_
      rintro e w13 ⟨rfl, n, rfl⟩
      have HS13 := hid (HS12.out.drewN n)
      generalize w12.drewN n = w13 at HS13 ⊢
      clear HD HS12 g0 g1 g2 gf n0 HROW hw12
      have hft := fault4 HS13.out.sv.rd hs (by omega) i2 (by omega) (by omega)
      have HFT := hid hft
      clear hft
      go_wp2_with fail
      refine HFT.out.mono ?_
      rintro e wz ⟨⟨xz, yz, rfl⟩, hrz, hfz⟩
      have HSZ := hid (HS13.out.call hrz hfz)
      have HGZ := hid HSZ.out.row
      have hvz : (wz.setRow G #[.string ⟨#[]⟩, .int .i64 0, .string ⟨#[]⟩]).heap[V]? = some (.cells (F37 false (HSZ.out.sv.row.choose) (HSZ.out.sv.row.choose_spec.choose)) 37 (0, 0)) := (setRow_other _ _ _ _ (fun e => HSZ.out.gv e.symm)).trans HSZ.out.sv.row.choose_spec.choose_spec
      have HVZ := hid hvz
      clear hrz hfz HFT hvz HS13
      go_wp2_with (first | (refine wpList_store_row (o := ⟨none, .store 50 (.tmp 2) (.tmp 125), _, _, _, _⟩) rfl 50 _ _ rfl G #[.string ⟨#[]⟩, .int .i64 0, .string ⟨#[]⟩] rfl rfl 50 _ HGZ.out info50s rfl (by simp [Value.oneCell']) ?_) | (refine wpList_store_row (o := ⟨none, .store 37 (.tmp 4) (.tmp 128), _, _, _, _⟩) rfl 37 _ _ rfl V (F37 true xz yz) rfl rfl 37 _ HVZ.out info37t rfl (by simp [F37, Value.oneCell']) ?_))
      have HR0 := (HSZ.out.setG #[.string ⟨#[]⟩, .int .i64 0, .string ⟨#[]⟩]).store true xz yz
      refine bodyPost_ret (res_ctc50 rfl rfl rfl rfl HR0.row (setRow_heap _ _ _ _ _ _ HVZ.out) rfl rfl) rfl ?_
      rw [HMT.out]
      exact FieldP.mk HSP.out (by omega) HR0 _ _ _ _ _ _ _
    · rw [decide_eq_false hd] at HD
      obtain ⟨xv, X, hmv, hsp⟩ := HFS.out.2 HVD2.out (by omega)
      have hon := HON2.out _ _ hmv
      have HSPX := hid hsp
      have HONX := hid hon
      have hi3d : (i3 : Int) + 1 ≤ 1000 := by omega
      clear hmv hsp hon HFS hd
      go_wp2_with (refine wpList_store_row (o := ⟨none, .store 37 (.tmp 4) (.tmp 117), _, _, _, _⟩) rfl 37 _ _ rfl V (F37 false x11 y11) rfl rfl 37 _ HROW.out info37t rfl (by simp [F37, Value.oneCell']) ?_; rw [hw12])
      refine HD.out.mono ?_
      rintro e w13 ⟨rfl, n, rfl⟩
      have HS13 := hid (HS12.out.drewN n)
      generalize w12.drewN n = w13 at HS13 ⊢
      clear HD HS12 g0 g1 g2 gf n0 HROW hw12
      obtain ⟨c0, c1, c2, c3, fz⟩ := HS13.out.sv.rd.cells
      have hR13 := lt_of_block HS13.out.sv.rd
      clear c0 c2 c3
      have hs14 := HS13.out.place (i3 + 1)
      have HS14 := hid hs14
      clear hs14
      go_wp2_with fail
      exact ⟨⟨rfl, rfl, rfl, rfl, rfl⟩, _, 1, _, X, HS14, HSPX, HONX, by omega⟩
  · have hvd : Lib.validD v.2 = false := by have h := hb11; revert h; cases Lib.validD v.2 <;> decide
    have hq : (if Lib.validD v.2 = true then 2 else brk 2) = 4 := by rw [hvd]; rfl
    rw [hq] at hs11
    obtain ⟨f, X, hmv, hsp⟩ := HFS.out.1 (.inl hvd)
    have hmt := HON1.out _ _ hmv
    have HMT := hid hmt
    have HSP := hid hsp
    clear hmt hsp
    have hs11b := hs11.set2 (.string ⟨#[]⟩)
    obtain ⟨x0, y0, hrow⟩ := hs11b.sv.row
    have HROW := hid hrow
    obtain ⟨w12, hw12⟩ : ∃ w12, (w11.setCell ⟨G, 2, none⟩ (.string ⟨#[]⟩)).setRow V (F37 true x11 y11) = w12 := ⟨_, rfl⟩
    have hs12 := hs11b.store true x11 y11
    rw [hw12] at hs12
    have HS12 := hid hs12
    simp only [if_true]
    clear hmv HFS hvd hq hb11 hrow hs11 hs11b hs12
    obtain ⟨x12, y12, hr12⟩ := HS12.out.sv.row
    have n0 : w12.cell? ⟨V, 0, none⟩ = some (.bool true) := cell_of_row w12 V 0 _ _ _ hr12
    have HROW12 := hid hr12
    clear hr12
    go_upto_region 23 with (refine wpList_store_row (o := ⟨none, .store 37 (.tmp 4) (.tmp 117), _, _, _, _⟩) rfl 37 _ _ rfl V (F37 true x11 y11) rfl rfl 37 _ HROW.out info37t rfl (by simp [F37, Value.oneCell']) ?_; rw [hw12])
    clear g0 g1 g2 gf HS11
    refine end48_23 (G := G) (V := V)  (b := true) (x := x12) (y := y12) (fun _ _ _ _ _ h => h) rfl rfl rfl HS12.out.row rfl HROW12.out (fun e => HS12.out.gv e.symm) ?_
    intro A hA2 hA3 hA4 hAd
    have HR1 := (HS12.out.drew.setG #[.string ⟨#[]⟩, .int .i64 0, .string ⟨#[]⟩]).store true x12 y12
    have hz : ((w12.drew.setRow G #[.string ⟨#[]⟩, .int .i64 0, .string ⟨#[]⟩]).setRow V (F37 true x12 y12)).heap[V]? = some (.cells (F37 true x12 y12) 37 (0, 0)) := setRow_heap _ _ _ _ _ _ ((setRow_other _ _ _ _ (fun e => HS12.out.gv e.symm)).trans HROW12.out)
    change (_ : Act → World → Prop) _ _
    refine ‹∀ (a : Act) (w : World), Code.wp Tryz.prog _ _ a w → _› _ _ ?_
    refine wp_ret ?_
    change bodyPost Tryz.prog Tryz.f48 (FieldP R s w (mField m).1 (mField m).2.bad (mField m).2.got fr) .ret _ _
    refine bodyPost_ret (res_ctc50 rfl hA2 hA3 hA4 HR1.row hz rfl rfl) hAd ?_
    rw [HMT.out]
    exact FieldP.mk HSP.out (by omega) HR1 _ _ _ _ _ _ _
end Go.Proofs.YtejlokdcocacaaaGreatDoor

/- The reference's Field: a Boolean, a number, or no value. Printed by gen_f48b.py. -/
namespace Go.Proofs.YtejlokdcocacaaaGreatDoor
open Go.RowKit Go.Proofs.YtejlokdcocacaaaGreatDoorW.PrintLast

set_option maxHeartbeats 100000000 in
set_option maxRecDepth 100000 in
theorem field_sw_bool {w w8 : World} {R : Nat} {s : ByteArray} {i2 fr V G : Nat} {c : UInt8} {t : List UInt8} {m mc : MSt} (hs : s.size ≤ 1000) (hl2 : i2 < s.size) (hi2c : fr ≤ i2) (hl3 : (i2 : Int) < (s.size : Int))
    (HS8 : Hid (Sg w R s i2 2 fr V false G 50 #[.string ⟨(c :: t).toArray⟩, .int .i64 0, .string ⟨#[]⟩] w8)) (HC : Hid (Sp s i2 2 mc)) (HA : Hid (mc.at0 = s[i2]))
    (_ : Hid (∀ d f, mVal mc = (d, .inl f) → mField m = (d, .err f))) (HON2 : Hid (∀ d x, mVal mc = (d, .inr x) → OnF m d)) (h34x : Hid (¬ s[i2] = 34)) (hb4x : Hid (s[i2] = 116 ∨ s[i2] = 84 ∨ s[i2] = 102 ∨ s[i2] = 70))
    {K : Act → World → Prop} (hK : ∀ a' w', Val48 w R s fr V G ⟨(c :: t).toArray⟩ m a' w' → K a' w') {a : Act} (ha : Fr48 R G V a) :
    sw48.wp Tryz.prog (Exit.then (swb48.wp Tryz.prog (Exit.then K (bodyPost Tryz.prog Tryz.f48 (FieldP R s w (mField m).1 (mField m).2.bad (mField m).2.got fr)))) (Exit.then K (bodyPost Tryz.prog Tryz.f48 (FieldP R s w (mField m).1 (mField m).2.bad (mField m).2.got fr)))) a w8 := by
  refine Fr48.elim (P := fun a => sw48.wp Tryz.prog _ a w8) ?_ ha
  intros
  refine unseq fun K1 hK1 => ?_
  conv at hK1 => enter [a, w, 1, 2]; whnf
  conv => enter [2]; whnf
  obtain ⟨c0, c1, c2, c3, fz⟩ := HS8.out.sv.rd.cells
  have hR8 := lt_of_block HS8.out.sv.rd
  clear c2 c3 ha
  go_quiet (fail)
  clear c0 c1 fz hR8
  have HS9 := hid (HS8.out.drewN nq)
  generalize w8.drewN nq = w9 at HS9 ⊢
  clear HS8
  have h34 := h34x.out
  have hb4 := hb4x.out
  clear h34x hb4x
  have e34 : ((s[i2].toNat : Int) == 34) = false := u8_ne 34 (by omega) h34
  have H34 := hid h34
  obtain ⟨xv, X, hmv, hsp⟩ := field_run HC.out hl2 HA.out (.inl hb4)
  have hon := HON2.out _ _ hmv
  have HONX := hid hon
  have HRN : Hid (1 ≤ runN fieldValP s i2) := hid (run_one hl2 (by rcases hb4 with h | h | h | h <;> rw [h] <;> decide))
  have hrun := run_spec (f := fieldValP) (j := 9) HS9.out.sv.rd hs (show i2 ≤ s.size by omega) in_9
  obtain ⟨i4, hi4⟩ : ∃ i4, i2 + runN fieldValP s i2 = i4 := ⟨_, rfl⟩
  have hi4b : i2 + 1 ≤ i4 := by have := HRN.out; omega
  have hi4c : i4 ≤ s.size := by rw [← hi4]; exact runN_le (by omega)
  rw [hi4] at hrun hsp
  have HRUN := hid hrun
  have HSPX := hid hsp
  clear hrun hsp hi4 HRN
  clear hmv hon
  go_upto_region 27 with fail
  go_cut [136] from 137 to 150 (fun s136 wx => s136 = .bool true ∧ wx = w9)
  case first =>
    rcases hb4 with h9 | h9 | h9 | h9
    · have e1 : ((s[i2].toNat : Int) == 116) = true := by rw [h9]; rfl
      go_wp2_with fail
      go_meet
      case rel => exact ⟨rfl, rfl⟩
    · have e1 : ((s[i2].toNat : Int) == 116) = false := by rw [h9]; rfl
      have e2 : ((s[i2].toNat : Int) == 84) = true := by rw [h9]; rfl
      go_wp2_with fail
      go_meet
      case rel => exact ⟨rfl, rfl⟩
    · have e1 : ((s[i2].toNat : Int) == 116) = false := by rw [h9]; rfl
      have e2 : ((s[i2].toNat : Int) == 84) = false := by rw [h9]; rfl
      have e3 : ((s[i2].toNat : Int) == 102) = true := by rw [h9]; rfl
      go_wp2_with fail
      go_meet
      case rel => exact ⟨rfl, rfl⟩
    · have e1 : ((s[i2].toNat : Int) == 116) = false := by rw [h9]; rfl
      have e2 : ((s[i2].toNat : Int) == 84) = false := by rw [h9]; rfl
      have e3 : ((s[i2].toNat : Int) == 102) = false := by rw [h9]; rfl
      have e4 : ((s[i2].toNat : Int) == 70) = true := by rw [h9]; rfl
      go_wp2_with fail
      go_meet
      case rel => exact ⟨rfl, rfl⟩
  case rest =>
  obtain ⟨rfl, rfl⟩ := hcut
  clear hb4
  go_wp2_with fail
  refine HRUN.out.mono ?_
  rintro e w10 ⟨rfl, hr10, hf10⟩
  have HS10 := hid (HS9.out.call hr10 hf10)
  clear hr10 hf10 HRUN HS9
  have hg10 := HS10.out.row
  have g0 : w10.cell? ⟨G, 0, none⟩ = some (.string ⟨(c :: t).toArray⟩) := cell_of_row w10 G 0 _ _ _ hg10
  have g1 : w10.cell? ⟨G, 1, none⟩ = some (.int .i64 0) := cell_of_row w10 G 1 _ _ _ hg10
  have g2 : w10.cell? ⟨G, 2, none⟩ = some (.string ⟨#[]⟩) := cell_of_row w10 G 2 _ _ _ hg10
  have gf : ∀ o, w10.frozen? ⟨G, o, none⟩ = false := fun o => frozen_of_row w10 G o _ _ hg10
  clear hg10
  have HS11 := hid ((HS10.out.set1 (.int .i64 5)).set2 (.string (s.extract i2 i4)))
  clear HS10
  go_wp2_with fail
  exact ⟨⟨rfl, rfl, rfl, rfl, rfl⟩, _, 5, _, X, HS11, HSPX, HONX, by omega⟩

set_option maxHeartbeats 100000000 in
set_option maxRecDepth 100000 in
theorem field_sw_num {w w8 : World} {R : Nat} {s : ByteArray} {i2 fr V G : Nat} {c : UInt8} {t : List UInt8} {m mc : MSt} (hs : s.size ≤ 1000) (hl2 : i2 < s.size) (hi2c : fr ≤ i2) (hl3 : (i2 : Int) < (s.size : Int))
    (HS8 : Hid (Sg w R s i2 2 fr V false G 50 #[.string ⟨(c :: t).toArray⟩, .int .i64 0, .string ⟨#[]⟩] w8)) (HC : Hid (Sp s i2 2 mc)) (HA : Hid (mc.at0 = s[i2]))
    (HON1 : Hid (∀ d f, mVal mc = (d, .inl f) → mField m = (d, .err f))) (HON2 : Hid (∀ d x, mVal mc = (d, .inr x) → OnF m d)) (h34x : Hid (¬ s[i2] = 34)) (hb4x : Hid (¬ (s[i2] = 116 ∨ s[i2] = 84 ∨ s[i2] = 102 ∨ s[i2] = 70)))
    {K : Act → World → Prop} (hK : ∀ a' w', Val48 w R s fr V G ⟨(c :: t).toArray⟩ m a' w' → K a' w') {a : Act} (ha : Fr48 R G V a) :
    sw48.wp Tryz.prog (Exit.then (swb48.wp Tryz.prog (Exit.then K (bodyPost Tryz.prog Tryz.f48 (FieldP R s w (mField m).1 (mField m).2.bad (mField m).2.got fr)))) (Exit.then K (bodyPost Tryz.prog Tryz.f48 (FieldP R s w (mField m).1 (mField m).2.bad (mField m).2.got fr)))) a w8 := by
  refine Fr48.elim (P := fun a => sw48.wp Tryz.prog _ a w8) ?_ ha
  intros
  refine unseq fun K1 hK1 => ?_
  conv at hK1 => enter [a, w, 1, 2]; whnf
  conv => enter [2]; whnf
  obtain ⟨c0, c1, c2, c3, fz⟩ := HS8.out.sv.rd.cells
  have hR8 := lt_of_block HS8.out.sv.rd
  clear c2 c3 ha
  go_quiet (fail)
  clear c0 c1 fz hR8
  have HS9 := hid (HS8.out.drewN nq)
  generalize w8.drewN nq = w9 at HS9 ⊢
  clear HS8
  have h34 := h34x.out
  have hb4 := hb4x.out
  clear h34x hb4x
  have e34 : ((s[i2].toNat : Int) == 34) = false := u8_ne 34 (by omega) h34
  have H34 := hid h34
  have e116 : ((s[i2].toNat : Int) == 116) = false := u8_ne 116 (by omega) (fun h => hb4 (.inl h))
  have e84 : ((s[i2].toNat : Int) == 84) = false := u8_ne 84 (by omega) (fun h => hb4 (.inr (.inl h)))
  have e102 : ((s[i2].toNat : Int) == 102) = false := u8_ne 102 (by omega) (fun h => hb4 (.inr (.inr (.inl h))))
  have e70 : ((s[i2].toNat : Int) == 70) = false := u8_ne 70 (by omega) (fun h => hb4 (.inr (.inr (.inr h))))
  by_cases hn4 : s[i2] = 45 ∨ s[i2] = 46 ∨ (48 ≤ s[i2].toNat ∧ s[i2].toNat ≤ 57)
  · obtain ⟨xv, X, hmv, hsp⟩ := field_run HC.out hl2 HA.out (.inr hn4)
    have hon := HON2.out _ _ hmv
    have HONX := hid hon
    have HRN : Hid (1 ≤ runN fieldValP s i2) := hid (run_one hl2 (by
      rcases hn4 with h | h | ⟨h1, h2⟩
      · rw [h]; decide
      · rw [h]; decide
      · exact num_val h1 h2))
    have hrun := run_spec (f := fieldValP) (j := 9) HS9.out.sv.rd hs (show i2 ≤ s.size by omega) in_9
    obtain ⟨i4, hi4⟩ : ∃ i4, i2 + runN fieldValP s i2 = i4 := ⟨_, rfl⟩
    have hi4b : i2 + 1 ≤ i4 := by have := HRN.out; omega
    have hi4c : i4 ≤ s.size := by rw [← hi4]; exact runN_le (by omega)
    rw [hi4] at hrun hsp
    have HRUN := hid hrun
    have HSPX := hid hsp
    clear hrun hsp hi4 HRN
    clear hmv hon hb4
    go_upto_region 29 with fail
    clear e116 e84 e102 e70
    go_cut [155] from 156 to 169 (fun s155 wx => s155 = .bool true ∧ wx = w9)
    case first =>
      rcases hn4 with h9 | h9 | ⟨h9, h10⟩
      · have e1 : ((s[i2].toNat : Int) == 45) = true := by rw [h9]; rfl
        go_wp2_with fail
        go_meet
        case rel => exact ⟨rfl, rfl⟩
      · have e1 : ((s[i2].toNat : Int) == 45) = false := by rw [h9]; rfl
        have e2 : ((s[i2].toNat : Int) == 46) = true := by rw [h9]; rfl
        go_wp2_with fail
        go_meet
        case rel => exact ⟨rfl, rfl⟩
      · have e1 : ((s[i2].toNat : Int) == 45) = false := by rw [beq_eq_false_iff_ne]; omega
        have e2 : ((s[i2].toNat : Int) == 46) = false := by rw [beq_eq_false_iff_ne]; omega
        have e3 : (48 : Int) ≤ (s[i2].toNat : Int) := by omega
        have e4 : (s[i2].toNat : Int) ≤ (57 : Int) := by omega
        clear h9 h10
        go_wp2_with fail
        go_meet
        case rel => exact ⟨rfl, rfl⟩
    case rest =>
    obtain ⟨rfl, rfl⟩ := hcut
    clear hn4
    go_wp2_with fail
    refine HRUN.out.mono ?_
    rintro e w10 ⟨rfl, hr10, hf10⟩
    have HS10 := hid (HS9.out.call hr10 hf10)
    clear hr10 hf10 HRUN HS9
    have hg10 := HS10.out.row
    have g0 : w10.cell? ⟨G, 0, none⟩ = some (.string ⟨(c :: t).toArray⟩) := cell_of_row w10 G 0 _ _ _ hg10
    have g1 : w10.cell? ⟨G, 1, none⟩ = some (.int .i64 0) := cell_of_row w10 G 1 _ _ _ hg10
    have g2 : w10.cell? ⟨G, 2, none⟩ = some (.string ⟨#[]⟩) := cell_of_row w10 G 2 _ _ _ hg10
    have gf : ∀ o, w10.frozen? ⟨G, o, none⟩ = false := fun o => frozen_of_row w10 G o _ _ hg10
    clear hg10
    obtain ⟨rw_, hrw⟩ : ∃ r, s.extract i2 i4 = r := ⟨_, rfl⟩
    have hrz : rw_.size = i4 - i2 := by rw [← hrw, ByteArray.size_extract]; omega
    rw [hrw]
    clear hrw
    have HS11 := hid ((HS10.out.set1 (.int .i64 4)).set2 (.string rw_))
    obtain ⟨w11, hw11⟩ : ∃ w11, (w10.setCell ⟨G, 1, none⟩ (.int .i64 4)).setCell ⟨G, 2, none⟩ (.string rw_) = w11 := ⟨_, rfl⟩
    rw [hw11] at HS11
    clear HS10
    go_upto_region 31 with fail
    clear g0 g1 g2 gf hw11
    have hg11 := HS11.out.row
    have g0 : w11.cell? ⟨G, 0, none⟩ = some (.string ⟨(c :: t).toArray⟩) := cell_of_row w11 G 0 _ _ _ hg11
    have g1 : w11.cell? ⟨G, 1, none⟩ = some (.int .i64 4) := cell_of_row w11 G 1 _ _ _ hg11
    have g2 : w11.cell? ⟨G, 2, none⟩ = some (.string rw_) := cell_of_row w11 G 2 _ _ _ hg11
    have gf : ∀ o, w11.frozen? ⟨G, o, none⟩ = false := fun o => frozen_of_row w11 G o _ _ hg11
    clear hg11
    obtain ⟨q, hq⟩ : ∃ q, rw_.size = q + 1 := ⟨rw_.size - 1, by omega⟩
    have hq2 : q ≤ 1000 := by omega
    have hq3 : (rw_.size : Int) = (q : Int) + 1 := by omega
    have hq4 : q < rw_.size := by omega
    have hq5 : (q : Int) < (rw_.size : Int) := by omega
    clear hq hrz
    by_cases h105 : rw_[q] = 105
    · have e105 : ((rw_[q].toNat : Int) == 105) = true := by rw [h105]; rfl
      clear h105
      go_upto_region 34 with fail
      go_region
      go_wp2_with fail
      have HS12 := hid ((HS11.out.drew.set1 (.int .i64 2)).set2 (.string (rw_.extract 0 q)))
      exact ⟨⟨rfl, rfl, rfl, rfl, rfl⟩, _, 2, _, X, HS12, HSPX, HONX, by omega⟩
    · have e105 : ((rw_[q].toNat : Int) == 105) = false := u8_ne 105 (by omega) h105
      clear h105
      by_cases h117 : rw_[q] = 117
      · have e117 : ((rw_[q].toNat : Int) == 117) = true := by rw [h117]; rfl
        clear h117
        go_upto_region 36 with fail
        go_region
        go_wp2_with fail
        have HS12 := hid ((HS11.out.drew.set1 (.int .i64 3)).set2 (.string (rw_.extract 0 q)))
        exact ⟨⟨rfl, rfl, rfl, rfl, rfl⟩, _, 3, _, X, HS12, HSPX, HONX, by omega⟩
      · have e117 : ((rw_[q].toNat : Int) == 117) = false := u8_ne 117 (by omega) h117
        clear h117
        go_wp2_with fail
        exact ⟨⟨rfl, rfl, rfl, rfl, rfl⟩, _, 4, _, X, HS11, HSPX, HONX, by omega⟩
  · obtain ⟨f, X, hmv, hsp⟩ := field_other HC.out hl2 HA.out H34.out hb4 hn4
    have hmt := HON1.out _ _ hmv
    have HMT := hid hmt
    have HSP := hid hsp
    clear hmt hsp
    have e45 : ((s[i2].toNat : Int) == 45) = false := u8_ne 45 (by omega) (fun h => hn4 (.inl h))
    have e46 : ((s[i2].toNat : Int) == 46) = false := u8_ne 46 (by omega) (fun h => hn4 (.inr (.inl h)))
    obtain ⟨c0, c1, c2, c3, fz⟩ := HS9.out.sv.rd.cells
    have hR9 := lt_of_block HS9.out.sv.rd
    clear c0 c2 c3 hmv hb4
    by_cases h48 : (48 : Int) ≤ (s[i2].toNat : Int)
    · have h57 : ¬ (s[i2].toNat : Int) ≤ (57 : Int) := fun h => hn4 (.inr (.inr ⟨by omega, by omega⟩))
      clear hn4
      have hft := fault4 HS9.out.sv.rd hs (by omega) i2 (by omega) (by omega)
      have HFT := hid hft
      clear hft
      go_wp2_with fail
      refine HFT.out.mono ?_
      rintro e wz ⟨⟨xz, yz, rfl⟩, hrz, hfz⟩
      have HSZ := hid (HS9.out.call hrz hfz)
      have HGZ := hid HSZ.out.row
      have hvz : (wz.setRow G #[.string ⟨#[]⟩, .int .i64 0, .string ⟨#[]⟩]).heap[V]? = some (.cells (F37 false (HSZ.out.sv.row.choose) (HSZ.out.sv.row.choose_spec.choose)) 37 (0, 0)) := (setRow_other _ _ _ _ (fun e => HSZ.out.gv e.symm)).trans HSZ.out.sv.row.choose_spec.choose_spec
      have HVZ := hid hvz
      clear hrz hfz HFT hvz HS9
      go_wp2_with (first | (refine wpList_store_row (o := ⟨none, .store 50 (.tmp 2) (.tmp 91), _, _, _, _⟩) rfl 50 _ _ rfl G #[.string ⟨#[]⟩, .int .i64 0, .string ⟨#[]⟩] rfl rfl 50 _ HGZ.out info50s rfl (by simp [Value.oneCell']) ?_) | (refine wpList_store_row (o := ⟨none, .store 37 (.tmp 4) (.tmp 97), _, _, _, _⟩) rfl 37 _ _ rfl V (F37 true xz yz) rfl rfl 37 _ HVZ.out info37t rfl (by simp [F37, Value.oneCell']) ?_))
      have HR0 := (HSZ.out.setG #[.string ⟨#[]⟩, .int .i64 0, .string ⟨#[]⟩]).store true xz yz
      refine bodyPost_ret (res_ctc50 rfl rfl rfl rfl HR0.row (setRow_heap _ _ _ _ _ _ HVZ.out) rfl rfl) rfl ?_
      rw [HMT.out]
      exact FieldP.mk HSP.out (by omega) HR0 _ _ _ _ _ _ _
    · clear hn4
      have hft := fault4 HS9.out.sv.rd hs (by omega) i2 (by omega) (by omega)
      have HFT := hid hft
      clear hft
      go_wp2_with fail
      refine HFT.out.mono ?_
      rintro e wz ⟨⟨xz, yz, rfl⟩, hrz, hfz⟩
      have HSZ := hid (HS9.out.call hrz hfz)
      have HGZ := hid HSZ.out.row
      have hvz : (wz.setRow G #[.string ⟨#[]⟩, .int .i64 0, .string ⟨#[]⟩]).heap[V]? = some (.cells (F37 false (HSZ.out.sv.row.choose) (HSZ.out.sv.row.choose_spec.choose)) 37 (0, 0)) := (setRow_other _ _ _ _ (fun e => HSZ.out.gv e.symm)).trans HSZ.out.sv.row.choose_spec.choose_spec
      have HVZ := hid hvz
      clear hrz hfz HFT hvz HS9
      go_wp2_with (first | (refine wpList_store_row (o := ⟨none, .store 50 (.tmp 2) (.tmp 91), _, _, _, _⟩) rfl 50 _ _ rfl G #[.string ⟨#[]⟩, .int .i64 0, .string ⟨#[]⟩] rfl rfl 50 _ HGZ.out info50s rfl (by simp [Value.oneCell']) ?_) | (refine wpList_store_row (o := ⟨none, .store 37 (.tmp 4) (.tmp 97), _, _, _, _⟩) rfl 37 _ _ rfl V (F37 true xz yz) rfl rfl 37 _ HVZ.out info37t rfl (by simp [F37, Value.oneCell']) ?_))
      have HR0 := (HSZ.out.setG #[.string ⟨#[]⟩, .int .i64 0, .string ⟨#[]⟩]).store true xz yz
      refine bodyPost_ret (res_ctc50 rfl rfl rfl rfl HR0.row (setRow_heap _ _ _ _ _ _ HVZ.out) rfl rfl) rfl ?_
      rw [HMT.out]
      exact FieldP.mk HSP.out (by omega) HR0 _ _ _ _ _ _ _
end Go.Proofs.YtejlokdcocacaaaGreatDoor
