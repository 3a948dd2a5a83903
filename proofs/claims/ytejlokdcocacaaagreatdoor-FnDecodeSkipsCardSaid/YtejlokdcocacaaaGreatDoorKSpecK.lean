/- The reference's Name. -/
import Derived.Test.YtejlokdcocacaaaGreatDoorKSpecI
namespace Go.Proofs.YtejlokdcocacaaaGreatDoor
open Go.RowKit

theorem comma_to {m c : MSt} (h0 : m.sec = 0) : (∀ f, mComma m = (c, some f) → mComma (m.to 1) = (c, some f)) ∧ (mComma m = (c, none) → mComma (m.to 1) = (c.to 1, none)) := by
  unfold mComma
  have e1 : (m.to 1).has 1 = m.has 1 := rfl
  have e2 : (m.to 1).at0 = m.at0 := rfl
  have e3 : ((m.to 1).adv 1).has 1 = (m.adv 1).has 1 := rfl
  have e4 : ((m.to 1).adv 1).at0 = (m.adv 1).at0 := rfl
  rw [e1, e2, e3, e4]
  have hb : ((m.to 1).adv 1).broke = (m.adv 1).broke := by
    unfold MSt.broke MSt.adv MSt.to
    simp [h0]
  by_cases hk : m.has 1 = true ∧ m.at0 = 44
  · rw [if_pos hk, if_pos hk]
    by_cases hw : (m.adv 1).has 1 = false ∨ whiteP (m.adv 1).at0.toNat = true
    · rw [if_pos hw, if_pos hw, hb]
      exact ⟨fun f h => h, fun h => by simp at h⟩
    · rw [if_neg hw, if_neg hw]
      refine ⟨fun f h => by simp at h, fun h => ?_⟩
      simp only [Prod.mk.injEq, and_true] at h
      rw [← h]; rfl
  · rw [if_neg hk, if_neg hk]
    refine ⟨fun f h => by simp at h, fun h => ?_⟩
    simp only [Prod.mk.injEq, and_true] at h
    rw [← h]

theorem tok_0 : ∀ (s2 : ByteArray) (_ : s2.size ≤ 1000) (w : World), Calls Tryz.prog 132 #[.int .i64 0, .string s2] w fun e w' => e = .returned (.tuple #[.string ⟨(tok measP measE s2.data.toList).2.toArray⟩, .int .i64 ((tok measP measE s2.data.toList).1 : Int)]) ∧ Below w.heap.size w w' :=
  fun s2 hs w => token_spec 0 5 escaped_0 setOf_0 in_5 (fun c hc => (measE_ok c hc).1) s2 hs w

theorem mMeas_bad (m : MSt) (h : Lib.validD (tok measP measE m.reset.rest).2 = false ∨ (tok measP measE m.reset.rest).1 = 0 ∨ (tok measP measE m.reset.rest).2.head? = some 35) : ∃ f, mMeas m = ((m.reset.tk measP measE).broke, some f) := by
  unfold mMeas
  simp only
  rw [if_pos h]
  exact ⟨_, rfl⟩
theorem mMeas_good (m : MSt) (h : ¬ (Lib.validD (tok measP measE m.reset.rest).2 = false ∨ (tok measP measE m.reset.rest).1 = 0 ∨ (tok measP measE m.reset.rest).2.head? = some 35)) (h0 : m.sec = 0) : (mMeas m).1 = (mComma ((m.reset.tk measP measE).to 1)).1 ∧ (mMeas m).2.isSome = (mComma ((m.reset.tk measP measE).to 1)).2.isSome := by
  unfold mMeas
  simp only
  rw [if_neg h]
  have hb : (m.reset.tk measP measE).sec = 0 := by
    show m.reset.sec = 0
    unfold MSt.reset; split <;> exact h0
  rcases hc : mComma (m.reset.tk measP measE) with ⟨c, _ | f⟩
  · rw [(comma_to (c := c) hb).2 hc]; exact ⟨rfl, rfl⟩
  · rw [(comma_to (c := c) hb).1 f hc]; exact ⟨rfl, rfl⟩

/-- Strings against the empty one, and their first byte. -/
theorem str_nil (w : World) (l : List UInt8) : (binOp .eql 9 (.string ⟨l.toArray⟩) (.string ⟨#[]⟩)).run Tryz.prog w = .ok (.bool (decide (l = []))) w := by
  cases l with
  | nil => kernel_rfl
  | cons c t =>
    simp [go_sem]

set_option maxHeartbeats 4000000 in
set_option maxRecDepth 100000 in
theorem name_spec {w : World} {R : Nat} {s : ByteArray} {i fr : Nat} {m : MSt} (h : IsRd w R s i 0 fr) (hs : s.size ≤ 1000) (hfr : fr ≤ i) (hm : Sp s i 0 m) :
    Calls Tryz.prog 46 #[.pointer (some ⟨R, 0, none⟩)] w (NameR R s w (mMeas m).1 (mMeas m).2.isSome fr) := by
  have hi := hm.2.1
  have hSv := Sv.begin h
  obtain ⟨w1, hw1⟩ : ∃ w1, w.alloc z37 = w1 := ⟨_, rfl⟩
  rw [hw1] at hSv
  have HS := hid hSv
  have hTK := token94 (f := measP) (g := measE) 0 tok_0 hSv.rd hs hi (by omega) hfr
  have HTK := hid hTK
  obtain ⟨c0, c1, c2, c3, fz⟩ := hSv.rd.cells
  have hR1 := lt_of_block hSv.rd
  clear h hTK hSv c0 c3
  go_enter Tryz.func46, Tryz.ntmps46
  go_upto_region 1 with fail
  change Code.wp _ _ _ _ (w.alloc z37)
  rw [hw1]
  clear hw1
  go_wp2_with fail
  refine HTK.out.mono ?_
  rintro e w2 ⟨⟨b, x, y, rfl, hb⟩, hr2, hf2⟩
  obtain ⟨u, hu⟩ : ∃ u, tok measP measE (restOf s i) = u := ⟨_, rfl⟩
  have hmr := hm.reset
  have hmt := hmr.tk measP measE
  have hrr : m.reset.rest = restOf s i := hmr.rest
  rw [hu] at hb hr2 hmt ⊢
  have HS2 := hid (HS.out.call hr2 hf2)
  have hle : u.1 ≤ s.size - i := by rw [← hu, ← restOf_len]; exact (tok_le (f := measP) (g := measE) _ _ (Nat.le_refl _)).1
  obtain ⟨V, hV⟩ : ∃ V, w.heap.size = V := ⟨_, rfl⟩
  rw [hV] at HS2
  obtain ⟨x0, y0, hrow⟩ := HS2.out.row
  obtain ⟨w3, hw3⟩ : ∃ w3, w2.setRow V (F37 b x y) = w3 := ⟨_, rfl⟩
  have hs3 := HS2.out.store b x y
  have hrow3 : w3.heap[V]? = some (.cells (F37 b x y) 37 (0, 0)) := by rw [← hw3]; exact setRow_heap _ _ _ _ _ _ hrow
  rw [hw3] at hs3
  have HS3 := hid hs3
  have HROW := hid hrow
  have HR3 := hid hrow3
  have n0 : w3.cell? ⟨V, 0, none⟩ = some (.bool b) := cell_of_row w3 V 0 _ _ _ hrow3
  have n1 : w3.cell? ⟨V, 1, none⟩ = some (.int .i64 x) := cell_of_row w3 V 1 _ _ _ hrow3
  have n2 : w3.cell? ⟨V, 2, none⟩ = some (.int .i64 y) := cell_of_row w3 V 2 _ _ _ hrow3
  have n3 : w3.cell? ⟨V, 3, none⟩ = some (.bool false) := cell_of_row w3 V 3 _ _ _ hrow3
  have nf : ∀ o, w3.frozen? ⟨V, o, none⟩ = false := fun o => frozen_of_row w3 V o _ _ hrow3
  have HM := hid hmt
  have HU := hid hu
  have HV := hid hV
  have HB := hid hb
  clear HS HTK hr2 hf2 hrow hrow3 hs3 hmt hu hb c1 c2 fz hR1
  rw [HV.out]
  cases b
  · have hvd : Lib.validD u.2 = true := by have h := HB.out; revert h; cases Lib.validD u.2 <;> decide
    have hs3 := HS3.out
    rw [if_pos hvd] at hs3
    have HVD := hid hvd
    clear hvd HB HS3
    have HS3 := hid hs3
    clear hs3
    have hfl := specFault_spec HS3.out.rd hs (by omega) i hi hfr
    have HFL := hid hfl
    clear hfl
    obtain ⟨l, hl⟩ : ∃ l, u.2 = l := ⟨_, rfl⟩
    rw [hl]
    have HL := hid hl
    clear hl
    simp only [Bool.false_eq_true, if_false]
    rcases l with _ | ⟨c, t⟩
    · go_wp2_with (refine wpList_store_row (o := ⟨none, .store 37 (.tmp 4) (.tmp 20), _, _, _, _⟩) rfl 37 _ _ rfl V (F37 false x y) rfl rfl 37 _ HROW.out info37t rfl (by simp [F37, Value.oneCell']) ?_; rw [hw3])
      refine HFL.out.mono ?_
      rintro e w5 ⟨⟨v, rfl, x2, y2, rfl⟩, h5, f5⟩
      have HS5 := hid (HS3.out.call h5 f5)
      obtain ⟨x8, y8, hr8⟩ := HS5.out.row
      have HR8 := hid hr8
      clear h5 f5 hr8 HFL
      go_wp2_with (refine wpList_store_row (o := ⟨none, .store 37 (.tmp 4) (.tmp 33), _, _, _, _⟩) rfl 37 _ _ rfl V (F37 true x2 y2) rfl rfl 37 _ HR8.out info37t rfl (by simp [F37, Value.oneCell']) ?_)
      have HS6 := HS5.out.store true x2 y2
      refine bodyPost_ret (res_tt37 rfl rfl rfl rfl (setRow_heap _ _ _ _ _ _ HR8.out) rfl) rfl ?_
      obtain ⟨f, hmm⟩ := mMeas_bad m (by rw [hrr, HU.out, HL.out]; exact .inr (.inl ((tok_nil measP measE (restOf s i)).1 (by rw [HU.out]; exact HL.out) |> fun h => by rw [HU.out] at h; exact h)))
      rw [hmm]
      have hsp := HM.out.broke
      have hsc : (m.reset.tk measP measE).broke.sec = 4 := hsp.2.2
      refine ⟨i + u.1, ⟨#[]⟩, false, x2, y2, rfl, ?_, by omega, ?_, HS6.fm⟩
      · show Sp s (i + u.1) (m.reset.tk measP measE).broke.sec (m.reset.tk measP measE).broke
        rw [hsc]; exact hsp
      · show IsRd _ R s (i + u.1) (m.reset.tk measP measE).broke.sec fr
        rw [hsc]; exact HS6.rd
    · by_cases hc35 : c = 35
      · have hz : 0 < (ByteArray.mk (c :: t).toArray).size := by show 0 < (c :: t).toArray.size; simp
        have e35 : ((((ByteArray.mk (c :: t).toArray)[0]'hz).toNat : Int) == 35) = true := by rw [hc35]; rfl
        go_wp2_with (refine wpList_store_row (o := ⟨none, .store 37 (.tmp 4) (.tmp 20), _, _, _, _⟩) rfl 37 _ _ rfl V (F37 false x y) rfl rfl 37 _ HROW.out info37t rfl (by simp [F37, Value.oneCell']) ?_; rw [hw3])
        refine HFL.out.mono ?_
        rintro e w5 ⟨⟨v, rfl, x2, y2, rfl⟩, h5, f5⟩
        have HS5 := hid (HS3.out.call h5 f5)
        obtain ⟨x8, y8, hr8⟩ := HS5.out.row
        have HR8 := hid hr8
        clear h5 f5 hr8 HFL
        go_wp2_with (refine wpList_store_row (o := ⟨none, .store 37 (.tmp 4) (.tmp 33), _, _, _, _⟩) rfl 37 _ _ rfl V (F37 true x2 y2) rfl rfl 37 _ HR8.out info37t rfl (by simp [F37, Value.oneCell']) ?_)
        have HS6 := HS5.out.store true x2 y2
        refine bodyPost_ret (res_tt37 rfl rfl rfl rfl (setRow_heap _ _ _ _ _ _ HR8.out) rfl) rfl ?_
        obtain ⟨f, hmm⟩ := mMeas_bad m (by rw [hrr, HU.out, HL.out]; exact .inr (.inr (by rw [hc35]; rfl)))
        rw [hmm]
        have hsp := HM.out.broke
        have hsc : (m.reset.tk measP measE).broke.sec = 4 := hsp.2.2
        refine ⟨i + u.1, ⟨#[]⟩, false, x2, y2, rfl, ?_, by omega, ?_, HS6.fm⟩
        · show Sp s (i + u.1) (m.reset.tk measP measE).broke.sec (m.reset.tk measP measE).broke
          rw [hsc]; exact hsp
        · show IsRd _ R s (i + u.1) (m.reset.tk measP measE).broke.sec fr
          rw [hsc]; exact HS6.rd
      · have hz : 0 < (ByteArray.mk (c :: t).toArray).size := by show 0 < (c :: t).toArray.size; simp
        have e35 : ((((ByteArray.mk (c :: t).toArray)[0]'hz).toNat : Int) == 35) = false := by
          show ((c.toNat : Int) == 35) = false
          rw [beq_eq_false_iff_ne]
          intro h
          exact hc35 (UInt8.toNat.inj (by show c.toNat = 35; omega))
        have hng : ¬ (Lib.validD (tok measP measE m.reset.rest).2 = false ∨ (tok measP measE m.reset.rest).1 = 0 ∨ (tok measP measE m.reset.rest).2.head? = some 35) := by
          rw [hrr, HU.out, HVD.out, HL.out]
          rintro (h | h | h)
          · simp at h
          · have := (tok_nil measP measE (restOf s i)).2 (by rw [HU.out]; exact h)
            rw [HU.out, HL.out] at this
            simp at this
          · simp at h; exact hc35 h
        have hgd := mMeas_good m hng hm.2.2
        have HGD := hid hgd
        obtain ⟨cc0, c1, c2, c3, fz⟩ := HS3.out.rd.cells
        have HS4 := hid (HS3.out.part 1)
        have hbh := behind_any HS4.out.rd hs (by omega) (show fr ≤ i + u.1 by omega) (HM.out.to 1)
        obtain ⟨b2, hb2⟩ : ∃ b2, (mComma ((m.reset.tk measP measE).to 1)).2.isSome = b2 := ⟨_, rfl⟩
        rw [hb2] at hbh
        have HB2 := hid hb2
        have HBH := hid hbh
        clear hng hgd hbh hb2 cc0 c1 c3 HFL
        go_wp2_with (refine wpList_store_row (o := ⟨none, .store 37 (.tmp 4) (.tmp 20), _, _, _, _⟩) rfl 37 _ _ rfl V (F37 false x y) rfl rfl 37 _ HROW.out info37t rfl (by simp [F37, Value.oneCell']) ?_; rw [hw3])
        refine HBH.out.mono ?_
        rintro e w5 ⟨i', x2, y2, rfl, hsp, hfr', hrd, hfm⟩
        have HSP := hid hsp
        have hs5 := HS4.out.call hrd hfm
        obtain ⟨x8, y8, hr8⟩ := hs5.row
        have HR8 := hid hr8
        obtain ⟨w6, hw6⟩ : ∃ w6, w5.setRow V (F37 b2 x2 y2) = w6 := ⟨_, rfl⟩
        have hs6 := hs5.store b2 x2 y2
        have hrow6 : w6.heap[V]? = some (.cells (F37 b2 x2 y2) 37 (0, 0)) := by rw [← hw6]; exact setRow_heap _ _ _ _ _ _ hr8
        rw [hw6] at hs6
        have HS6 := hid hs6
        clear hsp hs5 hr8 hs6 hrd hfm HBH HS4 n0 n1 n2 n3 nf c2 fz
        have n0 : w6.cell? ⟨V, 0, none⟩ = some (.bool b2) := cell_of_row w6 V 0 _ _ _ hrow6
        have n1 : w6.cell? ⟨V, 1, none⟩ = some (.int .i64 x2) := cell_of_row w6 V 1 _ _ _ hrow6
        have n2 : w6.cell? ⟨V, 2, none⟩ = some (.int .i64 y2) := cell_of_row w6 V 2 _ _ _ hrow6
        have n3 : w6.cell? ⟨V, 3, none⟩ = some (.bool false) := cell_of_row w6 V 3 _ _ _ hrow6
        have nf : ∀ o, w6.frozen? ⟨V, o, none⟩ = false := fun o => frozen_of_row w6 V o _ _ hrow6
        clear hrow6
        cases b2
        · go_wp2_with (refine wpList_store_row (o := ⟨none, .store 37 (.tmp 4) (.tmp 38), _, _, _, _⟩) rfl 37 _ _ rfl V (F37 false x2 y2) rfl rfl 37 _ HR8.out info37t rfl (by simp [F37, Value.oneCell']) ?_; rw [hw6])
          go_region
          go_wp2_with fail
          have HS7 := HS6.out.drew.relay false x2 y2
          obtain ⟨x9, y9, hx9⟩ := HS7.row
          refine bodyPost_ret (res_tt37 rfl rfl rfl rfl hx9 rfl) rfl ?_
          rw [HGD.out.2, HB2.out]
          unfold NameR
          rw [HGD.out.1]
          exact ⟨i', ⟨(c :: t).toArray⟩, true, x9, y9, rfl, HSP.out, hfr', HS7.rd, HS7.fm⟩
        · go_wp2_with (refine wpList_store_row (o := ⟨none, .store 37 (.tmp 4) (.tmp 38), _, _, _, _⟩) rfl 37 _ _ rfl V (F37 true x2 y2) rfl rfl 37 _ HR8.out info37t rfl (by simp [F37, Value.oneCell']) ?_; rw [hw6])
          go_region
          go_wp2_with fail
          have HS7 := HS6.out.drew.relay true x2 y2
          obtain ⟨x9, y9, hx9⟩ := HS7.row
          refine bodyPost_ret (res_tt37 rfl rfl rfl rfl hx9 rfl) rfl ?_
          rw [HGD.out.2, HB2.out]
          unfold NameR
          rw [HGD.out.1]
          exact ⟨i', ⟨#[]⟩, false, x9, y9, rfl, HSP.out, hfr', HS7.rd, HS7.fm⟩
  · go_wp2_with (refine wpList_store_row (o := ⟨none, .store 37 (.tmp 4) (.tmp 20), _, _, _, _⟩) rfl 37 _ _ rfl V (F37 true x y) rfl rfl 37 _ HROW.out info37t rfl (by simp [F37, Value.oneCell']) ?_; rw [hw3])
    go_region
    go_wp2_with fail
    have HS5 := HS3.out.drew.relay true x y
    obtain ⟨x9, y9, hx9⟩ := HS5.row
    refine bodyPost_ret (res_tt37 rfl rfl rfl rfl hx9 rfl) rfl ?_
    have hvd : Lib.validD u.2 = false := by have h := HB.out; revert h; cases Lib.validD u.2 <;> decide
    obtain ⟨f, hmm⟩ := mMeas_bad m (.inl (by rw [hrr, HU.out]; exact hvd))
    rw [hmm]
    have hsp := HM.out.broke
    have hsc : (m.reset.tk measP measE).broke.sec = 4 := hsp.2.2
    rw [hvd] at HS5
    refine ⟨i + u.1, ⟨#[]⟩, false, x9, y9, rfl, ?_, by omega, ?_, HS5.fm⟩
    · show Sp s (i + u.1) (m.reset.tk measP measE).broke.sec (m.reset.tk measP measE).broke
      rw [hsc]; exact hsp
    · show IsRd _ R s (i + u.1) (m.reset.tk measP measE).broke.sec fr
      rw [hsc]; exact HS5.rd
end Go.Proofs.YtejlokdcocacaaaGreatDoor
