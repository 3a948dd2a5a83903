/- NextFieldBytes, whatever advanceToSection has done. -/
import Derived.Test.YtejlokdcocacaaaGreatDoorKTag
namespace Go.Proofs.YtejlokdcocacaaaGreatDoor
open Go.RowKit Go.Proofs.YtejlokdcocacaaaGreatDoorW.PrintLast

/-- NextFieldBytes's result. -/
def FieldIs (B : Nat) (sk : Bool) (r : FieldR) (w : World) (v : Value) : Prop :=
  match r with
  | .err f => ∃ v4, ErrIs B f w v4 ∧ v = .tuple #[.slice none 0 0, .int .u8 0, .slice none 0 0, v4]
  | .none => v = .tuple #[.slice none 0 0, .int .u8 0, .slice none 0 0, .nilIface]
  | .some d => ∃ l1 l2 v1 v2, BytesIs w v1 l1 ∧ BytesIs w v2 l2 ∧ (sk = false → l1 = d.key ∧ l2 = d.raw) ∧ v = .tuple #[v1, .int .u8 (d.kind : Int), v2, .nilIface]

/-- advanceToSection's result. -/
def ToIs (B k : Nat) (o : Option Flt) (m1 : MSt) (w : World) (v : Value) : Prop :=
  match o with
  | some f => ∃ v2, ErrIs B f w v2 ∧ v = .tuple #[.bool false, v2]
  | none => v = .tuple #[.bool (m1.sec == k), .nilIface]

/-- What it hands on. -/
def fieldOf (o : Option Flt) (m1 : MSt) : MSt × FieldR :=
  match o with
  | some f => (m1, .err f)
  | none => mField m1

/-- What is known behind a field's value. -/
def ValE (B D T E : Nat) (sk : Bool) (w : World) (c : MSt) (v1 : Value) (l1 : List UInt8) (u11 u12 : Value) (wx : World) : Prop :=
  ∃ d x E' es' l2, mVal c = (d, .inr x) ∧ BytesFar D wx u11 l2 ∧ (sk = false → l2 = x.2) ∧ u12 = .int .u8 (x.1 : Int) ∧ BytesFar D wx v1 l1 ∧ Rep wx B D T E' sk (d.d es') ∧ Stw 0 D E w E' wx ∧ es'.length + d.r0 ≤ d.r1

theorem ran_eq (m : MSt) (f : Nat → Bool) : m.ran f = m.rest.takeWhile fun c => f c.toNat := by
  have h := run_le_left m f
  have e : m.ran f = m.rest.take (m.run f) := by
    unfold MSt.ran MSt.rest
    rw [List.take_drop]
  rw [e]
  unfold MSt.run
  exact (List.prefix_iff_eq_take.1 (List.takeWhile_prefix _)).symm

theorem rest_head {m : MSt} (h : m.has 1 = true) : m.rest = m.at0 :: (m.adv 1).rest := by
  have hl : m.r1 < m.t.length := by have : m.r1 + 1 ≤ m.t.length := by simpa [MSt.has] using h
                                    omega
  unfold MSt.rest MSt.at0 MSt.adv
  rw [List.drop_eq_getElem_cons hl]
  simp [List.getD, hl]

theorem ran_some {m : MSt} {f : Nat → Bool} (h : m.has 1 = true) (hf : f m.at0.toNat = true) : ∃ k, (m.ran f).length = k + 1 := by
  rw [ran_eq, rest_head h, List.takeWhile_cons, if_pos hf]
  exact ⟨_, rfl⟩

theorem BytesFar.init {D : Nat} {w : World} {b o k c : Nat} {l : List UInt8} (h : BytesFar D w (.slice (some ⟨b, o, none⟩) (k + 1) c) l) (hl : l.length = k + 1) : BytesFar D w (.slice (some ⟨b, o, none⟩) k c) l.dropLast := by
  obtain ⟨b1, o1, c1, he, h1, b', o', c', he', h2, h3, h4, h5⟩ := h
  simp only [Value.slice.injEq, Option.some.injEq, Addr.mk.injEq, and_true] at he he'
  obtain ⟨⟨rfl, rfl⟩, _, rfl⟩ := he
  obtain ⟨⟨rfl, rfl⟩, _, rfl⟩ := he'
  have hd : l.dropLast.length = k := by rw [List.length_dropLast, hl]; rfl
  refine ⟨b, o, c, by rw [hd], h1, b, o, c, by rw [hd], by omega, h3, h4, fun i hi => ?_⟩
  rw [h5 i (by omega)]
  simp

theorem getLast_at (l : List UInt8) (k : Nat) (h : l.length = k + 1) (x : UInt8) : l.getLast? = some x ↔ l[k]'(by omega) = x := by
  have e : l.length - 1 = k := by omega
  rw [List.getLast?_eq_getElem?, e, List.getElem?_eq_getElem (by omega)]
  simp

theorem far_cell {D : Nat} {w : World} {b o n c : Nat} {l : List UInt8} (h : BytesFar D w (.slice (some ⟨b, o, none⟩) n c) l) (i : Nat) (hi : i < l.length) : w.cell? ⟨b, o + i, none⟩ = some (.int .u8 (l[i].toNat : Int)) := by
  obtain ⟨b1, o1, c1, he, h1, b', o', c', he', h2, h3, h4, h5⟩ := h
  simp only [Value.slice.injEq, Option.some.injEq, Addr.mk.injEq, and_true] at he he'
  obtain ⟨⟨rfl, rfl⟩, _, rfl⟩ := he
  obtain ⟨⟨rfl, rfl⟩, _, rfl⟩ := he'
  exact h5 i hi

theorem u8_ne {c : UInt8} (n : Nat) (hn : n < 256) (h : c ≠ UInt8.ofNat n) : ((c.toNat : Int) == (n : Int)) = false := by
  rw [← Bool.not_eq_true]; exact fun e => h ((u8_eq _ n hn).1 e)

set_option maxHeartbeats 16000000 in
set_option maxRecDepth 100000 in
theorem field_core {w : World} {B D T E : Nat} {sk : Bool} {o : Option Flt} {m1 : MSt} (hDE : D ≠ E) (hok : m1.Ok)
    (hto : Calls Tryz.prog 50 #[.pointer (some ⟨D, 0, none⟩), .int .u8 2] w (DX B D T E sk w m1 (ToIs B 2 o m1))) :
    Calls Tryz.prog 34 #[.pointer (some ⟨D, 0, none⟩)] w (DX B D T E sk w (fieldOf o m1).1 (FieldIs B sk (fieldOf o m1).2)) := by
  have HTO := hid hto; clear hto
  have HOK1 := hid hok; clear hok
  go_enter Tryz.func34, Tryz.ntmps34
  go_wp2_with fail
  refine HTO.out.mono ?_; rintro e w1 ⟨E1, es1, v, rfl, hR, h1, st1, hl1⟩
  clear HTO
  have H1 := hid h1; clear h1
  have HS1 := hid st1; clear st1
  cases o with
  | some f =>
    obtain ⟨v2, hE, rfl⟩ := hR
    have HE := hid hE
    obtain ⟨XE, YE, rfl, hx1, hx2, hx3⟩ := hE
    clear hx1 hx2 hx3
    go_wp2_with fail
    ((try simp only [Exit.inBlock, Exit.then]); refine bodyPost_ret (results_tmp4 rfl _ _ _) rfl ?_)
    exact ⟨E1, es1, _, rfl, ⟨_, HE.out, rfl⟩, H1.out, HS1.out, hl1⟩
  | none =>
    simp only [ToIs] at hR
    subst hR
    by_cases hs2 : m1.sec = 2
    case neg =>
      have hb1 : (m1.sec == 2) = false := by rw [beq_eq_false_iff_ne]; exact hs2
      rw [hb1]
      have e1 : fieldOf none m1 = (m1, .none) := by unfold fieldOf mField; simp only; rw [if_pos hs2]
      have HE1 := hid e1; clear e1 hs2 hb1
      go_wp2_with fail
      ((try simp only [Exit.inBlock, Exit.then]); refine bodyPost_ret (results_tmp4 rfl _ _ _) rfl ?_)
      rw [HE1.out]
      exact ⟨E1, es1, _, rfl, rfl, H1.out, HS1.out, hl1⟩
    have hb1 : (m1.sec == 2) = true := by rw [beq_iff_eq]; exact hs2
    rw [hb1]
    have HS2 := hid hs2; clear hs2 hb1
    go_wp2_with fail
    refine (fieldKey_any _).mono ?_; rintro e w3 ⟨S, rfl, hS, hb3, hS3⟩
    have HSET := hid hS; clear hS
    have HB3 := hid hb3; clear hb3
    have HLS := hid hS3; clear hS3
    go_wp2_with fail
    refine (fieldE_any _).mono ?_; rintro e w4 ⟨X, rfl, hX, hb4, hX4⟩
    obtain ⟨hr4, hs4, hset4, hesc4, hSD, hSE, hXD, hXE⟩ := sets_ready H1.out HSET.out HB3.out HLS.out hX hb4 hX4
    have HR4 := hid hr4; clear hr4
    have HS4 := hid (HS1.out.trans (hs4.weak 0 H1.out.lt.2.2.1 H1.out.DE) (Nat.le_refl _) hDE); clear hs4 hX hb4 hX4
    obtain ⟨ok, hok⟩ : ∃ ok, Lib.validD (tok fieldKeyP tagE m1.rest).2 = ok := ⟨_, rfl⟩
    have HTK := hid (take_code HR4.out hl1 HOK1.out hset4 hesc4 hSD hSE hXD hXE tagE_ok ok hok)
    have HOK := hid hok
    clear hok hset4 hesc4 hSD hSE hXD hXE HSET HB3 HLS
    obtain ⟨b, hb⟩ : ∃ b, m1.tk fieldKeyP tagE = b := ⟨_, rfl⟩
    have HOKB := hid (show b.Ok by rw [← hb]; exact (adv_tk m1 _ _).ok HOK1.out)
    have hof := off_tk HR4.out fieldKeyP tagE
    rw [hb] at hof
    have HO := hid hof; clear hof
    have HO2 := hid (off_int HR4.out)
    have HBK := hid hb; clear hb
    cases ok
    case false =>
      go_wp2_with fail
      refine HTK.out.mono ?_; rintro e w5 ht; obtain ⟨E5, es5, v1, v3, rfl, hE, h5, st5, hl5⟩ := ht.bad
      rw [HBK.out] at h5 hl5 hE
      have H5 := hid h5; clear h5
      have HS5 := hid (HS4.out.trans st5 (Nat.zero_le _) hDE); clear st5 ht
      have HE := hid hE
      obtain ⟨XE, YE, rfl, hx1, hx2, hx3⟩ := hE
      clear hx1 hx2 hx3
      go_wp2_with fail
      ((try simp only [Exit.inBlock, Exit.then]); refine bodyPost_ret (results_tmp4 rfl _ _ _) rfl ?_)
      have e1 : fieldOf none m1 = (b.broke, .err (b.flt m1.off)) := by
        unfold fieldOf mField
        simp only
        rw [if_neg (by have := HS2.out; omega), if_pos (.inl HOK.out), HBK.out]
      rw [e1]
      exact ⟨E5, es5, _, rfl, ⟨_, HE.out, rfl⟩, H5.out, HS5.out, hl5⟩
    case true =>
      have hl := said_none m1 fieldKeyP tagE sk
      obtain ⟨l1, hl1'⟩ : ∃ l1, m1.said fieldKeyP tagE sk = l1 := ⟨_, rfl⟩
      have HL1 := hid hl1'
      obtain ⟨n, hn⟩ : ∃ n, (m1.said fieldKeyP tagE sk).length = n := ⟨_, rfl⟩
      rw [hn] at hl
      have HL := hid hl; clear hl
      rw [hl1'] at hn
      have HN := hid hn; clear hn hl1'
      go_wp2_with fail
      refine HTK.out.mono ?_; rintro e w5 ht; obtain ⟨E5, es5, v1, rfl, hbs, hL5, h5, st5, hl5, hl6⟩ := ht.good
      rw [HBK.out] at h5 hl6
      rw [HL1.out] at hbs
      have hfar := lies_far h5 hbs hL5
      have H5 := hid h5; clear h5
      have HS5 := hid (HS4.out.trans st5 (Nat.zero_le _) hDE); clear st5 ht
      have HFAR := hid hfar; clear hfar
      have HLIES := hid hL5
      obtain ⟨b5, o5, c5, rfl, hb51, hb52, hb53, hb54⟩ := hbs
      clear hb54 hL5 HTK HR4 HS4
      rw [HN.out] at hb51 ⊢
      by_cases hn0 : n = 0
      · subst hn0
        have ht0 : (tok fieldKeyP tagE m1.rest).1 = 0 := HL.out.1 rfl
        have e1 : fieldOf none m1 = (b.broke, .err (b.flt m1.off)) := by
          unfold fieldOf mField
          simp only
          rw [if_neg (by have := HS2.out; omega), if_pos (.inr ht0), HBK.out]
        have HE1 := hid e1; clear e1 ht0
        go_wp2_with fail
        refine (has_code H5.out 1 rfl).mono ?_; rintro e w7 ⟨rfl, n7, rfl⟩
        have H7 := hid (H5.out.drewN n7)
        have HS7 := hid (HS5.out.drewN n7)
        cases b.has 1
        all_goals
          go_wp2_with fail
          refine (errorsNew_any _ _).mono ?_; rintro e w17 ⟨rfl, rfl⟩
          go_wp2_with fail
          refine (fault_code (H7.out.alloc _) HOKB.out m1.off HO.out _ HO2.out _ H7.out.bSize).mono ?_
          rintro e w18 ⟨E18, v, rfl, hE, h18, st18⟩
          have HE := hid hE
          obtain ⟨XE, YE, rfl, hx1, hx2, hx3⟩ := hE
          clear hx1 hx2 hx3
          have H18 := hid h18; clear h18
          have HS18 := hid st18; clear st18
          go_wp2_with fail
          ((try simp only [Exit.inBlock, Exit.then]); refine bodyPost_ret (results_tmp4 rfl _ _ _) rfl ?_)
          rw [HE1.out]
          exact ⟨E18, _, _, rfl, ⟨_, HE.out, rfl⟩, H18.out, fault_end HS7.out hDE H7.out HS18.out, hl6⟩
      · have hnz : ((n : Int) == 0) = false := by rw [beq_eq_false_iff_ne]; omega
        have hmf : fieldOf none m1 = (if b.has 1 = false ∨ b.at0 ≠ 61 then (b.broke, .err (b.flt b.off)) else if (b.adv 1).has 1 = false then ((b.adv 1).broke, .err ((b.adv 1).flt (b.adv 1).off)) else match mVal (b.adv 1) with
          | (d, .inl f) => (d, .err f)
          | (d, .inr x) => match mBehind d with
            | (e, some f) => (e, .err f)
            | (e, none) => (e, .some ⟨(tok fieldKeyP tagE m1.rest).2, x.1, x.2⟩)) := by
          unfold fieldOf mField
          simp only
          rw [if_neg (by have := HS2.out; omega), if_neg (by
            rintro (h1 | h1)
            · rw [HOK.out] at h1; simp at h1
            · exact hn0 (HL.out.2 h1)), HBK.out]
          rfl
        have HMF := hid hmf; clear hmf hn0
        obtain ⟨hh, hhh⟩ : ∃ hh, b.has 1 = hh := ⟨_, rfl⟩
        have HHH := hid hhh
        have hcc := has_code H5.out 1 rfl
        rw [hhh] at hcc
        have HC := hid hcc; clear hcc hhh
        cases hh
        · have e1 : fieldOf none m1 = (b.broke, .err (b.flt b.off)) := by rw [HMF.out, if_pos (.inl HHH.out)]
          have HE1 := hid e1; clear e1
          go_wp2_with fail
          refine HC.out.mono ?_; rintro e w6 ⟨rfl, n6, rfl⟩
          go_wp2_with fail
          refine region34_14 (D := D) (m := b) (fun _ _ _ _ _ h => h) rfl rfl (H5.out.drewN n6) HOKB.out ?_
          intro w18 v hr18 st18 hE
          have HE := hid hE
          obtain ⟨XE, YE, rfl, hx1, hx2, hx3⟩ := hE
          clear hx1 hx2 hx3
          have H18 := hid hr18; clear hr18
          have HS18 := hid st18; clear st18
          simp only [putAll, Act.put, List.setIfInBounds_toArray, List.set_cons_zero, List.set_cons_succ]
          go_wp2_with fail
          ((try simp only [Exit.inBlock, Exit.then]); refine bodyPost_ret (results_tmp4 rfl _ _ _) rfl ?_)
          rw [HE1.out]
          exact ⟨_, _, _, rfl, ⟨_, HE.out, rfl⟩, H18.out, (HS5.out.drewN n6).trans (HS18.out.weak 0 (H5.out.drewN n6).lt.2.2.1 (H5.out.drewN n6).DE) (Nat.le_refl _) hDE, hl6⟩
        · go_wp2_with fail
          refine HC.out.mono ?_; rintro e w6 ⟨rfl, n6, rfl⟩
          go_wp2_with fail
          refine (at0_code (H5.out.drewN n6) 0 rfl).mono ?_; rintro e w7 ⟨rfl, n7, rfl⟩
          have H7 := hid ((H5.out.drewN n6).drewN n7)
          have HS7 := hid ((HS5.out.drewN n6).drewN n7)
          have HF7 := hid ((HFAR.out.drewN n6).drewN n7)
          generalize (w5.drewN n6).drewN n7 = w8 at H7 HS7 HF7 ⊢
          by_cases h61 : b.at0 = 61
          case neg =>
            have e61 : ((b.at0.toNat : Int) != 61) = true := by
              rw [bne_iff_ne]; exact fun e => h61 ((u8_eq _ 61 (by omega)).1 (by rw [beq_iff_eq]; exact e))
            have e1 : fieldOf none m1 = (b.broke, .err (b.flt b.off)) := by rw [HMF.out, if_pos (.inr h61)]
            have HE1 := hid e1; clear e1 h61
            go_wp2_with fail
            refine region34_17 (D := D) (m := b) (fun _ _ _ _ _ h => h) rfl rfl H7.out HOKB.out ?_
            intro w18 v hr18 st18 hE
            have HE := hid hE
            obtain ⟨XE, YE, rfl, hx1, hx2, hx3⟩ := hE
            clear hx1 hx2 hx3
            have H18 := hid hr18; clear hr18
            have HS18 := hid st18; clear st18
            simp only [putAll, Act.put, List.setIfInBounds_toArray, List.set_cons_zero, List.set_cons_succ]
            go_wp2_with fail
            ((try simp only [Exit.inBlock, Exit.then]); refine bodyPost_ret (results_tmp4 rfl _ _ _) rfl ?_)
            rw [HE1.out]
            exact ⟨_, _, _, rfl, ⟨_, HE.out, rfl⟩, H18.out, HS7.out.trans (HS18.out.weak 0 H7.out.lt.2.2.1 H7.out.DE) (Nat.le_refl _) hDE, hl6⟩
          case pos =>
            have e61 : ((b.at0.toNat : Int) != 61) = false := by rw [h61]; rfl
            have hmf2 := HMF.out
            rw [if_neg (by
              rintro (h1 | h1)
              · rw [HHH.out] at h1; simp at h1
              · exact h1 h61)] at hmf2
            have HMF1 := hid hmf2
            clear h61 hmf2
            go_wp2_with fail
            refine (adv_code H7.out HHH.out 1 rfl).mono ?_; rintro e w9 ⟨E9, v, rfl, rfl, h9, st9⟩
            obtain rfl : E9 = E5 := st9.esc
            have HF9 := hid (HF7.out.stp st9)
            have HS9 := hid (HS7.out.trans (st9.weak 0 H7.out.lt.2.2.1 H7.out.DE) (Nat.le_refl _) hDE)
            obtain ⟨c, hc⟩ : ∃ c, b.adv 1 = c := ⟨_, rfl⟩
            have HOKC := hid (show c.Ok by rw [← hc]; exact (adv_adv b 1).ok HOKB.out)
            have hlc : es5.length + c.r0 ≤ c.r1 := by rw [← hc]; show es5.length + b.r0 ≤ b.r1 + 1; omega
            have hmf2 := HMF1.out
            rw [hc] at hmf2 h9
            have HMF2 := hid hmf2
            have H9 := hid h9
            clear hmf2 h9 hc st9 HF7 HS7 H7 HS5 H5 HFAR HMF HC
            obtain ⟨hh2, hhh2⟩ : ∃ hh, c.has 1 = hh := ⟨_, rfl⟩
            have HHH2 := hid hhh2
            have hcc := has_code H9.out 1 rfl
            rw [hhh2] at hcc
            have HC := hid hcc; clear hcc hhh2
            cases hh2
            · have e1 : fieldOf none m1 = (c.broke, .err (c.flt c.off)) := by rw [HMF2.out, if_pos HHH2.out]
              have HE1 := hid e1; clear e1
              go_wp2_with fail
              refine HC.out.mono ?_; rintro e w10 ⟨rfl, n10, rfl⟩
              go_wp2_with fail
              refine region34_20 (D := D) (m := c) (fun _ _ _ _ _ h => h) rfl rfl (H9.out.drewN n10) HOKC.out ?_
              intro w18 v hr18 st18 hE
              have HE := hid hE
              obtain ⟨XE, YE, rfl, hx1, hx2, hx3⟩ := hE
              clear hx1 hx2 hx3
              have H18 := hid hr18; clear hr18
              have HS18 := hid st18; clear st18
              simp only [putAll, Act.put, List.setIfInBounds_toArray, List.set_cons_zero, List.set_cons_succ]
              go_wp2_with fail
              ((try simp only [Exit.inBlock, Exit.then]); refine bodyPost_ret (results_tmp4 rfl _ _ _) rfl ?_)
              rw [HE1.out]
              exact ⟨_, _, _, rfl, ⟨_, HE.out, rfl⟩, H18.out, (HS9.out.drewN n10).trans (HS18.out.weak 0 (H9.out.drewN n10).lt.2.2.1 (H9.out.drewN n10).DE) (Nat.le_refl _) hDE, hlc⟩
            · have hmf3 := HMF2.out
              rw [if_neg (by rw [HHH2.out]; simp)] at hmf3
              have HMF3 := hid hmf3; clear hmf3 HMF2
              go_wp2_with fail
              refine HC.out.mono ?_; rintro e w10 ⟨rfl, n10, rfl⟩
              have H10 := hid (H9.out.drewN n10)
              have HS10 := hid (HS9.out.drewN n10)
              have HF10 := hid (HF9.out.drewN n10)
              generalize w9.drewN n10 = w11 at H10 HS10 HF10 ⊢
              clear H9 HS9 HF9 HC
              go_upto_block 0 with (go_at_call 63; refine (at0_code H10.out 0 rfl).mono ?_; rintro e w12 ⟨rfl, n12, rfl⟩)
              have H12 := hid (H10.out.drewN n12)
              have HS12 := hid (HS10.out.drewN n12)
              have HF12 := hid (HF10.out.drewN n12)
              generalize w11.drewN n12 = w13 at H12 HS12 HF12 ⊢
              clear H10 HS10 HF10
              go_cut [11, 12] (fun u11 u12 wx => ValE B D T E sk w c (.slice (some ⟨b5, o5, none⟩) l1.length c5) l1 u11 u12 wx)
              case first =>
                by_cases h34 : c.at0 = 34
                case pos =>
                  as_aux_lemma =>
                    have e34 : (c.at0.toNat : Int) = 34 := by rw [h34]; rfl
                    have a34 : ((c.at0.toNat : Int) == 34) = true := by rw [e34]; rfl
                    obtain ⟨d, hd⟩ : ∃ d, c.adv 1 = d := ⟨_, rfl⟩
                    have HOKD := hid (show d.Ok by rw [← hd]; exact (adv_adv c 1).ok HOKC.out)
                    have hmv : mVal c = (if Lib.validD (tok strValP strE d.rest).2 = false then ((d.tk strValP strE).broke, .inl ((d.tk strValP strE).flt d.off)) else if (d.tk strValP strE).has 1 = false then ((d.tk strValP strE).broke, .inl ((d.tk strValP strE).flt (d.off - 1))) else ((d.tk strValP strE).adv 1, .inr (1, (tok strValP strE d.rest).2))) := by
                      unfold mVal; rw [if_pos h34, hd]
                    have HMV := hid hmv
                    have hld : es5.length + d.r0 ≤ d.r1 := by rw [← hd]; show es5.length + c.r0 ≤ c.r1 + 1; omega
                    have hd1 : 1 ≤ d.off := by rw [← hd]; unfold MSt.off; show 1 ≤ c.r1 + 1 - c.r0; have := H12.out.le0; simp only [MSt.d] at this; omega
                    have HD1 := hid hd1
                    have HDD := hid hd
                    clear h34 e34 hmv hd hd1
                    go_wp2_with fail
                    refine (adv_code H12.out HHH2.out 1 rfl).mono ?_; rintro e w14 ⟨E14, v, rfl, rfl, h14, st14⟩
                    obtain rfl : E14 = E9 := st14.esc
                    rw [HDD.out] at h14
                    have H14 := hid h14
                    have HF14 := hid (HF12.out.stp st14)
                    have HS14 := hid (HS12.out.trans (st14.weak 0 H12.out.lt.2.2.1 H12.out.DE) (Nat.le_refl _) hDE)
                    clear st14 h14 H12 HS12 HF12
                    go_wp2_with fail
                    refine (strVal_any _).mono ?_; rintro e w15 ⟨S2, rfl, hS, hb15, hS15⟩
                    have HSET2 := hid hS; clear hS
                    have HB15 := hid hb15; clear hb15
                    have HLS2 := hid hS15; clear hS15
                    go_wp2_with fail
                    refine (strE_any _).mono ?_; rintro e w16 ⟨X2, rfl, hX, hb16, hX16⟩
                    obtain ⟨hr16, hs16, hset16, hesc16, hSD, hSE, hXD, hXE⟩ := sets_ready H14.out HSET2.out HB15.out HLS2.out hX hb16 hX16
                    have HF16 := hid ((HF14.out.below HB15.out).below hb16)
                    have HR16 := hid hr16; clear hr16
                    have HS16 := hid (HS14.out.trans (hs16.weak 0 H14.out.lt.2.2.1 H14.out.DE) (Nat.le_refl _) hDE); clear hs16 hX hb16 hX16
                    obtain ⟨ok2, hok2⟩ : ∃ ok, Lib.validD (tok strValP strE d.rest).2 = ok := ⟨_, rfl⟩
                    have HTK2 := hid (take_code HR16.out hld HOKD.out hset16 hesc16 hSD hSE hXD hXE strE_ok ok2 hok2)
                    have HOK2 := hid hok2
                    clear hok2 hset16 hesc16 hSD hSE hXD hXE HSET2 HB15 HLS2 HF14 HS14 H14
                    obtain ⟨g, hg⟩ : ∃ g, d.tk strValP strE = g := ⟨_, rfl⟩
                    have HOKG := hid (show g.Ok by rw [← hg]; exact (adv_tk d _ _).ok HOKD.out)
                    have hof := off_tk HR16.out strValP strE
                    rw [hg] at hof
                    have HOF := hid hof; clear hof
                    have HOF2 := hid (off_int HR16.out)
                    have HGG := hid hg; clear hg
                    cases ok2
                    case false =>
                      go_wp2_with fail
                      refine HTK2.out.mono ?_; rintro e w20 ht; obtain ⟨E20, es20, v1, v3, rfl, hE, h20, st20, hl20⟩ := ht.bad
                      rw [HGG.out] at h20 hl20 hE
                      have H20 := hid h20; clear h20
                      have HS20 := hid (HS16.out.trans st20 (Nat.zero_le _) hDE); clear st20 ht
                      have HE := hid hE
                      obtain ⟨XE, YE, rfl, hx1, hx2, hx3⟩ := hE
                      clear hx1 hx2 hx3
                      have e1 : fieldOf none m1 = (g.broke, .err (g.flt d.off)) := by
                        rw [HMF3.out, HMV.out, if_pos HOK2.out, HGG.out]
                      have HE1 := hid e1; clear e1
                      go_wp2_with fail
                      ((try simp only [Exit.inBlock, Exit.then]); refine bodyPost_ret (results_tmp4 rfl _ _ _) rfl ?_)
                      rw [HE1.out]
                      exact ⟨E20, es20, _, rfl, ⟨_, HE.out, rfl⟩, H20.out, HS20.out, hl20⟩
                    case true =>
                      obtain ⟨l2, hl2'⟩ : ∃ l2, d.said strValP strE sk = l2 := ⟨_, rfl⟩
                      have HL2 := hid hl2'; clear hl2'
                      have hmv2 := HMV.out
                      rw [if_neg (by rw [HOK2.out]; simp), HGG.out] at hmv2
                      have HMV2 := hid hmv2; clear hmv2
                      go_wp2_with fail
                      refine HTK2.out.mono ?_; rintro e w20 ht; obtain ⟨E20, es20, v2, rfl, hbs, hL20, h20, st20, hl20, hl21⟩ := ht.good
                      rw [HGG.out] at h20 hl21
                      rw [HL2.out] at hbs
                      have hfar2 := lies_far h20 hbs hL20
                      have HFV := hid hfar2
                      have HKEY := hid (far_stw HR16.out HF16.out HLIES.out st20)
                      have H20 := hid h20; clear h20
                      have HS20 := hid (HS16.out.trans st20 (Nat.zero_le _) hDE); clear st20 ht
                      obtain ⟨b20, o20, c20, rfl, hb201, hb202, hb203, hb204⟩ := hbs
                      clear hb204 hb201 hb202 hb203 hfar2 hL20
                      obtain ⟨hh3, hhh3⟩ : ∃ hh, g.has 1 = hh := ⟨_, rfl⟩
                      have HHH3 := hid hhh3
                      have hcc := has_code H20.out 1 rfl
                      rw [hhh3] at hcc
                      have HC := hid hcc; clear hcc hhh3
                      cases hh3
                      · have e1 : fieldOf none m1 = (g.broke, .err (g.flt (d.off - 1))) := by rw [HMF3.out, HMV2.out, if_pos HHH3.out]
                        have HE1 := hid e1; clear e1
                        have HO3 := hid (show g.r0 + (d.off - 1) ≤ g.r1 by have := HOF.out; omega)
                        have HO4 := hid (show (d.r1 : Int) - (d.r0 : Int) - 1 = ((d.off - 1 : Nat) : Int) by have := HOF2.out; have := HD1.out; omega)
                        have hx1 : (1 : Int) ≤ (d.r1 : Int) - (d.r0 : Int) := by have := HOF2.out; have := HD1.out; omega
                        have hx2 : (d.r1 : Int) - (d.r0 : Int) ≤ 900 := by have := HR16.out.le1; have := HR16.out.small; simp only [MSt.d] at *; omega
                        go_wp2_with fail
                        refine HC.out.mono ?_; rintro e w21 ⟨rfl, n21, rfl⟩
                        go_wp2_with fail
                        refine (errorsNew_any _ _).mono ?_; rintro e w17 ⟨rfl, rfl⟩
                        go_wp2_with fail
                        refine (fault_code ((H20.out.drewN n21).alloc _) HOKG.out (d.off - 1) HO3.out _ HO4.out _ H20.out.bSize).mono ?_
                        rintro e w18 ⟨E18, v, rfl, hE, h18, st18⟩
                        have HE := hid hE
                        obtain ⟨XE, YE, rfl, hx1, hx2, hx3⟩ := hE
                        clear hx1 hx2 hx3
                        have H18 := hid h18; clear h18
                        have HS18 := hid st18; clear st18
                        go_wp2_with fail
                        ((try simp only [Exit.inBlock, Exit.then]); refine bodyPost_ret (results_tmp4 rfl _ _ _) rfl ?_)
                        rw [HE1.out]
                        exact ⟨E18, _, _, rfl, ⟨_, HE.out, rfl⟩, H18.out, fault_end (HS20.out.drewN n21) hDE (H20.out.drewN n21) HS18.out, hl21⟩
                      · have hnx := tok_next strValP strE d.rest.length d.rest (Nat.le_refl _)
                        have hg34 : g.at0 = 34 := by
                          have hgl : g.r1 < g.t.length := by have : g.r1 + 1 ≤ g.t.length := by simpa [MSt.has] using HHH3.out
                                                             omega
                          have hgr : g.r1 = d.r1 + (tok strValP strE d.rest).1 := by rw [← HGG.out]; rfl
                          have hgt : g.t = d.t := by rw [← HGG.out]; rfl
                          have hlt : (tok strValP strE d.rest).1 < d.rest.length := by rw [rest_length]; unfold MSt.left; rw [hgt] at hgl; omega
                          have h2 := (hnx hlt).2
                          rw [hgr, hgt] at hgl
                          have h3 : d.rest[(tok strValP strE d.rest).1]'hlt = g.at0 := by
                            refine (rest_at (d.d []) (tok strValP strE d.rest).1 hlt).trans ?_
                            unfold MSt.at0
                            rw [hgr, hgt]
                            simp only [Nat.add_zero, List.getD, List.getElem?_eq_getElem hgl, Option.getD_some]
                            rfl
                          rw [h3] at h2
                          simp only [strValP, Bool.not_eq_false', beq_iff_eq] at h2
                          exact UInt8.toNat_inj.1 h2
                        have e34 : ((g.at0.toNat : Int) != 34) = false := by rw [hg34]; rfl
                        clear hnx hg34
                        have hmv3 := HMV2.out
                        rw [if_neg (by rw [HHH3.out]; simp)] at hmv3
                        have HMV3 := hid hmv3; clear hmv3
                        go_wp2_with fail
                        refine HC.out.mono ?_; rintro e w21 ⟨rfl, n21, rfl⟩
                        go_wp2_with fail
                        refine (at0_code (H20.out.drewN n21) 0 rfl).mono ?_; rintro e w22 ⟨rfl, n22, rfl⟩
                        go_wp2_with fail
                        refine (adv_code (H20.out.drewN _) HHH3.out 1 rfl).mono ?_; rintro e w23 ⟨E23, v, rfl, rfl, h23, st23⟩
                        obtain rfl : E23 = E20 := st23.esc
                        go_wp2_with fail
                        go_meet
                        refine ⟨_, _, E23, es20, l2, HMV3.out, (HFV.out.drewN _).stp st23, fun hs => ?_, rfl, (HKEY.out.drewN _).stp st23, h23, (HS20.out.drewN _).trans (st23.weak 0 H20.out.lt.2.2.1 H20.out.DE) (Nat.le_refl _) hDE, ?_⟩
                        · rw [← HL2.out]
                          unfold MSt.said
                          rw [if_neg (by rw [hs]; simp)]
                        · show es20.length + g.r0 ≤ g.r1 + 1
                          omega
                have f34 := u8_ne 34 (by omega) h34
                by_cases hT : c.at0 = 116 ∨ c.at0 = 84 ∨ c.at0 = 102 ∨ c.at0 = 70
                case pos =>
                  as_aux_lemma =>
                    have hm : mVal c = (c.skip fieldValP, .inr (5, c.ran fieldValP)) := by unfold mVal; rw [if_neg h34, if_pos hT]
                    have HM := hid hm; clear hm h34
                    have hTx : (c.at0.toNat : Int) = 116 ∨ (c.at0.toNat : Int) = 84 ∨ (c.at0.toNat : Int) = 102 ∨ (c.at0.toNat : Int) = 70 := by
                      rcases hT with h | h | h | h <;> rw [h] <;> decide
                    have HTX := hid hTx; clear hTx hT
                    go_upto_if 149 with fail
                    go_cut [149] (fun u149 wx => u149 = .bool true ∧ wx = w13)
                    case first =>
                      as_aux_lemma =>
                        rcases HTX.out with h | h | h | h
                        · have a116 : ((c.at0.toNat : Int) == 116) = true := by rw [h]; rfl
                          clear h
                          go_wp2_with fail
                          go_meet
                          exact ⟨by rw [a116], rfl⟩
                        · have a116 : ((c.at0.toNat : Int) == 116) = false := by rw [h]; rfl
                          have a84 : ((c.at0.toNat : Int) == 84) = true := by rw [h]; rfl
                          clear h
                          go_wp2_with fail
                          go_meet
                          exact ⟨rfl, rfl⟩
                        · have a116 : ((c.at0.toNat : Int) == 116) = false := by rw [h]; rfl
                          have a84 : ((c.at0.toNat : Int) == 84) = false := by rw [h]; rfl
                          have a102 : ((c.at0.toNat : Int) == 102) = true := by rw [h]; rfl
                          clear h
                          go_wp2_with fail
                          go_meet
                          exact ⟨rfl, rfl⟩
                        · have a116 : ((c.at0.toNat : Int) == 116) = false := by rw [h]; rfl
                          have a84 : ((c.at0.toNat : Int) == 84) = false := by rw [h]; rfl
                          have a102 : ((c.at0.toNat : Int) == 102) = false := by rw [h]; rfl
                          have a70 : ((c.at0.toNat : Int) == 70) = true := by rw [h]; rfl
                          clear h
                          go_wp2_with fail
                          go_meet
                          exact ⟨rfl, rfl⟩
                    case rest =>
                      as_aux_lemma =>
                        obtain ⟨rfl, rfl⟩ := hcut
                        go_wp2_with fail
                        refine (fieldVal_any _).mono ?_; rintro e w14 ⟨S2, rfl, hS, hb14, hS14⟩
                        have HR14 := hid (H12.out.below hb14)
                        have HS14 := hid ((HS12.out.trans (((Stp.refl D E9 wc).below hb14).weak 0 H12.out.lt.2.2.1 H12.out.DE) (Nat.le_refl _) hDE))
                        have HF14 := hid (HF12.out.below hb14)
                        have HSET2 := hid hS
                        have hlt := H12.out.lt
                        have hSD2 : D < S2 := by omega
                        clear hS hb14 hS14 hlt
                        go_wp2_with fail
                        refine (take_far HR14.out HSET2.out hSD2).mono ?_
                        rintro e w15 ⟨E15, v, rfl, hraw, h15, st15⟩
                        obtain rfl : E15 = E9 := st15.esc
                        go_wp2_with fail
                        go_meet
                        exact ⟨_, _, E15, es5, _, HM.out, hraw, fun _ => rfl, rfl, HF14.out.stp st15, h15, HS14.out.trans (st15.weak 0 HR14.out.lt.2.2.1 HR14.out.DE) (Nat.le_refl _) hDE, by show es5.length + c.r0 ≤ c.r1 + _; omega⟩
                have f116 := u8_ne (c := c.at0) 116 (by omega) (fun e => hT (.inl e))
                have f84 := u8_ne (c := c.at0) 84 (by omega) (fun e => hT (.inr (.inl e)))
                have f102 := u8_ne (c := c.at0) 102 (by omega) (fun e => hT (.inr (.inr (.inl e))))
                have f70 := u8_ne (c := c.at0) 70 (by omega) (fun e => hT (.inr (.inr (.inr e))))
                by_cases hN : c.at0 = 45 ∨ c.at0 = 46 ∨ (48 ≤ c.at0.toNat ∧ c.at0.toNat ≤ 57)
                case pos =>
                  as_aux_lemma =>
                    have hm : mVal c = (c.skip fieldValP, .inr (numOf (c.ran fieldValP))) := by unfold mVal; rw [if_neg h34, if_neg hT, if_pos hN]
                    have HM := hid hm; clear hm h34 hT
                    have hNx : (c.at0.toNat : Int) = 45 ∨ (c.at0.toNat : Int) = 48 ∨ (c.at0.toNat : Int) = 49 ∨ (c.at0.toNat : Int) = 50 ∨ (c.at0.toNat : Int) = 51 ∨ (c.at0.toNat : Int) = 52 ∨ (c.at0.toNat : Int) = 53 ∨ (c.at0.toNat : Int) = 54 ∨ (c.at0.toNat : Int) = 55 ∨ (c.at0.toNat : Int) = 56 ∨ (c.at0.toNat : Int) = 57 ∨ (c.at0.toNat : Int) = 46 := by
                      rcases hN with h | h | h
                      · rw [h]; decide
                      · rw [h]; decide
                      · omega
                    have HNX := hid hNx
                    have hfv : fieldValP c.at0.toNat = true := by
                      have hx : c.at0.toNat ≠ 44 ∧ c.at0.toNat ≠ 32 ∧ c.at0.toNat ≠ 13 ∧ c.at0.toNat ≠ 10 := by omega
                      simp [fieldValP, hx.1, hx.2.1, hx.2.2.1, hx.2.2.2]
                    obtain ⟨k, hkl⟩ := ran_some HHH2.out hfv
                    obtain ⟨raw, hraw0⟩ : ∃ raw, c.ran fieldValP = raw := ⟨_, rfl⟩
                    rw [hraw0] at hkl
                    have HRW := hid hraw0
                    have HKL := hid hkl
                    clear hNx hN hfv hkl hraw0
                    go_upto_if 157 with fail
                    go_cut [157] (fun u157 wx => u157 = .bool true ∧ wx = w13)
                    case first =>
                      as_aux_lemma =>
                        rcases HNX.out with h | h | h | h | h | h | h | h | h | h | h | h
                        · have a45 : ((c.at0.toNat : Int) == 45) = true := by rw [h]; rfl
                          clear h
                          go_wp2_with fail
                          go_meet
                          exact ⟨by rw [a45], rfl⟩
                        · have a45 : ((c.at0.toNat : Int) == 45) = false := by rw [h]; rfl
                          have a48 : ((c.at0.toNat : Int) == 48) = true := by rw [h]; rfl
                          clear h
                          go_wp2_with fail
                          go_meet
                          exact ⟨rfl, rfl⟩
                        · have a45 : ((c.at0.toNat : Int) == 45) = false := by rw [h]; rfl
                          have a48 : ((c.at0.toNat : Int) == 48) = false := by rw [h]; rfl
                          have a49 : ((c.at0.toNat : Int) == 49) = true := by rw [h]; rfl
                          clear h
                          go_wp2_with fail
                          go_meet
                          exact ⟨rfl, rfl⟩
                        · have a45 : ((c.at0.toNat : Int) == 45) = false := by rw [h]; rfl
                          have a48 : ((c.at0.toNat : Int) == 48) = false := by rw [h]; rfl
                          have a49 : ((c.at0.toNat : Int) == 49) = false := by rw [h]; rfl
                          have a50 : ((c.at0.toNat : Int) == 50) = true := by rw [h]; rfl
                          clear h
                          go_wp2_with fail
                          go_meet
                          exact ⟨rfl, rfl⟩
                        · have a45 : ((c.at0.toNat : Int) == 45) = false := by rw [h]; rfl
                          have a48 : ((c.at0.toNat : Int) == 48) = false := by rw [h]; rfl
                          have a49 : ((c.at0.toNat : Int) == 49) = false := by rw [h]; rfl
                          have a50 : ((c.at0.toNat : Int) == 50) = false := by rw [h]; rfl
                          have a51 : ((c.at0.toNat : Int) == 51) = true := by rw [h]; rfl
                          clear h
                          go_wp2_with fail
                          go_meet
                          exact ⟨rfl, rfl⟩
                        · have a45 : ((c.at0.toNat : Int) == 45) = false := by rw [h]; rfl
                          have a48 : ((c.at0.toNat : Int) == 48) = false := by rw [h]; rfl
                          have a49 : ((c.at0.toNat : Int) == 49) = false := by rw [h]; rfl
                          have a50 : ((c.at0.toNat : Int) == 50) = false := by rw [h]; rfl
                          have a51 : ((c.at0.toNat : Int) == 51) = false := by rw [h]; rfl
                          have a52 : ((c.at0.toNat : Int) == 52) = true := by rw [h]; rfl
                          clear h
                          go_wp2_with fail
                          go_meet
                          exact ⟨rfl, rfl⟩
                        · have a45 : ((c.at0.toNat : Int) == 45) = false := by rw [h]; rfl
                          have a48 : ((c.at0.toNat : Int) == 48) = false := by rw [h]; rfl
                          have a49 : ((c.at0.toNat : Int) == 49) = false := by rw [h]; rfl
                          have a50 : ((c.at0.toNat : Int) == 50) = false := by rw [h]; rfl
                          have a51 : ((c.at0.toNat : Int) == 51) = false := by rw [h]; rfl
                          have a52 : ((c.at0.toNat : Int) == 52) = false := by rw [h]; rfl
                          have a53 : ((c.at0.toNat : Int) == 53) = true := by rw [h]; rfl
                          clear h
                          go_wp2_with fail
                          go_meet
                          exact ⟨rfl, rfl⟩
                        · have a45 : ((c.at0.toNat : Int) == 45) = false := by rw [h]; rfl
                          have a48 : ((c.at0.toNat : Int) == 48) = false := by rw [h]; rfl
                          have a49 : ((c.at0.toNat : Int) == 49) = false := by rw [h]; rfl
                          have a50 : ((c.at0.toNat : Int) == 50) = false := by rw [h]; rfl
                          have a51 : ((c.at0.toNat : Int) == 51) = false := by rw [h]; rfl
                          have a52 : ((c.at0.toNat : Int) == 52) = false := by rw [h]; rfl
                          have a53 : ((c.at0.toNat : Int) == 53) = false := by rw [h]; rfl
                          have a54 : ((c.at0.toNat : Int) == 54) = true := by rw [h]; rfl
                          clear h
                          go_wp2_with fail
                          go_meet
                          exact ⟨rfl, rfl⟩
                        · have a45 : ((c.at0.toNat : Int) == 45) = false := by rw [h]; rfl
                          have a48 : ((c.at0.toNat : Int) == 48) = false := by rw [h]; rfl
                          have a49 : ((c.at0.toNat : Int) == 49) = false := by rw [h]; rfl
                          have a50 : ((c.at0.toNat : Int) == 50) = false := by rw [h]; rfl
                          have a51 : ((c.at0.toNat : Int) == 51) = false := by rw [h]; rfl
                          have a52 : ((c.at0.toNat : Int) == 52) = false := by rw [h]; rfl
                          have a53 : ((c.at0.toNat : Int) == 53) = false := by rw [h]; rfl
                          have a54 : ((c.at0.toNat : Int) == 54) = false := by rw [h]; rfl
                          have a55 : ((c.at0.toNat : Int) == 55) = true := by rw [h]; rfl
                          clear h
                          go_wp2_with fail
                          go_meet
                          exact ⟨rfl, rfl⟩
                        · have a45 : ((c.at0.toNat : Int) == 45) = false := by rw [h]; rfl
                          have a48 : ((c.at0.toNat : Int) == 48) = false := by rw [h]; rfl
                          have a49 : ((c.at0.toNat : Int) == 49) = false := by rw [h]; rfl
                          have a50 : ((c.at0.toNat : Int) == 50) = false := by rw [h]; rfl
                          have a51 : ((c.at0.toNat : Int) == 51) = false := by rw [h]; rfl
                          have a52 : ((c.at0.toNat : Int) == 52) = false := by rw [h]; rfl
                          have a53 : ((c.at0.toNat : Int) == 53) = false := by rw [h]; rfl
                          have a54 : ((c.at0.toNat : Int) == 54) = false := by rw [h]; rfl
                          have a55 : ((c.at0.toNat : Int) == 55) = false := by rw [h]; rfl
                          have a56 : ((c.at0.toNat : Int) == 56) = true := by rw [h]; rfl
                          clear h
                          go_wp2_with fail
                          go_meet
                          exact ⟨rfl, rfl⟩
                        · have a45 : ((c.at0.toNat : Int) == 45) = false := by rw [h]; rfl
                          have a48 : ((c.at0.toNat : Int) == 48) = false := by rw [h]; rfl
                          have a49 : ((c.at0.toNat : Int) == 49) = false := by rw [h]; rfl
                          have a50 : ((c.at0.toNat : Int) == 50) = false := by rw [h]; rfl
                          have a51 : ((c.at0.toNat : Int) == 51) = false := by rw [h]; rfl
                          have a52 : ((c.at0.toNat : Int) == 52) = false := by rw [h]; rfl
                          have a53 : ((c.at0.toNat : Int) == 53) = false := by rw [h]; rfl
                          have a54 : ((c.at0.toNat : Int) == 54) = false := by rw [h]; rfl
                          have a55 : ((c.at0.toNat : Int) == 55) = false := by rw [h]; rfl
                          have a56 : ((c.at0.toNat : Int) == 56) = false := by rw [h]; rfl
                          have a57 : ((c.at0.toNat : Int) == 57) = true := by rw [h]; rfl
                          clear h
                          go_wp2_with fail
                          go_meet
                          exact ⟨rfl, rfl⟩
                        · have a45 : ((c.at0.toNat : Int) == 45) = false := by rw [h]; rfl
                          have a48 : ((c.at0.toNat : Int) == 48) = false := by rw [h]; rfl
                          have a49 : ((c.at0.toNat : Int) == 49) = false := by rw [h]; rfl
                          have a50 : ((c.at0.toNat : Int) == 50) = false := by rw [h]; rfl
                          have a51 : ((c.at0.toNat : Int) == 51) = false := by rw [h]; rfl
                          have a52 : ((c.at0.toNat : Int) == 52) = false := by rw [h]; rfl
                          have a53 : ((c.at0.toNat : Int) == 53) = false := by rw [h]; rfl
                          have a54 : ((c.at0.toNat : Int) == 54) = false := by rw [h]; rfl
                          have a55 : ((c.at0.toNat : Int) == 55) = false := by rw [h]; rfl
                          have a56 : ((c.at0.toNat : Int) == 56) = false := by rw [h]; rfl
                          have a57 : ((c.at0.toNat : Int) == 57) = false := by rw [h]; rfl
                          have a46 : ((c.at0.toNat : Int) == 46) = true := by rw [h]; rfl
                          clear h
                          go_wp2_with fail
                          go_meet
                          exact ⟨rfl, rfl⟩
                    case rest =>
                      as_aux_lemma =>
                        obtain ⟨rfl, rfl⟩ := hcut
                        go_wp2_with fail
                        refine (fieldVal_any _).mono ?_; rintro e w14 ⟨S2, rfl, hS, hb14, hS14⟩
                        have HR14 := hid (H12.out.below hb14)
                        have HS14 := hid ((HS12.out.trans (((Stp.refl D E9 wc).below hb14).weak 0 H12.out.lt.2.2.1 H12.out.DE) (Nat.le_refl _) hDE))
                        have HF14 := hid (HF12.out.below hb14)
                        have HSET2 := hid hS
                        have hlt := H12.out.lt
                        have hSD2 : D < S2 := by omega
                        clear hS hb14 hS14 hlt
                        go_wp2_with fail
                        refine (take_far HR14.out HSET2.out hSD2).mono ?_
                        rintro e w15 ⟨E15, v, rfl, hraw, h15, st15⟩
                        obtain rfl : E15 = E9 := st15.esc
                        rw [HRW.out] at hraw
                        have hfar := hraw
                        obtain ⟨b6, o6, c6, rfl, hb6D, hbi⟩ := hraw
                        rw [HKL.out] at hfar ⊢
                        have hc6 : k + 1 ≤ c6 := by
                          obtain ⟨_, _, _, he, h1, _⟩ := hbi
                          simp only [Value.slice.injEq] at he
                          have := HKL.out
                          omega
                        have hc7 : c6 ≤ maxLen := by
                          obtain ⟨_, _, _, he, _, h1, _⟩ := hbi
                          simp only [Value.slice.injEq] at he
                          omega
                        have hcell := far_cell hfar k (by rw [HKL.out]; omega)
                        obtain ⟨y, hy⟩ : ∃ y, raw[k]'(by rw [HKL.out]; omega) = y := ⟨_, rfl⟩
                        rw [hy] at hcell
                        have HY := hid hy; clear hy hbi
                        have HFAR2 := hid hfar
                        have H15 := hid h15; clear h15
                        have HS15 := hid (HS14.out.trans (st15.weak 0 HR14.out.lt.2.2.1 HR14.out.DE) (Nat.le_refl _) hDE)
                        have HF15 := hid (HF14.out.stp st15)
                        have hlc2 : es5.length + (c.skip fieldValP).r0 ≤ (c.skip fieldValP).r1 := by show es5.length + c.r0 ≤ c.r1 + _; omega
                        unfold maxLen at hc7
                        have hk5 : (k : Int) < (k : Int) + 1 := by omega
                        have hk0 : (0 : Int) ≤ (k : Int) := by omega
                        have hk2 : (k : Int) < ((k + 1 : Nat) : Int) := by omega
                        have hk3 : (k : Int) ≤ (c6 : Int) := by omega
                        have hk4 : ¬ c6 = 0 := by omega
                        clear hfar st15 HR14 HS14 HF14 HSET2
                        as_aux_lemma =>
                          by_cases h105 : y = 105
                          · have e105 : (y.toNat : Int) = 105 := by rw [h105]; rfl
                            rw [e105] at hcell
                            have hnum : numOf raw = (2, raw.dropLast) := by unfold numOf; rw [if_pos ((getLast_at raw k HKL.out 105).2 (by rw [HY.out]; exact h105))]
                            have HNUM := hid hnum; clear hnum h105 e105
                            go_wp2_with fail
                            go_meet
                            exact ⟨_, _, E15, es5, _, HM.out, by rw [HRW.out, HNUM.out]; exact HFAR2.out.init HKL.out, fun _ => rfl, by rw [HRW.out, HNUM.out]; rfl, HF15.out, H15.out, HS15.out, hlc2⟩
                          · have f105 : ((y.toNat : Int) == 105) = false := u8_ne 105 (by omega) h105
                            by_cases h117 : y = 117
                            · have e117 : (y.toNat : Int) = 117 := by rw [h117]; rfl
                              rw [e117] at hcell f105
                              have hnum : numOf raw = (3, raw.dropLast) := by
                                unfold numOf
                                rw [if_neg (fun e => h105 (by rw [← HY.out]; exact (getLast_at raw k HKL.out 105).1 e)), if_pos ((getLast_at raw k HKL.out 117).2 (by rw [HY.out]; exact h117))]
                              have HNUM := hid hnum; clear hnum h117 e117 h105
                              go_wp2_with fail
                              go_meet
                              exact ⟨_, _, E15, es5, _, HM.out, by rw [HRW.out, HNUM.out]; exact HFAR2.out.init HKL.out, fun _ => rfl, by rw [HRW.out, HNUM.out]; rfl, HF15.out, H15.out, HS15.out, hlc2⟩
                            · have f117 : ((y.toNat : Int) == 117) = false := u8_ne 117 (by omega) h117
                              have hnum : numOf raw = (4, raw) := by
                                unfold numOf
                                rw [if_neg (fun e => h105 (by rw [← HY.out]; exact (getLast_at raw k HKL.out 105).1 e)), if_neg (fun e => h117 (by rw [← HY.out]; exact (getLast_at raw k HKL.out 117).1 e))]
                              have HNUM := hid hnum; clear hnum h117 h105
                              go_wp2_with fail
                              go_meet
                              exact ⟨_, _, E15, es5, _, HM.out, by rw [HRW.out, HNUM.out]; exact HFAR2.out, fun _ => rfl, by rw [HRW.out, HNUM.out]; rfl, HF15.out, H15.out, HS15.out, hlc2⟩
                as_aux_lemma =>
                  have hge : ¬ (48 ≤ c.at0.toNat ∧ c.at0.toNat ≤ 57) := fun e => hN (.inr (.inr e))
                  have f45 := u8_ne (c := c.at0) 45 (by omega) (fun e => hN (.inl e))
                  have f46 := u8_ne (c := c.at0) 46 (by omega) (fun e => hN (.inr (.inl e)))
                  have f48 : ((c.at0.toNat : Int) == 48) = false := by rw [beq_eq_false_iff_ne]; omega
                  have f49 : ((c.at0.toNat : Int) == 49) = false := by rw [beq_eq_false_iff_ne]; omega
                  have f50 : ((c.at0.toNat : Int) == 50) = false := by rw [beq_eq_false_iff_ne]; omega
                  have f51 : ((c.at0.toNat : Int) == 51) = false := by rw [beq_eq_false_iff_ne]; omega
                  have f52 : ((c.at0.toNat : Int) == 52) = false := by rw [beq_eq_false_iff_ne]; omega
                  have f53 : ((c.at0.toNat : Int) == 53) = false := by rw [beq_eq_false_iff_ne]; omega
                  have f54 : ((c.at0.toNat : Int) == 54) = false := by rw [beq_eq_false_iff_ne]; omega
                  have f55 : ((c.at0.toNat : Int) == 55) = false := by rw [beq_eq_false_iff_ne]; omega
                  have f56 : ((c.at0.toNat : Int) == 56) = false := by rw [beq_eq_false_iff_ne]; omega
                  have f57 : ((c.at0.toNat : Int) == 57) = false := by rw [beq_eq_false_iff_ne]; omega
                  have e1 : fieldOf none m1 = (c.broke, .err (c.flt c.off)) := by
                    rw [HMF3.out]
                    have : mVal c = (c.broke, .inl (c.flt c.off)) := by unfold mVal; rw [if_neg h34, if_neg hT, if_neg hN]
                    rw [this]
                  have HE1 := hid e1; clear e1 h34 hT hN hge
                  go_wp2_with fail
                  refine region34_24 (D := D) (m := c) (fun _ _ _ _ _ h => h) rfl rfl H12.out HOKC.out ?_
                  intro w18 v hr18 st18 hE
                  have HE := hid hE
                  obtain ⟨XE, YE, rfl, hx1, hx2, hx3⟩ := hE
                  clear hx1 hx2 hx3
                  have H18 := hid hr18; clear hr18
                  have HS18 := hid st18; clear st18
                  simp only [putAll, Act.put, List.setIfInBounds_toArray, List.set_cons_zero, List.set_cons_succ]
                  go_wp2_with fail
                  ((try simp only [Exit.inBlock, Exit.then]); refine bodyPost_ret (results_tmp4 rfl _ _ _) rfl ?_)
                  rw [HE1.out]
                  exact ⟨_, _, _, rfl, ⟨_, HE.out, rfl⟩, H18.out, HS12.out.trans (HS18.out.weak 0 H12.out.lt.2.2.1 H12.out.DE) (Nat.le_refl _) hDE, hlc⟩
              case rest =>
                as_aux_lemma =>
                  obtain ⟨d, x, E6, es6, l2, hmv, hf11, hraw, rfl, hkey, hrep, hstw, hlen⟩ := hcut
                  have hokd : d.Ok := by have := adv_val c; rw [hmv] at this; exact this.ok HOKC.out
                  have HOKD := hid hokd; clear hokd
                  have hmf4 := HMF3.out
                  rw [hmv] at hmf4
                  simp only [] at hmf4
                  have HMF4 := hid hmf4
                  have H6 := hid hrep
                  have HS6 := hid hstw
                  have HV6 := hid hf11
                  have HK6 := hid hkey
                  have HRAW := hid hraw
                  have hkl : sk = false → l1 = (tok fieldKeyP tagE m1.rest).2 := fun hs => by
                    rw [← HL1.out]
                    unfold MSt.said
                    rw [if_neg (by rw [hs]; simp)]
                  have HKEYL := hid hkl
                  clear hmf4 hrep hstw hf11 hkey hmv hraw hkl H12 HS12 HF12 HMF3
                  obtain ⟨hh6, hhh6⟩ : ∃ hh, d.has 1 = hh := ⟨_, rfl⟩
                  have HHH6 := hid hhh6
                  have hcc := has_code H6.out 1 rfl
                  rw [hhh6] at hcc
                  have HC6 := hid hcc; clear hcc hhh6
                  have hfin : ∀ (wx : World) (e : MSt), BytesFar D wx u11 l2 → BytesFar D wx (.slice (some ⟨b5, o5, none⟩) l1.length c5) l1 → FieldIs B sk (.some ⟨(tok fieldKeyP tagE m1.rest).2, x.1, x.2⟩) wx (.tuple #[.slice (some ⟨b5, o5, none⟩) n c5, .int .u8 (x.1 : Int), u11, .nilIface]) := fun wx e h1 h2 =>
                    ⟨l1, l2, _, _, h2.is, h1.is, fun hs => ⟨HKEYL.out hs, HRAW.out hs⟩, by rw [HN.out]⟩
                  have HFIN := hid hfin; clear hfin
                  cases hh6
                  · have e1 : fieldOf none m1 = (d.to 5, .some ⟨(tok fieldKeyP tagE m1.rest).2, x.1, x.2⟩) := by
                      rw [HMF4.out]
                      have : mBehind d = (d.to 5, none) := by unfold mBehind; rw [if_pos HHH6.out]
                      rw [this]
                    have HE1 := hid e1; clear e1
                    obtain ⟨C, ec, q1', q2', q3', q4', c0, c1, c2, c3, c4', c5', c6, c7, c8, c9, fz, ho⟩ := H6.out.cells
                    have hf5 := fz 5
                    clear c0 c1 c2 c3 c4' c6 c7 c8 c9 fz ho q1' q2' q3' q4'
                    go_wp2_with fail
                    refine HC6.out.mono ?_; rintro e w20 ⟨rfl, n20, rfl⟩
                    go_wp2_with fail
                    ((try simp only [Exit.inBlock, Exit.then]); refine bodyPost_ret (results_tmp4 rfl _ _ _) rfl ?_)
                    rw [HE1.out]
                    exact ⟨E6, es6, _, rfl, HFIN.out _ d ((HV6.out.drewN _).setD _ _) ((HK6.out.drewN _).setD _ _), (H6.out.drewN _).setSec 5 (by omega), (HS6.out.drewN _).setD hDE _ _, hlen⟩
                  go_wp2_with fail
                  refine HC6.out.mono ?_; rintro e w20 ⟨rfl, n20, rfl⟩
                  go_wp2_with fail
                  refine (at0_code (H6.out.drewN n20) 0 rfl).mono ?_; rintro e w21 ⟨rfl, n21, rfl⟩
                  have H7 := hid ((H6.out.drewN n20).drewN n21)
                  have HS7 := hid ((HS6.out.drewN n20).drewN n21)
                  have HV7 := hid ((HV6.out.drewN n20).drewN n21)
                  have HK7 := hid ((HK6.out.drewN n20).drewN n21)
                  generalize (wc.drewN n20).drewN n21 = w22 at H7 HS7 HV7 HK7 ⊢
                  clear H6 HS6 HV6 HK6 HC6
                  by_cases h44 : d.at0 = 44
                  · have e44 : ((d.at0.toNat : Int) == 44) = true := by rw [h44]; rfl
                    have e1 : fieldOf none m1 = (d.adv 1, .some ⟨(tok fieldKeyP tagE m1.rest).2, x.1, x.2⟩) := by
                      rw [HMF4.out]
                      have : mBehind d = (d.adv 1, none) := by unfold mBehind; rw [if_neg (by rw [HHH6.out]; simp), if_pos h44]
                      rw [this]
                    have HE1 := hid e1; clear e1 h44
                    go_wp2_with fail
                    refine (adv_code H7.out HHH6.out 1 rfl).mono ?_; rintro e w23 ⟨E23, v, rfl, rfl, h23, st23⟩
                    obtain rfl : E23 = E6 := st23.esc
                    have H23 := hid h23
                    have HST := hid st23
                    clear h23 st23
                    go_wp2_with fail
                    ((try simp only [Exit.inBlock, Exit.then]); refine bodyPost_ret (results_tmp4 rfl _ _ _) rfl ?_)
                    rw [HE1.out]
                    refine ⟨E23, es6, _, rfl, HFIN.out _ d (HV7.out.stp HST.out) (HK7.out.stp HST.out), H23.out, HS7.out.trans (HST.out.weak 0 H7.out.lt.2.2.1 H7.out.DE) (Nat.le_refl _) hDE, ?_⟩
                    show es6.length + d.r0 ≤ d.r1 + 1
                    omega
                  have e44 := u8_ne 44 (by omega) h44
                  go_wp2_with fail
                  refine (white_any _).mono ?_; rintro e w23 ⟨S3, rfl, hS, hb23, hS23⟩
                  have H8 := hid (H7.out.below hb23)
                  have HS8 := hid (HS7.out.trans (((Stp.refl D E6 w22).below hb23).weak 0 H7.out.lt.2.2.1 H7.out.DE) (Nat.le_refl _) hDE)
                  have HV8 := hid (HV7.out.below hb23)
                  have HK8 := hid (HK7.out.below hb23)
                  have hget := get_any (w := w23) (S := S3) (f := whiteP) hS d.at0
                  obtain ⟨wb, hwb⟩ : ∃ wb, whiteP d.at0.toNat = wb := ⟨_, rfl⟩
                  rw [hwb] at hget
                  have HWB := hid hwb
                  have HG := hid hget
                  have H44 := hid h44
                  clear hwb hget hS hb23 hS23 h44 H7 HS7 HV7 HK7
                  cases wb
                  · have e1 : fieldOf none m1 = (d.broke, .err (d.flt d.off)) := by
                      rw [HMF4.out]
                      have : mBehind d = (d.broke, some (d.flt d.off)) := by unfold mBehind; rw [if_neg (by rw [HHH6.out]; simp), if_neg H44.out, if_pos HWB.out]
                      rw [this]
                    have HE1 := hid e1; clear e1
                    go_wp2_with fail
                    refine HG.out.mono ?_; rintro e w24 ⟨rfl, rfl⟩
                    go_wp2_with fail
                    refine region34_72 (D := D) (m := d) (fun _ _ _ _ _ h => h) rfl rfl H8.out HOKD.out ?_
                    intro w18 v hr18 st18 hE
                    have HE := hid hE
                    obtain ⟨XE, YE, rfl, hx1, hx2, hx3⟩ := hE
                    clear hx1 hx2 hx3
                    have H18 := hid hr18; clear hr18
                    have HS18 := hid st18; clear st18
                    simp only [putAll, Act.put, List.setIfInBounds_toArray, List.set_cons_zero, List.set_cons_succ]
                    go_wp2_with fail
                    ((try simp only [Exit.inBlock, Exit.then]); refine bodyPost_ret (results_tmp4 rfl _ _ _) rfl ?_)
                    rw [HE1.out]
                    exact ⟨_, _, _, rfl, ⟨_, HE.out, rfl⟩, H18.out, HS8.out.trans (HS18.out.weak 0 H8.out.lt.2.2.1 H8.out.DE) (Nat.le_refl _) hDE, hlen⟩
                  go_wp2_with fail
                  refine HG.out.mono ?_; rintro e w24 ⟨rfl, rfl⟩
                  go_wp2_with fail
                  refine (blank_any _).mono ?_; rintro e w25 ⟨S4, rfl, hS, hb25, hS25⟩
                  have H9 := hid (H8.out.below hb25)
                  have HS9 := hid (HS8.out.trans (((Stp.refl D E6 w24).below hb25).weak 0 H8.out.lt.2.2.1 H8.out.DE) (Nat.le_refl _) hDE)
                  have HV9 := hid (HV8.out.below hb25)
                  have HK9 := hid (HK8.out.below hb25)
                  have HSET4 := hid hS
                  have hlt := H8.out.lt
                  have hSD4 : D < S4 := by omega
                  clear hS hb25 hS25 hlt HG H8 HS8 HV8 HK8
                  go_wp2_with fail
                  refine (take_set H9.out HSET4.out hSD4).mono ?_
                  rintro e w26 ⟨E26, v, rfl, hbs, h26, st26⟩
                  obtain rfl : E26 = E6 := st26.esc
                  obtain ⟨b26, o26, c26, rfl, _, _, _, _⟩ := hbs
                  have H10 := hid h26
                  have HS10 := hid (HS9.out.trans (st26.weak 0 H9.out.lt.2.2.1 H9.out.DE) (Nat.le_refl _) hDE)
                  have HV10 := hid (HV9.out.stp st26)
                  have HK10 := hid (HK9.out.stp st26)
                  obtain ⟨g, hg⟩ : ∃ g, d.skip blankP = g := ⟨_, rfl⟩
                  have HOKG := hid (show g.Ok by rw [← hg]; exact (adv_skip d _).ok HOKD.out)
                  have hlg : es6.length + g.r0 ≤ g.r1 := by rw [← hg]; show es6.length + d.r0 ≤ d.r1 + _; omega
                  have hmb : mBehind d = if g.eol.1 = true then (g.eol.2.to 5, none) else (g.eol.2.to 3, none) := by
                    unfold mBehind
                    rw [if_neg (by rw [HHH6.out]; simp), if_neg H44.out, if_neg (by rw [HWB.out]; simp), hg]
                  have HMB := hid hmb
                  have hg' := hg
                  rw [hg] at H10
                  clear h26 st26 hg hmb hg' H9 HS9 HV9 HK9
                  go_wp2_with fail
                  refine (takeEOL_any H10.out HOKG.out).mono ?_
                  rintro e w27 ⟨E27, v, rfl, rfl, h27, st27⟩
                  obtain rfl : E27 = E26 := st27.esc
                  rw [d_eol] at h27 ⊢
                  have hr0 : g.eol.2.r0 = g.r0 ∧ g.r1 ≤ g.eol.2.r1 := by
                    unfold MSt.eol
                    repeat' split
                    all_goals exact ⟨rfl, by simp only; omega⟩
                  have H11 := hid h27
                  have HS11 := hid (HS10.out.trans (st27.weak 0 H10.out.lt.2.2.1 H10.out.DE) (Nat.le_refl _) hDE)
                  have HV11 := hid (HV10.out.stp st27)
                  have HK11 := hid (HK10.out.stp st27)
                  clear h27 st27 H10 HS10 HV10 HK10
                  obtain ⟨C, ec, q1', q2', q3', q4', c0, c1, c2, c3, c4', c5', c6, c7, c8, c9, fz, ho⟩ := H11.out.cells
                  have hf5 := fz 5
                  clear c0 c1 c2 c3 c4' c6 c7 c8 c9 fz ho q1' q2' q3' q4'
                  simp only []
                  obtain ⟨eb, heb⟩ : ∃ eb, g.eol.1 = eb := ⟨_, rfl⟩
                  have hmb2 := HMB.out
                  rw [heb] at hmb2 ⊢
                  have HMB2 := hid hmb2; clear hmb2 heb
                  cases eb
                  · have e1 : fieldOf none m1 = (g.eol.2.to 3, .some ⟨(tok fieldKeyP tagE m1.rest).2, x.1, x.2⟩) := by
                      rw [HMF4.out, HMB2.out, if_neg (by simp)]
                    have HE1 := hid e1; clear e1
                    go_wp2_with fail
                    ((try simp only [Exit.inBlock, Exit.then]); refine bodyPost_ret (results_tmp4 rfl _ _ _) rfl ?_)
                    rw [HE1.out]
                    refine ⟨E27, es6, _, rfl, HFIN.out _ d (HV11.out.setD _ _) (HK11.out.setD _ _), H11.out.setSec 3 (by omega), HS11.out.setD hDE _ _, ?_⟩
                    show es6.length + g.eol.2.r0 ≤ g.eol.2.r1
                    omega
                  · have e1 : fieldOf none m1 = (g.eol.2.to 5, .some ⟨(tok fieldKeyP tagE m1.rest).2, x.1, x.2⟩) := by
                      rw [HMF4.out, HMB2.out, if_pos rfl]
                    have HE1 := hid e1; clear e1
                    go_wp2_with fail
                    ((try simp only [Exit.inBlock, Exit.then]); refine bodyPost_ret (results_tmp4 rfl _ _ _) rfl ?_)
                    rw [HE1.out]
                    refine ⟨E27, es6, _, rfl, HFIN.out _ d (HV11.out.setD _ _) (HK11.out.setD _ _), H11.out.setSec 5 (by omega), HS11.out.setD hDE _ _, ?_⟩
                    show es6.length + g.eol.2.r0 ≤ g.eol.2.r1
                    omega
end Go.Proofs.YtejlokdcocacaaaGreatDoor
