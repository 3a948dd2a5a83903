/- TimeBytes, whatever advanceToSection has done. -/
import Derived.Test.YtejlokdcocacaaaGreatDoorKField
import Derived.Test.YtejlokdcocacaaaGreatDoorKTag
namespace Go.Proofs.YtejlokdcocacaaaGreatDoor
open Go.RowKit Go.Proofs.YtejlokdcocacaaaGreatDoorW.PrintLast

/-- What it hands on. -/
def timeOf (o : Option Flt) (m1 : MSt) : MSt × TimeR :=
  match o with
  | some f => (m1, .err f)
  | none => mTime m1

/-- The time's bytes; nil where there are none. -/
def TV (D : Nat) (l : List UInt8) (v : Value) (w : World) : Prop := (l = [] ∧ v = .slice none 0 0) ∨ (l ≠ [] ∧ BytesFar D w v l)

theorem TV.stp {D E E' : Nat} {w w' : World} {v : Value} {l : List UInt8} (h : TV D l v w) (st : Stp D E w E' w') : TV D l v w' := by
  rcases h with h | ⟨h1, h2⟩
  · exact .inl h
  · exact .inr ⟨h1, h2.stp st⟩
theorem TV.setD {D : Nat} {w : World} {v : Value} {l : List UInt8} (h : TV D l v w) (i : Nat) (x : Value) : TV D l v (w.setCell ⟨D, i, none⟩ x) := by
  rcases h with h | ⟨h1, h2⟩
  · exact .inl h
  · exact .inr ⟨h1, h2.setD i x⟩
theorem TV.drewN {D : Nat} {w : World} {v : Value} {l : List UInt8} (h : TV D l v w) (n : Nat) : TV D l v (w.drewN n) := by
  rcases h with h | ⟨h1, h2⟩
  · exact .inl h
  · exact .inr ⟨h1, h2.drewN n⟩
theorem TV.below {D : Nat} {w w' : World} {v : Value} {l : List UInt8} (h : TV D l v w) (k : Below w.heap.size w w') : TV D l v w' := by
  rcases h with h | ⟨h1, h2⟩
  · exact .inl h
  · exact .inr ⟨h1, h2.below k⟩

/-- TimeBytes's result. -/
def TimeIs (B D : Nat) (r : TimeR) (w : World) (v : Value) : Prop :=
  match r with
  | .err f => ∃ v2, ErrIs B f w v2 ∧ v = .tuple #[.slice none 0 0, v2]
  | .ok l => ∃ v1, TV D l v1 w ∧ v = .tuple #[v1, .nilIface]

theorem eol_no (m : MSt) (h : m.eol.1 = false) : m.eol.2 = m := by
  unfold MSt.eol at h ⊢
  repeat' split at h
  all_goals first | (simp at h; done) | skip
  all_goals simp_all

theorem eol_keep (g : MSt) : g.eol.2.r0 = g.r0 ∧ g.r1 ≤ g.eol.2.r1 := by
  unfold MSt.eol
  repeat' split
  all_goals exact ⟨rfl, by simp only; omega⟩

set_option maxHeartbeats 16000000 in
set_option maxRecDepth 100000 in
theorem time_core {w : World} {B D T E : Nat} {sk : Bool} {o : Option Flt} {m1 : MSt} (hDE : D ≠ E) (hok : m1.Ok)
    (hto : Calls Tryz.prog 50 #[.pointer (some ⟨D, 0, none⟩), .int .u8 3] w (DX B D T E sk w m1 (ToIs B 3 o m1))) :
    Calls Tryz.prog 35 #[.pointer (some ⟨D, 0, none⟩)] w (DX B D T E sk w (timeOf o m1).1 (TimeIs B D (timeOf o m1).2)) := by
  have HTO := hid hto; clear hto
  have HOK1 := hid hok; clear hok
  go_enter Tryz.func35, Tryz.ntmps35
  go_wp2_with fail
  refine HTO.out.mono ?_; rintro e w1 ⟨E1, es1, v, rfl, hR, h1, st1, hl1⟩
  clear HTO
  have H1 := hid h1; clear h1
  have HS1 := hid st1; clear st1
  cases o with
  | some f =>
    obtain ⟨v2, hE, rfl⟩ := hR
    have HE := hid hE
    obtain ⟨XE, YE, rfl, hx1, hx2, hx3⟩ := hE
    clear hx1 hx2 hx3
    go_wp2_with fail
    go_ret2
    exact ⟨E1, es1, _, rfl, ⟨_, HE.out, rfl⟩, H1.out, HS1.out, hl1⟩
  | none =>
    simp only [ToIs] at hR
    subst hR
    by_cases hs3 : m1.sec = 3
    case neg =>
      have hb1 : (m1.sec == 3) = false := by rw [beq_eq_false_iff_ne]; exact hs3
      rw [hb1]
      have e1 : timeOf none m1 = (m1, .ok []) := by unfold timeOf mTime; simp only; rw [if_pos hs3]
      have HE1 := hid e1; clear e1 hs3 hb1
      go_wp2_with fail
      go_ret2
      rw [HE1.out]
      exact ⟨E1, es1, _, rfl, ⟨_, .inl ⟨rfl, rfl⟩, rfl⟩, H1.out, HS1.out, hl1⟩
    have hb1 : (m1.sec == 3) = true := by rw [beq_iff_eq]; exact hs3
    rw [hb1]
    have HS3 := hid hs3; clear hs3 hb1
    obtain ⟨C, ec, q1, q2, q3, q4, c0, c1, c2, c3, c4, c5, c6, c7, c8, c9, fz, ho⟩ := H1.out.cells
    have hle := H1.out.le0
    have hle1 := H1.out.le1
    have hsm := H1.out.small
    simp only [MSt.d] at hle hle1 hsm c2 c3
    clear c0 c1 c4 c5 c6 c7 c8 c9 fz ho q1 q2 q3 q4
    go_wp2_with fail
    go_quiet (fail)
    go_wp2_with fail
    have H2 := hid (H1.out.drewN nq)
    have HS2 := hid (HS1.out.drewN nq)
    generalize w1.drewN nq = w2 at H2 HS2 ⊢
    clear c2 c3 H1 HS1
    refine (timeC_any _).mono ?_; rintro e w3 ⟨S, rfl, hS, hb3, hS3⟩
    have H3 := hid (H2.out.below hb3)
    have HST3 := hid (HS2.out.trans (((Stp.refl D E1 w2).below hb3).weak 0 H2.out.lt.2.2.1 H2.out.DE) (Nat.le_refl _) hDE)
    have HSET := hid hS
    have hlt := H2.out.lt
    have hSD : D < S := by omega
    clear hS hb3 hS3 hlt H2 HS2
    go_wp2_with fail
    refine (take_far H3.out HSET.out hSD).mono ?_
    rintro e w4 ⟨E4, v, rfl, hraw, h4, st4⟩
    obtain rfl : E4 = E1 := st4.esc
    obtain ⟨l, hl⟩ : ∃ l, m1.ran timeCP = l := ⟨_, rfl⟩
    obtain ⟨a, ha⟩ : ∃ a, m1.skip timeCP = a := ⟨_, rfl⟩
    rw [hl] at hraw
    rw [ha] at h4
    have hla : es1.length + a.r0 ≤ a.r1 := by rw [← ha]; show es1.length + m1.r0 ≤ m1.r1 + _; omega
    have hoka : a.Ok := by rw [← ha]; exact (adv_skip m1 _).ok HOK1.out
    have hoff : a.r0 + m1.off ≤ a.r1 := by rw [← ha]; show m1.r0 + (m1.r1 - m1.r0) ≤ m1.r1 + _; omega
    have hoff2 : (m1.r1 : Int) - (m1.r0 : Int) = (m1.off : Int) := by unfold MSt.off; omega
    have HFAR := hid hraw
    obtain ⟨b4, o4, c4, rfl, _, hbi⟩ := hraw
    have H4 := hid h4
    have HST4 := hid (HST3.out.trans (st4.weak 0 H3.out.lt.2.2.1 H3.out.DE) (Nat.le_refl _) hDE)
    have HOKA := hid hoka
    have HOFF := hid hoff
    have HOFF2 := hid hoff2
    have HL := hid hl
    have HA := hid ha
    clear hbi h4 st4 H3 HST3 hl ha hoka hoff hoff2
    obtain ⟨b, hb⟩ : ∃ b, (if l = [] then a.to 5 else a) = b := ⟨_, rfl⟩
    have hbr : b.r0 = a.r0 ∧ b.r1 = a.r1 ∧ b.t = a.t ∧ b.line = a.line := by rw [← hb]; split <;> exact ⟨rfl, rfl, rfl, rfl⟩
    have hokb : b.Ok := by
      have := HOKA.out
      unfold MSt.Ok MSt.left at *
      rw [hbr.2.1, hbr.2.2.1, hbr.2.2.2]; exact this
    have HBB := hid hb
    have HBR := hid hbr
    have HOKB := hid hokb
    clear hb hbr hokb
    have hmt : timeOf none m1 = (if b.has 1 = false then (b.to 5, .ok l) else if whiteP b.at0.toNat = false then ((b.skip notEolP).broke, .err ((b.skip notEolP).flt m1.off)) else if (b.skip blankP).has 1 = false then ((b.skip blankP).to 5, .ok l) else if (b.skip blankP).eol.1 = true then ((b.skip blankP).eol.2.to 5, .ok l) else (((b.skip blankP).skip notEolP).broke, .err (((b.skip blankP).skip notEolP).flt (b.skip blankP).off))) := by
      unfold timeOf mTime
      simp only
      rw [if_neg (by have := HS3.out; omega), HL.out, HA.out, HBB.out]
    have HMT := hid hmt; clear hmt
    obtain ⟨C, ec, q1, q2, q3, q4, c0, c1, c2, c3, c4', c5, c6, c7, c8, c9, fz, ho⟩ := H4.out.cells
    have hf5 := fz 5
    clear c0 c1 c2 c3 c4' c6 c7 c8 c9 fz ho q1 q2 q3 q4
    go_upto_if 33 with fail
    go_cut [7] (fun u7 wx => TV D l u7 wx ∧ Rep wx B D T E4 sk (b.d es1) ∧ Stw 0 D E w E4 wx)
    case first =>
      by_cases hle : l = []
      · subst hle
        go_wp2_with fail
        go_meet
        refine ⟨.inl ⟨rfl, rfl⟩, ?_, HST4.out.setD hDE _ _⟩
        rw [← HBB.out, if_pos trivial]
        exact H4.out.setSec 5 (by omega)
      · have hnl : ((l.length : Int) == 0) = false := by
          rw [beq_eq_false_iff_ne]
          intro e
          exact hle (List.eq_nil_of_length_eq_zero (by omega))
        have HLE := hid hle; clear hle
        go_wp2_with fail
        go_meet
        refine ⟨.inr ⟨HLE.out, HFAR.out⟩, ?_, HST4.out⟩
        rw [← HBB.out, if_neg HLE.out]
        exact H4.out
    case rest =>
      obtain ⟨htv, hrep, hstw⟩ := hcut
      have HTV := hid htv
      have H5 := hid hrep
      have HS5 := hid hstw
      have hlb : es1.length + b.r0 ≤ b.r1 := by have := HBR.out; omega
      have hob : b.r0 + m1.off ≤ b.r1 := by have := HBR.out; have := HOFF.out; omega
      have HOB := hid hob
      clear htv hrep hstw hob H4 HST4 HFAR c5 hf5
      obtain ⟨C, ec, q1, q2, q3, q4, c0, c1, c2, c3, c4', c5, c6, c7, c8, c9, fz, ho⟩ := H5.out.cells
      have hf5 := fz 5
      clear c0 c1 c2 c3 c4' c6 c7 c8 c9 fz ho q1 q2 q3 q4
      obtain ⟨hh, hhh⟩ : ∃ hh, b.has 1 = hh := ⟨_, rfl⟩
      have HHH := hid hhh
      have hcc := has_code H5.out 1 rfl
      rw [hhh] at hcc
      have HC := hid hcc; clear hcc hhh
      cases hh
      · have e1 : timeOf none m1 = (b.to 5, .ok l) := by rw [HMT.out, if_pos HHH.out]
        have HE1 := hid e1; clear e1
        go_wp2_with fail
        refine HC.out.mono ?_; rintro e w6 ⟨rfl, n6, rfl⟩
        go_wp2_with fail
        go_ret2
        rw [HE1.out]
        exact ⟨E4, es1, _, rfl, ⟨_, (HTV.out.drewN _).setD _ _, rfl⟩, (H5.out.drewN _).setSec 5 (by omega), (HS5.out.drewN _).setD hDE _ _, hlb⟩
      go_wp2_with fail
      refine HC.out.mono ?_; rintro e w6 ⟨rfl, n6, rfl⟩
      clear c5 hf5
      go_wp2_with fail
      refine (white_any _).mono ?_; rintro e w7 ⟨S3, rfl, hS, hb7, hS7⟩
      have H7 := hid ((H5.out.drewN n6).below hb7)
      have HS7 := hid ((HS5.out.drewN n6).trans (((Stp.refl D E4 _).below hb7).weak 0 H5.out.lt.2.2.1 H5.out.DE) (Nat.le_refl _) hDE)
      have HV7 := hid ((HTV.out.drewN n6).below hb7)
      have HSET7 := hid hS
      clear hS hb7 hS7 H5 HS5 HTV HC
      go_wp2_with fail
      refine (at0_code H7.out 0 rfl).mono ?_; rintro e w8 ⟨rfl, n8, rfl⟩
      have hget := get_any (w := w7.drewN n8) (S := S3) (f := whiteP) HSET7.out b.at0
      obtain ⟨wb, hwb⟩ : ∃ wb, whiteP b.at0.toNat = wb := ⟨_, rfl⟩
      rw [hwb] at hget
      have HWB := hid hwb
      have HG := hid hget
      clear hwb hget
      go_wp2_with fail
      refine HG.out.mono ?_; rintro e w9 ⟨rfl, rfl⟩
      have H8 := hid (H7.out.drewN n8)
      have HS8 := hid (HS7.out.drewN n8)
      have HV8 := hid (HV7.out.drewN n8)
      generalize w7.drewN n8 = w10 at H8 HS8 HV8 ⊢
      clear H7 HS7 HV7 HSET7 HG
      cases wb
      · have e1 : timeOf none m1 = ((b.skip notEolP).broke, .err ((b.skip notEolP).flt m1.off)) := by rw [HMT.out, if_neg (by rw [HHH.out]; simp), if_pos HWB.out]
        have HE1 := hid e1; clear e1
        go_wp2_with fail
        refine (notEol_any _).mono ?_; rintro e w11 ⟨S4, rfl, hS, hb11, hS11⟩
        have H9 := hid (H8.out.below hb11)
        have HS9 := hid (HS8.out.trans (((Stp.refl D E4 w10).below hb11).weak 0 H8.out.lt.2.2.1 H8.out.DE) (Nat.le_refl _) hDE)
        have HSET9 := hid hS
        have hlt := H8.out.lt
        have hSD4 : D < S4 := by omega
        clear hS hb11 hS11 hlt H8 HS8 HV8
        go_wp2_with fail
        refine (take_set H9.out HSET9.out hSD4).mono ?_
        rintro e w12 ⟨E12, v, rfl, hbs, h12, st12⟩
        obtain rfl : E12 = E4 := st12.esc
        obtain ⟨b12, o12, c12, rfl, _, _, _, _⟩ := hbs
        have H12 := hid h12
        have HS12 := hid (HS9.out.trans (st12.weak 0 H9.out.lt.2.2.1 H9.out.DE) (Nat.le_refl _) hDE)
        have HOKC := hid ((adv_skip b notEolP).ok HOKB.out)
        have HOC := hid (show (b.skip notEolP).r0 + m1.off ≤ (b.skip notEolP).r1 by have := HOB.out; show b.r0 + m1.off ≤ b.r1 + _; omega)
        have hlc : es1.length + (b.skip notEolP).r0 ≤ (b.skip notEolP).r1 := by show es1.length + b.r0 ≤ b.r1 + _; omega
        clear h12 st12 H9 HS9
        go_wp2_with fail
        refine (errorsNew_any _ _).mono ?_; rintro e w17 ⟨rfl, rfl⟩
        go_wp2_with fail
        refine (fault_code (H12.out.alloc _) HOKC.out m1.off HOC.out _ HOFF2.out _ H12.out.bSize).mono ?_
        rintro e w18 ⟨E18, v, rfl, hE, h18, st18⟩
        have HE := hid hE
        obtain ⟨XE, YE, rfl, hx1, hx2, hx3⟩ := hE
        clear hx1 hx2 hx3
        have H18 := hid h18; clear h18
        have HS18 := hid st18; clear st18
        go_wp2_with fail
        go_ret2
        rw [HE1.out]
        exact ⟨E18, _, _, rfl, ⟨_, HE.out, rfl⟩, H18.out, fault_end HS12.out hDE H12.out HS18.out, hlc⟩
      obtain ⟨c, hc⟩ : ∃ c, b.skip blankP = c := ⟨_, rfl⟩
      have HOKC := hid (show c.Ok by rw [← hc]; exact (adv_skip b blankP).ok HOKB.out)
      have hlc : es1.length + c.r0 ≤ c.r1 := by rw [← hc]; show es1.length + b.r0 ≤ b.r1 + _; omega
      have hmt2 := HMT.out
      rw [if_neg (by rw [HHH.out]; simp), if_neg (by rw [HWB.out]; simp), hc] at hmt2
      have HMT2 := hid hmt2
      have HCC := hid hc
      clear hmt2 hc HMT
      go_wp2_with fail
      refine (blank_any _).mono ?_; rintro e w11 ⟨S4, rfl, hS, hb11, hS11⟩
      have H9 := hid (H8.out.below hb11)
      have HS9 := hid (HS8.out.trans (((Stp.refl D E4 w10).below hb11).weak 0 H8.out.lt.2.2.1 H8.out.DE) (Nat.le_refl _) hDE)
      have HV9 := hid (HV8.out.below hb11)
      have HSET9 := hid hS
      have hlt := H8.out.lt
      have hSD4 : D < S4 := by omega
      clear hS hb11 hS11 hlt H8 HS8 HV8
      go_wp2_with fail
      refine (take_set H9.out HSET9.out hSD4).mono ?_
      rintro e w12 ⟨E12, v, rfl, hbs, h12, st12⟩
      obtain rfl : E12 = E4 := st12.esc
      obtain ⟨b12, o12, c12, rfl, _, _, _, _⟩ := hbs
      rw [HCC.out] at h12
      have H12 := hid h12
      have HS12 := hid (HS9.out.trans (st12.weak 0 H9.out.lt.2.2.1 H9.out.DE) (Nat.le_refl _) hDE)
      have HV12 := hid (HV9.out.stp st12)
      clear h12 st12 H9 HS9 HV9
      obtain ⟨hh2, hhh2⟩ : ∃ hh, c.has 1 = hh := ⟨_, rfl⟩
      have HHH2 := hid hhh2
      have hcc := has_code H12.out 1 rfl
      rw [hhh2] at hcc
      have HC2 := hid hcc; clear hcc hhh2
      cases hh2
      · have e1 : timeOf none m1 = (c.to 5, .ok l) := by rw [HMT2.out, if_pos HHH2.out]
        have HE1 := hid e1; clear e1
        obtain ⟨C, ec, q1, q2, q3, q4, c0, c1, c2, c3, c4', c5, c6, c7, c8, c9, fz, ho⟩ := H12.out.cells
        have hf5 := fz 5
        clear c0 c1 c2 c3 c4' c6 c7 c8 c9 fz ho q1 q2 q3 q4
        go_wp2_with fail
        refine HC2.out.mono ?_; rintro e w13 ⟨rfl, n13, rfl⟩
        go_wp2_with fail
        go_ret2
        rw [HE1.out]
        exact ⟨E12, es1, _, rfl, ⟨_, (HV12.out.drewN _).setD _ _, rfl⟩, (H12.out.drewN _).setSec 5 (by omega), (HS12.out.drewN _).setD hDE _ _, hlc⟩
      go_wp2_with fail
      refine HC2.out.mono ?_; rintro e w13 ⟨rfl, n13, rfl⟩
      go_wp2_with fail
      refine (takeEOL_any (H12.out.drewN n13) HOKC.out).mono ?_
      rintro e w14 ⟨E14, v, rfl, rfl, h14, st14⟩
      obtain rfl : E14 = E12 := st14.esc
      rw [d_eol] at h14 ⊢
      simp only [] at h14
      have hr0 := eol_keep c
      have H14 := hid h14
      have HS14 := hid ((HS12.out.drewN n13).trans (st14.weak 0 H12.out.lt.2.2.1 H12.out.DE) (Nat.le_refl _) hDE)
      have HV14 := hid ((HV12.out.drewN n13).stp st14)
      clear h14 st14 H12 HS12 HV12 HC2
      simp only []
      have hmt3 := HMT2.out
      rw [if_neg (by rw [HHH2.out]; simp)] at hmt3
      obtain ⟨eb, heb⟩ : ∃ eb, c.eol.1 = eb := ⟨_, rfl⟩
      have HEB := hid heb
      rw [heb] at hmt3 ⊢
      have HMT3 := hid hmt3; clear hmt3 heb HMT2
      obtain ⟨C, ec, q1, q2, q3, q4, c0, c1, c2, c3, c4', c5, c6, c7, c8, c9, fz, ho⟩ := H14.out.cells
      have hf5 := fz 5
      cases eb
      case true =>
        have e1 : timeOf none m1 = (c.eol.2.to 5, .ok l) := by rw [HMT3.out, if_pos rfl]
        have HE1 := hid e1; clear e1
        clear c0 c1 c2 c3 c4' c6 c7 c8 c9 fz ho q1 q2 q3 q4
        go_wp2_with fail
        go_ret2
        rw [HE1.out]
        refine ⟨E14, es1, _, rfl, ⟨_, HV14.out.setD _ _, rfl⟩, H14.out.setSec 5 (by omega), HS14.out.setD hDE _ _, ?_⟩
        show es1.length + c.eol.2.r0 ≤ c.eol.2.r1
        omega
      case false =>
        have hce := eol_no c HEB.out
        rw [hce] at H14 c2 c3
        have e1 : timeOf none m1 = ((c.skip notEolP).broke, .err ((c.skip notEolP).flt c.off)) := by rw [HMT3.out, if_neg (by simp)]
        have HE1 := hid e1
        have hle := H14.out.le0
        have hle1 := H14.out.le1
        have hsm := H14.out.small
        simp only [MSt.d] at hle hle1 hsm c2 c3
        clear e1 c0 c1 c4' c5 c6 c7 c8 c9 fz ho q1 q2 q3 q4 hf5 hr0 hce
        go_wp2_with fail
        go_quiet (fail)
        go_wp2_with fail
        have H15 := hid (H14.out.drewN nq)
        have HS15 := hid (HS14.out.drewN nq)
        generalize w14.drewN nq = w15 at H15 HS15 ⊢
        clear c2 c3 H14 HS14 HV14
        refine (notEol_any _).mono ?_; rintro e w16 ⟨S5, rfl, hS, hb16, hS16⟩
        have H16 := hid (H15.out.below hb16)
        have HS16 := hid (HS15.out.trans (((Stp.refl D E14 w15).below hb16).weak 0 H15.out.lt.2.2.1 H15.out.DE) (Nat.le_refl _) hDE)
        have HSET16 := hid hS
        have hlt := H15.out.lt
        have hSD5 : D < S5 := by omega
        clear hS hb16 hS16 hlt H15 HS15
        go_wp2_with fail
        refine (take_set H16.out HSET16.out hSD5).mono ?_
        rintro e w17 ⟨E17, v, rfl, hbs, h17, st17⟩
        obtain rfl : E17 = E14 := st17.esc
        obtain ⟨b17, o17, c17, rfl, _, _, _, _⟩ := hbs
        have H17 := hid h17
        have HS17 := hid (HS16.out.trans (st17.weak 0 H16.out.lt.2.2.1 H16.out.DE) (Nat.le_refl _) hDE)
        have HOKG := hid ((adv_skip c notEolP).ok HOKC.out)
        have HOG := hid (show (c.skip notEolP).r0 + c.off ≤ (c.skip notEolP).r1 by show c.r0 + (c.r1 - c.r0) ≤ c.r1 + _; omega)
        have HOG2 := hid (show (c.r1 : Int) - (c.r0 : Int) = (c.off : Int) by unfold MSt.off; omega)
        have hlg : es1.length + (c.skip notEolP).r0 ≤ (c.skip notEolP).r1 := by show es1.length + c.r0 ≤ c.r1 + _; omega
        clear h17 st17 H16 HS16
        go_wp2_with fail
        refine (errorsNew_any _ _).mono ?_; rintro e w18 ⟨rfl, rfl⟩
        go_wp2_with fail
        refine (fault_code (H17.out.alloc _) HOKG.out c.off HOG.out _ HOG2.out _ H17.out.bSize).mono ?_
        rintro e w19 ⟨E19, v, rfl, hE, h19, st19⟩
        have HE := hid hE
        obtain ⟨XE, YE, rfl, hx1, hx2, hx3⟩ := hE
        clear hx1 hx2 hx3
        have H19 := hid h19; clear h19
        have HS19 := hid st19; clear st19
        go_wp2_with fail
        go_ret2
        rw [HE1.out]
        exact ⟨E19, _, _, rfl, ⟨_, HE.out, rfl⟩, H19.out, fault_end HS17.out hDE H17.out HS19.out, hlg⟩
end Go.Proofs.YtejlokdcocacaaaGreatDoor

/- consumeLine, skipEmptyLines. -/
namespace Go.Proofs.YtejlokdcocacaaaGreatDoor
open Go.RowKit Go.Proofs.YtejlokdcocacaaaGreatDoorW.PrintLast

theorem at0_has {m : MSt} (h : m.at0 ≠ 0) : m.has 1 = true := by
  have hl : m.r1 < m.t.length := by
    apply Nat.lt_of_not_le
    intro hn
    exact h (by simp [MSt.at0, List.getD, show m.t.length ≤ m.r1 by omega])
  simp only [MSt.has, decide_eq_true_eq]; omega

/-- An LF gone by. -/
def MSt.lf (m : MSt) : MSt := { m.adv 1 with line := m.line + 1 }

set_option maxHeartbeats 4000000 in
theorem line_code {w : World} {B D T E : Nat} {sk : Bool} {m : MSt} {es : List UInt8} (h : Rep w B D T E sk (m.d es)) (hk : m.Ok) :
    Calls Tryz.prog 135 #[.pointer (some ⟨D, 0, none⟩)] w (DP B D T E sk w ((mLine m).d []) fun _ v => v = .tuple #[]) := by
  have H := hid h; clear h
  have HK := hid hk; clear hk
  go_enter Tryz.func135, Tryz.ntmps135
  go_wp2_with fail
  refine (notNl_any _).mono ?_; rintro e w1 ⟨S, rfl, hS, hb1, hS1⟩
  have H1 := hid (H.out.below hb1)
  have HS1 := hid ((Stp.refl D E w).below hb1)
  have HSET := hid hS
  have hlt := H.out.lt
  have hSD : D < S := by omega
  clear hS hb1 hS1 hlt
  go_wp2_with fail
  refine (take_set H1.out HSET.out hSD).mono ?_
  rintro e w2 ⟨E2, v, rfl, hbs, h2, st2⟩
  obtain rfl : E2 = E := st2.esc
  obtain ⟨b2, o2, c2, rfl, _, _, _, _⟩ := hbs
  obtain ⟨a, ha⟩ : ∃ a, m.skip notNlP = a := ⟨_, rfl⟩
  have hoka : a.Ok := by rw [← ha]; exact (adv_skip m _).ok HK.out
  rw [ha] at h2
  have H2 := hid h2
  have HS2 := hid (HS1.out.trans st2)
  have HOKA := hid hoka
  have HA := hid ha
  clear h2 st2 hoka ha
  go_wp2_with fail
  refine (at0_code H2.out 0 rfl).mono ?_; rintro e w3 ⟨rfl, n3, rfl⟩
  have hml : mLine m = ((if a.at0 = 10 then a.lf else a).reset.to 5) := by unfold mLine; rw [HA.out]; rfl
  have HML := hid hml; clear hml
  by_cases h10 : a.at0 = 10
  · have e10 : ((a.at0.toNat : Int) == 10) = true := by rw [h10]; rfl
    have hhas : a.has 1 = true := at0_has (by rw [h10]; decide)
    have HH := hid hhas
    have hml2 := HML.out
    rw [if_pos h10] at hml2
    have HML2 := hid hml2
    have hokl := (adv_line_nl a h10).1.ok HOKA.out
    have HOKL := hid hokl
    clear hml2 h10 hhas hokl
    go_wp2_with fail
    refine (adv_code (H2.out.drewN n3) HH.out 1 rfl).mono ?_; rintro e w4 ⟨E4, v, rfl, rfl, h4, st4⟩
    obtain rfl : E4 = E2 := st4.esc
    obtain ⟨C, ec, q1, q2, q3, q4, c0, c1, c2', c3, c4, c5, c6, c7, c8, c9, fz, ho⟩ := h4.cells
    have hf8 := fz 8
    simp only [MSt.d, MSt.adv] at c8
    have hl1 := HOKA.out.1
    have hl2 := HOKA.out.2
    have hl3 : a.line ≤ 5000 := by omega
    have H4 := hid h4
    have HS4 := hid ((HS2.out.drewN n3).trans st4)
    clear c0 c1 c2' c3 c4 c5 c6 c7 c9 fz ho q1 q2 q3 q4 h4 st4 hl2
    go_wp2_with fail
    have H5 := hid (show Rep (w4.setCell ⟨D, 8, none⟩ (.int .i64 (a.line + 1))) B D T E4 sk (a.lf.d es) from H4.out.setLine (a.line + 1) (by omega) (by omega))
    have HS5 := hid (HS4.out.setD 8 (.int .i64 (a.line + 1)))
    generalize w4.setCell ⟨D, 8, none⟩ (.int .i64 (a.line + 1)) = w5 at H5 HS5 ⊢
    clear c8 hf8 H4 HS4
    refine (reset_any H5.out).mono ?_; rintro e w6 ⟨E6, v, rfl, rfl, h6, st6⟩
    obtain rfl : E6 = E4 := st6.esc
    rw [d_reset] at h6
    obtain ⟨C, ec, q1, q2, q3, q4, c0, c1, c2', c3, c4, c5, c6, c7, c8, c9, fz, ho⟩ := h6.cells
    have hf5 := fz 5
    have H6 := hid h6
    have HS6 := hid (HS5.out.trans st6)
    clear c0 c1 c2' c3 c4 c6 c7 c8 c9 fz ho q1 q2 q3 q4 h6 st6
    go_wp2_with fail
    go_end0
    rw [HML2.out]
    exact ⟨E6, _, rfl, rfl, H6.out.setSec 5 (by omega), HS6.out.setD _ _⟩
  · have e10 : ((a.at0.toNat : Int) == 10) = false := by rw [← Bool.not_eq_true]; exact fun e => h10 ((u8_eq _ 10 (by omega)).1 e)
    have hml2 := HML.out
    rw [if_neg h10] at hml2
    have HML2 := hid hml2
    clear hml2 h10
    go_wp2_with fail
    refine (reset_any (H2.out.drewN n3)).mono ?_; rintro e w6 ⟨E6, v, rfl, rfl, h6, st6⟩
    obtain rfl : E6 = E2 := st6.esc
    rw [d_reset] at h6
    obtain ⟨C, ec, q1, q2, q3, q4, c0, c1, c2', c3, c4, c5, c6, c7, c8, c9, fz, ho⟩ := h6.cells
    have hf5 := fz 5
    have H6 := hid h6
    have HS6 := hid ((HS2.out.drewN n3).trans st6)
    clear c0 c1 c2' c3 c4 c6 c7 c8 c9 fz ho q1 q2 q3 q4 h6 st6
    go_wp2_with fail
    go_end0
    rw [HML2.out]
    exact ⟨E6, _, rfl, rfl, H6.out.setSec 5 (by omega), HS6.out.setD _ _⟩

/-- From m on to a, the entry's beginning kept. -/
structure SkipK (m a : MSt) : Prop where
  adv : Adv m a
  r0 : a.r0 = m.r0
  r1 : m.r1 ≤ a.r1

theorem SkipK.refl (m : MSt) : SkipK m m := ⟨Adv.refl m, rfl, Nat.le_refl _⟩
theorem SkipK.trans {a b c : MSt} (h : SkipK a b) (k : SkipK b c) : SkipK a c := ⟨h.adv.trans k.adv, k.r0.trans h.r0, Nat.le_trans h.r1 k.r1⟩
theorem skipK_skip (m : MSt) (f : Nat → Bool) : SkipK m (m.skip f) := ⟨adv_skip m f, rfl, by show m.r1 ≤ m.r1 + _; omega⟩
theorem skipK_eol (m : MSt) : SkipK m m.eol.2 := by
  refine ⟨adv_eol m, ?_, ?_⟩
  · unfold MSt.eol; repeat' split
    all_goals rfl
  · unfold MSt.eol; repeat' split
    all_goals (simp only; omega)
theorem skipK_lf (m : MSt) (h : m.at0 = 10) : SkipK m m.lf := ⟨(adv_line_nl m h).1, rfl, by show m.r1 ≤ m.r1 + 1; omega⟩

theorem run_some {m : MSt} {f : Nat → Bool} (h : m.has 1 = true) (hf : f m.at0.toNat = true) : 1 ≤ m.run f := by
  have hl : m.r1 < m.t.length := by
    have : m.r1 + 1 ≤ m.t.length := by simpa [MSt.has] using h
    omega
  unfold MSt.run MSt.rest
  rw [List.drop_eq_getElem_cons hl, List.takeWhile_cons]
  have e : m.t[m.r1] = m.at0 := by simp [MSt.at0, List.getD, hl]
  rw [e, if_pos hf]
  simp

theorem has_left {m : MSt} (h : m.has 1 = true) : m.r1 + 1 ≤ m.t.length := by simpa [MSt.has] using h

theorem eol_less (m : MSt) (h : m.at0 = 13) (he : m.eol.1 = true) : m.eol.2.left < m.left := by
  have hh := at0_has (by rw [h]; decide : m.at0 ≠ 0)
  have hl := has_left hh
  unfold MSt.eol at he ⊢
  rw [if_neg (by rw [hh]; simp), if_neg (by rw [h]; decide), if_pos h] at he ⊢
  split at he
  · rename_i h2
    rw [if_pos h2]
    simp only [MSt.left]; omega
  · rename_i h2
    have h3 : m.r1 + 2 ≤ m.t.length := by simpa [MSt.has] using h2
    rw [if_neg h2]
    split at he
    · rename_i h4
      rw [if_pos h4]
      simp only [MSt.left]; omega
    · simp at he

set_option maxHeartbeats 8000000 in
theorem skip_code {w : World} {B D T E : Nat} {sk : Bool} {m : MSt} {es : List UInt8} (h : Rep w B D T E sk (m.d es)) (hk : m.Ok) :
    Calls Tryz.prog 51 #[.pointer (some ⟨D, 0, none⟩)] w (DP B D T E sk w ((mSkip m).d es) fun _ v => v = .tuple #[] ∧ SkipK m (mSkip m)) := by
  have H := hid h; clear h
  have HK := hid hk; clear hk
  go_enter Tryz.func51, Tryz.ntmps51
  go_wp2_with fail
  go_loopg [2] (m.left + 1) (fun gh u2 wx => ∃ cur : MSt, gh = cur.left + 1 ∧ Hid (iterR skipStep m0 cur = mSkip m) ∧ Rep wx B D T E sk (cur.d es) ∧ Stp D E w E wx ∧ SkipK m cur)
  case atStart => exact ⟨m, rfl, hid rfl, H.out, Stp.refl _ _ _, SkipK.refl _⟩
  case round =>
    obtain ⟨cur, hg, hit, hrep, hstp, hskk⟩ := hrel
    have HIT := hit; clear hit
    obtain ⟨C, ec, q1, q2, q3, q4, c0, c1, c2, c3, c4, c5, c6, c7, c8, c9, fz, ho⟩ := hrep.cells
    have hle := hrep.le0
    have hle1 := hrep.le1
    have hsm := hrep.small
    simp only [MSt.d] at hle hle1 hsm c2 c3
    have H1 := hid hrep
    have HS1 := hid hstp
    have HSK := hid hskk
    have HOKC := hid (hskk.adv.ok HK.out)
    clear c0 c1 c4 c5 c6 c7 c8 c9 fz ho q1 q2 q3 q4 hrep hstp hskk
    obtain ⟨g0, rfl⟩ : ∃ g0, gk = g0 + 1 := ⟨cur.left, hg⟩
    have hg0 : g0 = cur.left := by omega
    have HG0 := hid hg0
    clear hg hg0
    go_wp2_with fail
    go_quiet (fail)
    go_wp2_with fail
    have H2 := hid (H1.out.drewN nq)
    have HS2 := hid (HS1.out.drewN nq)
    generalize wr.drewN nq = w2 at H2 HS2 ⊢
    clear c2 c3 H1 HS1
    refine (blank_any _).mono ?_; rintro e w3 ⟨S, rfl, hS, hb3, hS3⟩
    have H3 := hid (H2.out.below hb3)
    have HS3 := hid (HS2.out.below hb3)
    have HSET := hid hS
    have hlt := H2.out.lt
    have hSD : D < S := by omega
    clear hS hb3 hS3 hlt H2 HS2
    go_wp2_with fail
    refine (take_set H3.out HSET.out hSD).mono ?_
    rintro e w4 ⟨E4, v, rfl, hbs, h4, st4⟩
    obtain rfl : E4 = E := st4.esc
    obtain ⟨b4, o4, c4, rfl, _, _, _, _⟩ := hbs
    obtain ⟨a, ha⟩ : ∃ a, cur.skip blankP = a := ⟨_, rfl⟩
    rw [ha] at h4
    have hka := skipK_skip cur blankP
    rw [ha] at hka
    have HKA := hid hka
    have HOKA := hid (hka.adv.ok HOKC.out)
    have HA := hid ha
    have H4 := hid h4
    have HS4 := hid (HS3.out.trans st4)
    clear h4 st4 ha hka H3 HS3
    go_wp2_with fail
    refine (at0_code H4.out 0 rfl).mono ?_; rintro e w5 ⟨rfl, n5, rfl⟩
    have H5 := hid (H4.out.drewN n5)
    have HS5 := hid (HS4.out.drewN n5)
    generalize w4.drewN n5 = w6 at H5 HS5 ⊢
    clear H4 HS4
    by_cases h35 : a.at0 = 35
    · have e35 : ((a.at0.toNat : Int) == 35) = true := by rw [h35]; rfl
      have hhas := at0_has (by rw [h35]; decide : a.at0 ≠ 0)
      have hcp : commentP a.at0.toNat = true := by rw [h35]; decide
      obtain ⟨b, hb⟩ : ∃ b, a.skip commentP = b := ⟨_, rfl⟩
      have hkb := skipK_skip a commentP
      rw [hb] at hkb
      have hlb : b.left < a.left := by
        have h1 := run_some hhas hcp
        have h2 := has_left hhas
        rw [← hb]
        show a.t.length - (a.r1 + a.run commentP) < a.t.length - a.r1
        omega
      have hst : skipStep cur = if b.eol.1 = true then .inl b.eol.2 else .inr { b.eol.2 with r1 := b.r0 + cur.off } := by
        unfold skipStep; simp only; rw [HA.out, if_pos h35, hb]
      have HST := hid hst
      have HKB := hid hkb
      have HLB := hid hlb
      have HOKB := hid (hkb.adv.ok HOKA.out)
      have HBB := hid hb
      clear hhas hcp hb hkb hlb hst h35
      go_wp2_with fail
      refine (comment_any _).mono ?_; rintro e w7 ⟨S2, rfl, hS, hb7, hS7⟩
      have H7 := hid (H5.out.below hb7)
      have HS7 := hid (HS5.out.below hb7)
      have HSET2 := hid hS
      have hlt := H5.out.lt
      have hSD2 : D < S2 := by omega
      clear hS hb7 hS7 hlt H5 HS5
      go_wp2_with fail
      refine (take_set H7.out HSET2.out hSD2).mono ?_
      rintro e w8 ⟨E8, v, rfl, hbs, h8, st8⟩
      obtain rfl : E8 = E4 := st8.esc
      obtain ⟨b8, o8, c8, rfl, _, _, _, _⟩ := hbs
      rw [HBB.out] at h8
      have H8 := hid h8
      have HS8 := hid (HS7.out.trans st8)
      clear h8 st8 H7 HS7
      go_wp2_with fail
      refine (takeEOL_any H8.out HOKB.out).mono ?_
      rintro e w9 ⟨E9, v, rfl, rfl, h9, st9⟩
      obtain rfl : E9 = E8 := st9.esc
      rw [d_eol] at h9 ⊢
      simp only [] at h9
      have H9 := hid h9
      have HS9 := hid (HS8.out.trans st9)
      clear h9 st9 H8 HS8
      simp only []
      obtain ⟨eb, heb⟩ : ∃ eb, b.eol.1 = eb := ⟨_, rfl⟩
      have hst2 := HST.out
      rw [heb] at hst2 ⊢
      have HST2 := hid hst2
      have HEB := hid heb
      clear hst2 heb
      cases eb
      · have hce : b.eol.2 = b := by
          have h := HEB.out
          unfold MSt.eol at h ⊢
          repeat' split at h
          all_goals first | (simp at h; done) | skip
          all_goals simp_all
        rw [hce] at H9
        have hst3 := HST2.out
        rw [if_neg (by simp), hce] at hst3
        have hbr : b.r0 = cur.r0 := HKB.out.r0.trans HKA.out.r0
        have hfin : ({ b with r1 := b.r0 + cur.off } : MSt) = { b with r1 := cur.r1 } := by
          have : b.r0 + cur.off = cur.r1 := by rw [hbr]; unfold MSt.off; omega
          rw [this]
        rw [hfin] at hst3
        have hms : mSkip m = { b with r1 := cur.r1 } := by rw [← HIT.out]; exact iterR_done hst3
        have hbl : b.line = cur.line ∧ b.t = cur.t := by rw [← HBB.out, ← HA.out]; exact ⟨rfl, rfl⟩
        have hsk : SkipK cur { b with r1 := cur.r1 } := by
          refine ⟨⟨?_, ?_, ?_⟩, hbr, Nat.le_refl _⟩
          · show b.t.length - cur.r1 ≤ cur.t.length - cur.r1; rw [hbl.2]; exact Nat.le_refl _
          · show cur.line ≤ b.line; omega
          · show b.line + ((b.t.length - cur.r1 : Nat) : Int) ≤ cur.line + ((cur.t.length - cur.r1 : Nat) : Int); rw [hbl.1, hbl.2]; exact Int.le_refl _
        have HMS := hid hms
        have HSK2 := hid hsk
        obtain ⟨C, ec, q1, q2, q3, q4, c0, c1, c2, c3, c4, c5, c6, c7, c8', c9, fz, ho⟩ := H9.out.cells
        have hf3 := fz 3
        simp only [MSt.d] at c2
        rw [hbr] at c2
        have HBR := hid hbr
        have hr1 : cur.r1 ≤ b.t.length := by rw [hbl.2]; exact hle1
        have he : (cur.r0 : Int) + ((cur.r1 : Int) - (cur.r0 : Int)) = (cur.r1 : Int) := by omega
        clear hce hst3 hfin hms hbl hsk hbr c0 c1 c4 c5 c6 c7 c8' c9 fz ho q1 q2 q3 q4
        go_wp2_with fail
        first | go_end0 | (rw [Exit.noGoto_ret]; refine bodyPost_ret (results_none rfl _ _ _) rfl ?_) | ((try simp only [Exit.inBlock, Exit.then]); refine bodyPost_ret (results_none rfl _ _ _) rfl ?_)
        rw [HMS.out]
        refine ⟨E9, _, rfl, ⟨rfl, HSK.out.trans HSK2.out⟩, ?_, HS9.out.setD _ _⟩
        exact H9.out.setR1 cur.r1 (by show b.r0 ≤ cur.r1; rw [HBR.out]; exact hle) hr1
      · have hst3 := HST2.out
        rw [if_pos rfl] at hst3
        have hit2 : iterR skipStep m0 b.eol.2 = mSkip m := by rw [← HIT.out]; exact (iterR_more hst3).symm
        have HIT2 := hid hit2
        have hke := skipK_eol b
        have hlt2 : b.eol.2.left < g0 := by
          have h1 := HG0.out
          have h2 := HLB.out
          have h3 := HKA.out.adv.left
          have h4 := hke.adv.left
          omega
        have HKE := hid hke
        clear hst3 hit2 hke
        go_wp2_with fail
        go_roundg (b.eol.2.left + 1)
        case measure => omega
        case rel => exact ⟨b.eol.2, rfl, HIT2, H9.out, HS9.out, ((HSK.out.trans HKA.out).trans HKB.out).trans HKE.out⟩
    have e35 : ((a.at0.toNat : Int) == 35) = false := by rw [← Bool.not_eq_true]; exact fun e => h35 ((u8_eq _ 35 (by omega)).1 e)
    by_cases h10 : a.at0 = 10
    · have e10 : ((a.at0.toNat : Int) == 10) = true := by rw [h10]; rfl
      have hhas := at0_has (by rw [h10]; decide : a.at0 ≠ 0)
      have hst : skipStep cur = .inl a.lf := by unfold skipStep; simp only; rw [HA.out, if_neg h35, if_pos h10]; rfl
      have hit2 : iterR skipStep m0 a.lf = mSkip m := by rw [← HIT.out]; exact (iterR_more hst).symm
      have hlf := skipK_lf a h10
      have hlt2 : a.lf.left < g0 := by
        have h1 := HG0.out
        have h3 := HKA.out.adv.left
        have h4 : a.lf.left < a.left := (adv_line_nl a h10).2
        omega
      have HIT2 := hid hit2
      have HLF := hid hlf
      have HHAS := hid hhas
      have hl1 := HOKA.out.1
      have hl2 := HOKA.out.2
      have hl3 : a.line ≤ 5000 := by omega
      obtain ⟨C, ec, q1, q2, q3, q4, c0, c1, c2, c3, c4, c5, c6, c7, c8, c9, fz, ho⟩ := H5.out.cells
      have hf8 := fz 8
      simp only [MSt.d] at c8
      clear hhas hst hit2 hlf h10 h35 hl2 c0 c1 c2 c3 c4 c5 c6 c7 c9 fz ho q1 q2 q3 q4
      go_wp2_with fail
      have H6 := hid (show Rep (w6.setCell ⟨D, 8, none⟩ (.int .i64 (a.line + 1))) B D T E4 sk (({ a with line := a.line + 1 } : MSt).d es) from H5.out.setLine (a.line + 1) (by omega) (by omega))
      have HS6 := hid (HS5.out.setD 8 (.int .i64 (a.line + 1)))
      generalize w6.setCell ⟨D, 8, none⟩ (.int .i64 (a.line + 1)) = w7 at H6 HS6 ⊢
      clear c8 hf8 H5 HS5
      refine (adv_code (m := { a with line := a.line + 1 }) H6.out HHAS.out 1 rfl).mono ?_; rintro e w8 ⟨E8, v, rfl, rfl, h8, st8⟩
      obtain rfl : E8 = E4 := st8.esc
      have H8 := hid h8
      have HS8 := hid (HS6.out.trans st8)
      clear h8 st8
      go_wp2_with fail
      go_roundg (a.lf.left + 1)
      case measure => omega
      case rel => exact ⟨a.lf, rfl, HIT2, H8.out, HS8.out, (HSK.out.trans HKA.out).trans HLF.out⟩
    have e10 : ((a.at0.toNat : Int) == 10) = false := by rw [← Bool.not_eq_true]; exact fun e => h10 ((u8_eq _ 10 (by omega)).1 e)
    by_cases h13 : a.at0 = 13
    · have e13 : ((a.at0.toNat : Int) == 13) = true := by rw [h13]; rfl
      have hst : skipStep cur = if a.eol.1 = true then .inl a.eol.2 else .inr a.eol.2 := by unfold skipStep; simp only; rw [HA.out, if_neg h35, if_neg h10, if_pos h13]
      have HST := hid hst
      have H13 := hid h13
      clear hst h13 h10 h35
      go_wp2_with fail
      refine (takeEOL_any H5.out HOKA.out).mono ?_
      rintro e w9 ⟨E9, v, rfl, rfl, h9, st9⟩
      obtain rfl : E9 = E4 := st9.esc
      rw [d_eol] at h9 ⊢
      simp only [] at h9
      have H9 := hid h9
      have HS9 := hid (HS5.out.trans st9)
      clear h9 st9 H5 HS5
      simp only []
      obtain ⟨eb, heb⟩ : ∃ eb, a.eol.1 = eb := ⟨_, rfl⟩
      have hst2 := HST.out
      rw [heb] at hst2 ⊢
      have HST2 := hid hst2
      have HEB := hid heb
      have hke := skipK_eol a
      have HKE := hid hke
      clear hst2 heb hke
      cases eb
      · have hst3 := HST2.out
        rw [if_neg (by simp)] at hst3
        have hms : mSkip m = a.eol.2 := by rw [← HIT.out]; exact iterR_done hst3
        have HMS := hid hms
        clear hst3 hms
        go_wp2_with fail
        first | go_end0 | (rw [Exit.noGoto_ret]; refine bodyPost_ret (results_none rfl _ _ _) rfl ?_) | ((try simp only [Exit.inBlock, Exit.then]); refine bodyPost_ret (results_none rfl _ _ _) rfl ?_)
        rw [HMS.out]
        exact ⟨E9, _, rfl, ⟨rfl, (HSK.out.trans HKA.out).trans HKE.out⟩, H9.out, HS9.out⟩
      · have hst3 := HST2.out
        rw [if_pos rfl] at hst3
        have hit2 : iterR skipStep m0 a.eol.2 = mSkip m := by rw [← HIT.out]; exact (iterR_more hst3).symm
        have HIT2 := hid hit2
        have hlt2 : a.eol.2.left < g0 := by
          have h1 := HG0.out
          have h3 := HKA.out.adv.left
          have h4 := eol_less a H13.out HEB.out
          omega
        clear hst3 hit2
        go_wp2_with fail
        go_roundg (a.eol.2.left + 1)
        case measure => omega
        case rel => exact ⟨a.eol.2, rfl, HIT2, H9.out, HS9.out, (HSK.out.trans HKA.out).trans HKE.out⟩
    have e13 : ((a.at0.toNat : Int) == 13) = false := by rw [← Bool.not_eq_true]; exact fun e => h13 ((u8_eq _ 13 (by omega)).1 e)
    have hst : skipStep cur = .inr a := by unfold skipStep; simp only; rw [HA.out, if_neg h35, if_neg h10, if_neg h13]
    have hms : mSkip m = a := by rw [← HIT.out]; exact iterR_done hst
    have HMS := hid hms
    clear hst hms h35 h10 h13
    go_wp2_with fail
    go_end0
    rw [HMS.out]
    exact ⟨E4, _, rfl, ⟨rfl, HSK.out.trans HKA.out⟩, H5.out, HS5.out⟩
end Go.Proofs.YtejlokdcocacaaaGreatDoor
