/- NextTag. -/
import Derived.Test.YtejlokdcocacaaaGreatDoorKMeas
namespace Go.Proofs.YtejlokdcocacaaaGreatDoor
open Go.RowKit Go.Proofs.YtejlokdcocacaaaGreatDoorW.PrintLast

/-- NextTag's result. -/
def TagIs (B : Nat) (r : TagR) (w : World) (v : Value) : Prop :=
  match r with
  | .err f => ∃ v3, ErrIs B f w v3 ∧ v = .tuple #[.slice none 0 0, .slice none 0 0, v3]
  | .none => v = .tuple #[.slice none 0 0, .slice none 0 0, .nilIface]
  | .some => ∃ l1 v1 l2 v2, BytesIs w v1 l1 ∧ BytesIs w v2 l2 ∧ v = .tuple #[v1, v2, .nilIface]

theorem sets_ready {w w2 w3 : World} {B D T E S X : Nat} {sk : Bool} {s : DSt} {f : Nat → Bool} {g : Nat → Int} (H : Rep w B D T E sk s) (hS : SetIs w2 S f) (hb2 : Below w.heap.size w w2) (hS2 : w.heap.size ≤ S) (hX : EscIs w3 X g) (hb3 : Below w2.heap.size w2 w3) (hX3 : w2.heap.size ≤ X) :
    Rep w3 B D T E sk s ∧ Stp D E w E w3 ∧ SetIs w3 S f ∧ EscIs w3 X g ∧ D < S ∧ E < S ∧ D < X ∧ E < X := by
  have h1 := H.lt
  have h2 := (H.below hb2).lt
  exact ⟨(H.below hb2).below hb3, (((Stp.refl D E w).below hb2).below hb3), hS.grow hb3, hX, by omega, by omega, by omega, by omega⟩

theorem BytesIs.stw {w w' : World} {b o n c k D T E E' : Nat} {l : List UInt8} (h : BytesIs w (.slice (some ⟨b, o, none⟩) n c) l) (hl : b = T ∨ b = E ∧ o + n ≤ k) (st : Stw k D E w E' w') (hDT : D ≠ T) (hTE : T ≠ E) : BytesIs w' (.slice (some ⟨b, o, none⟩) n c) l := by
  obtain ⟨b', o', c', he, h1, h2, h3, h4⟩ := h
  simp only [Value.slice.injEq, Option.some.injEq, Addr.mk.injEq, and_true] at he
  obtain ⟨⟨rfl, rfl⟩, rfl, rfl⟩ := he
  refine ⟨b, o, c, rfl, h1, h2, by have := st.size; omega, fun i hi => ?_⟩
  rw [← h4 i hi]
  rcases hl with rfl | ⟨rfl, hl⟩
  · exact World.cell?_of_block (w := w) (a := ⟨b, o + i, none⟩) (st.block b h3 (fun e => hDT e.symm) hTE)
  · exact st.keep (o + i) (by omega)

theorem BytesIs.stp {w w' : World} {b o n c D E E' : Nat} {l : List UInt8} (h : BytesIs w (.slice (some ⟨b, o, none⟩) n c) l) (hb : b ≠ D) (st : Stp D E w E' w') : BytesIs w' (.slice (some ⟨b, o, none⟩) n c) l := by
  obtain ⟨b', o', c', he, h1, h2, h3, h4⟩ := h
  simp only [Value.slice.injEq, Option.some.injEq, Addr.mk.injEq, and_true] at he
  obtain ⟨⟨rfl, rfl⟩, rfl, rfl⟩ := he
  refine ⟨b, o, c, rfl, h1, h2, by have := st.size; omega, fun i hi => ?_⟩
  rw [← h4 i hi]
  exact World.cell?_of_block (w := w) (a := ⟨b, o + i, none⟩) (st.block b h3 hb)

theorem lies_slice {T E k b o n c : Nat} (h : Lies T E k (.slice (some ⟨b, o, none⟩) n c)) : b = T ∨ b = E ∧ o + n ≤ k := by
  obtain ⟨b', o', k', c', he, hl⟩ := h
  simp only [Value.slice.injEq, Option.some.injEq, Addr.mk.injEq, and_true] at he
  obtain ⟨⟨rfl, rfl⟩, rfl, rfl⟩ := he
  exact hl

theorem off_int {w : World} {B D T E : Nat} {sk : Bool} {m : MSt} {es : List UInt8} (h : Rep w B D T E sk (m.d es)) : (m.r1 : Int) - (m.r0 : Int) = (m.off : Int) := by
  have := h.le0
  simp only [MSt.d] at this
  unfold MSt.off; omega

theorem off_tk {w : World} {B D T E : Nat} {sk : Bool} {m : MSt} {es : List UInt8} (h : Rep w B D T E sk (m.d es)) (f : Nat → Bool) (g : Nat → Int) : (m.tk f g).r0 + m.off ≤ (m.tk f g).r1 := by
  have := h.le0
  simp only [MSt.d] at this
  show m.r0 + (m.r1 - m.r0) ≤ m.r1 + _
  omega

theorem take_set {w : World} {B D T E : Nat} {sk : Bool} {m : MSt} {es : List UInt8} {S : Nat} {f : Nat → Bool} (h : Rep w B D T E sk (m.d es)) (hS : SetIs w S f) (hSD : D < S) :
    Calls Tryz.prog 64 #[.pointer (some ⟨D, 0, none⟩), .pointer (some ⟨S, 0, none⟩)] w (DP B D T E sk w ((m.skip f).d es) fun w' v => BytesIs w' v (m.ran f)) :=
  take_any h hS (by omega)

set_option maxHeartbeats 8000000 in
set_option maxRecDepth 100000 in
theorem tag_code {w : World} {B D T E : Nat} {sk : Bool} {m : MSt} {es : List UInt8} (h : Rep w B D T E sk (m.d es)) (hes : es.length + m.r0 ≤ m.r1) (hk : m.Ok) (h1 : 1 ≤ m.sec) :
    Calls Tryz.prog 31 #[.pointer (some ⟨D, 0, none⟩)] w (DX B D T E sk w (mTag m).1 (TagIs B (mTag m).2)) := by
  have H := hid h; clear h
  have HK := hid hk; clear hk
  have HES := hid hes; clear hes
  have hDE := H.out.DE
  have hto := to_any H.out 1 h1 1 rfl
  by_cases hs1 : m.sec = 1
  case neg =>
    have hb1 : (m.sec == 1) = false := by rw [beq_eq_false_iff_ne]; exact hs1
    rw [hb1] at hto
    have HTO := hid hto; clear hto hb1
    have e1 : mTag m = (m, .none) := by unfold mTag; rw [if_pos hs1]
    rw [e1]
    clear e1 hs1
    go_enter Tryz.func31, Tryz.ntmps31
    go_wp2_with fail
    refine HTO.out.mono ?_; rintro e w1 ⟨rfl, rfl⟩
    clear HTO
    go_wp2_with fail
    go_ret3
    exact ⟨E, es, _, rfl, rfl, H.out, (Stp.refl D E w1).weak 0 H.out.lt.2.2.1 hDE, HES.out⟩
  have hb1 : (m.sec == 1) = true := by rw [beq_iff_eq]; exact hs1
  rw [hb1] at hto
  have HTO := hid hto; clear hto hb1
  have HS1 := hid hs1; clear hs1
  go_enter Tryz.func31, Tryz.ntmps31
  go_wp2_with fail
  refine HTO.out.mono ?_; rintro e w1 ⟨rfl, rfl⟩
  clear HTO
  go_upto_region 6 with fail
  obtain ⟨bb, hbb⟩ : ∃ bb, (m.has 1 && blankP m.at0.toNat) = bb := ⟨_, rfl⟩
  have HBB := hid hbb; clear hbb
  go_cut [28] (fun u28 wx => u28 = .bool bb ∧ Rep wx B D T E sk (m.d es) ∧ Stp D E w1 E wx)
  case first =>
    obtain ⟨hh, hhh⟩ : ∃ hh, m.has 1 = hh := ⟨_, rfl⟩
    have HHH := hid hhh
    have hc := has_code H.out 1 rfl
    rw [hhh] at hc
    have HC := hid hc; clear hc hhh
    cases hh
    · go_wp2_with (go_at_call 52; refine HC.out.mono ?_; rintro e w2 ⟨rfl, n2, rfl⟩)
      go_meet
      exact ⟨by rw [← HBB.out, HHH.out]; rfl, H.out.drewN _, (Stp.refl _ _ _).drewN _⟩
    · go_wp2_with fail
      refine HC.out.mono ?_; rintro e w2 ⟨rfl, n2, rfl⟩
      go_wp2_with fail
      refine (blank_any _).mono ?_; rintro e w3 ⟨S, rfl, hS, hb3, hS3⟩
      have HR3 := hid ((H.out.drewN n2).below hb3)
      have HST := hid (((Stp.refl D E w1).drewN n2).below hb3)
      have HSET := hid hS
      clear hS hb3 hS3
      go_wp2_with fail
      refine (at0_code HR3.out 0 rfl).mono ?_; rintro e w4 ⟨rfl, n4, rfl⟩
      have hget := get_any (w := w3.drewN n4) (S := S) (f := blankP) HSET.out m.at0
      have HG := hid hget; clear hget
      go_wp2_with fail
      refine HG.out.mono ?_; rintro e w5 ⟨rfl, rfl⟩
      go_wp2_with fail
      go_meet
      exact ⟨by rw [← HBB.out, HHH.out]; rfl, HR3.out.drewN _, HST.out.drewN _⟩
  case rest =>
    obtain ⟨rfl, hr2, st2⟩ := hcut
    have H2 := hid hr2; clear hr2
    have HS2 := hid st2; clear st2
    cases bb
    case true =>
      have hx : m.has 1 = true ∧ blankP m.at0.toNat = true := by have := HBB.out; simpa using this
      have e1 : mTag m = ((m.skip blankP).to 2, .none) := by unfold mTag; rw [if_neg (by have := HS1.out; omega), if_pos hx]
      have HE1 := hid e1; clear e1 hx
      go_wp2_with fail
      refine (blank_any _).mono ?_; rintro e w3 ⟨S, rfl, hS, hb3, hS3⟩
      have HR3 := hid (H2.out.below hb3)
      have HST := hid (HS2.out.below hb3)
      have HSET := hid hS
      have hlt := H2.out.lt
      have hSD : D < S := by omega
      clear hS hb3 hS3 hlt
      go_wp2_with fail
      refine (take_set HR3.out HSET.out hSD).mono ?_
      rintro e w4 ⟨E4, v, rfl, hbs, h4, st4⟩
      obtain rfl : E4 = E := st4.esc
      obtain ⟨b4, o4, c4, rfl, hb41, hb42, hb43, hb44⟩ := hbs
      clear hb41 hb42 hb43 hb44
      obtain ⟨C, ec, q1, q2, q3, q4, c0, c1, c2, c3, c4', c5, c6, c7, c8, c9, fz, ho⟩ := h4.cells
      have hf5 := fz 5
      clear c0 c1 c2 c3 c4' c6 c7 c8 c9 fz ho q1 q2 q3 q4
      have H4 := hid h4; clear h4
      have HS4 := hid (HST.out.trans st4); clear st4
      go_wp2_with fail
      go_ret3
      rw [HE1.out]
      refine ⟨E4, es, _, rfl, rfl, H4.out.setSec 2 (by omega), (HS4.out.setD _ _).weak 0 H.out.lt.2.2.1 hDE, ?_⟩
      have := HES.out
      show es.length + m.r0 ≤ m.r1 + _
      omega
    case false =>
      have hx : ¬ (m.has 1 = true ∧ blankP m.at0.toNat = true) := by have := HBB.out; simpa using this
      have HX := hid hx; clear hx
      go_wp2_with fail
      refine (tagKey_any _).mono ?_; rintro e w3 ⟨S, rfl, hS, hb3, hS3⟩
      have HSET := hid hS; clear hS
      have HB3 := hid hb3; clear hb3
      have HLS := hid hS3; clear hS3
      go_wp2_with fail
      refine (tagE_any _).mono ?_; rintro e w4 ⟨X, rfl, hX, hb4, hX4⟩
      obtain ⟨hr4, hs4, hset4, hesc4, hSD, hSE, hXD, hXE⟩ := sets_ready H2.out HSET.out HB3.out HLS.out hX hb4 hX4
      have HR4 := hid hr4; clear hr4
      have HS4 := hid (HS2.out.trans hs4); clear hs4 hX hb4 hX4
      obtain ⟨ok, hok⟩ : ∃ ok, Lib.validD (tok tagKeyP tagE m.rest).2 = ok := ⟨_, rfl⟩
      have HTK := hid (take_code HR4.out HES.out HK.out hset4 hesc4 hSD hSE hXD hXE tagE_ok ok hok)
      have HOK := hid hok
      clear hok hset4 hesc4 hSD hSE hXD hXE HSET HB3 HLS
      obtain ⟨b, hb⟩ : ∃ b, m.tk tagKeyP tagE = b := ⟨_, rfl⟩
      have HOKB := hid (show b.Ok by rw [← hb]; exact (adv_tk m _ _).ok HK.out)
      have HBK := hid hb; clear hb
      cases ok
      case false =>
        go_wp2_with fail
        refine HTK.out.mono ?_; rintro e w5 ht; obtain ⟨E5, es5, v1, v3, rfl, hE, h5, st5, hl5⟩ := ht.bad
        rw [HBK.out] at h5 hl5 hE
        have H5 := hid h5; clear h5
        have HS5 := hid ((HS4.out.weak 0 H.out.lt.2.2.1 hDE).trans st5 (Nat.zero_le _) hDE); clear st5 ht
        have HE := hid hE
        obtain ⟨XE, YE, rfl, hx1, hx2, hx3⟩ := hE
        clear hx1 hx2 hx3
        go_wp2_with fail
        go_ret3
        have e1 : mTag m = (b.broke, .err (b.flt m.off)) := by
          unfold mTag
          rw [if_neg (by have := HS1.out; omega), if_neg HX.out]
          simp only [HBK.out]
          rw [if_pos (.inl HOK.out)]
        rw [e1]
        exact ⟨E5, es5, _, rfl, ⟨_, HE.out, rfl⟩, H5.out, HS5.out, hl5⟩
      case true =>
        have hl := said_none m tagKeyP tagE sk
        obtain ⟨n, hn⟩ : ∃ n, (m.said tagKeyP tagE sk).length = n := ⟨_, rfl⟩
        rw [hn] at hl
        have HL := hid hl; clear hl
        have HN := hid hn; clear hn
        go_wp2_with fail
        refine HTK.out.mono ?_; rintro e w5 ht; obtain ⟨E5, es5, v1, rfl, hbs, hL5, h5, st5, hl5, hl6⟩ := ht.good
        rw [HBK.out] at h5 hl6
        have H5 := hid h5; clear h5
        have HS5 := hid ((HS4.out.weak 0 H.out.lt.2.2.1 hDE).trans st5 (Nat.zero_le _) hDE); clear st5 ht
        have HBS := hid hbs
        obtain ⟨b5, o5, c5, rfl, hb51, hb52, hb53, hb54⟩ := hbs
        clear hb54
        rw [HN.out] at hb51 hL5 ⊢
        have HLI := hid (lies_slice hL5); clear hL5
        go_upto_region 13 with fail
        obtain ⟨bd, hbd⟩ : ∃ bd, ((n == 0) || !(b.has 1) || !(b.at0 == 61)) = bd := ⟨_, rfl⟩
        have HBD := hid hbd; clear hbd
        go_cut [60] (fun u60 wx => u60 = .bool bd ∧ ∃ q, wx = w5.drewN q)
        case first =>
          by_cases hn0 : n = 0
          · subst hn0
            go_wp2_with fail
            go_meet
            exact ⟨by rw [← HBD.out]; rfl, 0, rfl⟩
          · have hnz : ((n : Int) == 0) = false := by rw [beq_eq_false_iff_ne]; omega
            have hnn : (n == 0) = false := by rw [beq_eq_false_iff_ne]; exact hn0
            have HNN := hid hnn; clear hnn hn0
            obtain ⟨hh, hhh⟩ : ∃ hh, b.has 1 = hh := ⟨_, rfl⟩
            have HHH := hid hhh
            have hc := has_code H5.out 1 rfl
            rw [hhh] at hc
            have HC := hid hc; clear hc hhh
            cases hh
            · go_wp2_with (go_at_call 52; refine HC.out.mono ?_; rintro e w6 ⟨rfl, n6, rfl⟩)
              go_meet
              exact ⟨by rw [← HBD.out, HNN.out, HHH.out]; rfl, _, rfl⟩
            · by_cases h61 : b.at0 = 61
              · have e61 : ((b.at0.toNat : Int) != 61) = false := by rw [h61]; rfl
                have H61 := hid h61; clear h61
                go_wp2_with fail
                refine HC.out.mono ?_; rintro e w6 ⟨rfl, n6, rfl⟩
                go_wp2_with fail
                refine (at0_code (H5.out.drewN n6) 0 rfl).mono ?_; rintro e w7 ⟨rfl, n7, rfl⟩
                go_wp2_with fail
                go_meet
                exact ⟨by rw [← HBD.out, HNN.out, HHH.out, H61.out]; rfl, _, rfl⟩
              · have e61 : ((b.at0.toNat : Int) != 61) = true := by
                  rw [bne_iff_ne]; exact fun e => h61 ((u8_eq _ 61 (by omega)).1 (by rw [beq_iff_eq]; exact e))
                have h61' : (b.at0 == 61) = false := by rw [beq_eq_false_iff_ne]; exact h61
                have H61 := hid h61'; clear h61 h61'
                go_wp2_with fail
                refine HC.out.mono ?_; rintro e w6 ⟨rfl, n6, rfl⟩
                go_wp2_with fail
                refine (at0_code (H5.out.drewN n6) 0 rfl).mono ?_; rintro e w7 ⟨rfl, n7, rfl⟩
                go_wp2_with fail
                go_meet
                exact ⟨by rw [← HBD.out, HNN.out, HHH.out, H61.out]; rfl, _, rfl⟩
        case rest =>
          obtain ⟨rfl, q, rfl⟩ := hcut
          have H6 := hid (H5.out.drewN q)
          have HS6 := hid (HS5.out.drewN q)
          have HBS6 := hid (HBS.out.drewN q)
          have hbl : b5 < (w5.drewN q).heap.size := hb53
          generalize w5.drewN q = w6 at H6 HS6 HBS6 hbl ⊢
          have hof := off_tk HR4.out tagKeyP tagE
          rw [HBK.out] at hof
          have HO := hid hof; clear hof
          have HO2 := hid (off_int HR4.out)
          clear HBS HS5 H5 hb53
          cases bd
          case true =>
            have hbad : Lib.validD (tok tagKeyP tagE m.rest).2 = false ∨ (tok tagKeyP tagE m.rest).1 = 0 ∨ b.has 1 = false ∨ b.at0 ≠ 61 := by
              have h := HBD.out
              simp only [Bool.or_eq_true, beq_iff_eq, Bool.not_eq_true', beq_eq_false_iff_ne] at h
              rcases h with (h | h) | h
              · exact .inr (.inl (HL.out.1 h))
              · exact .inr (.inr (.inl h))
              · exact .inr (.inr (.inr h))
            have e1 : mTag m = (b.broke, .err (b.flt m.off)) := by
              unfold mTag
              rw [if_neg (by have := HS1.out; omega), if_neg HX.out]
              simp only [HBK.out]
              rw [if_pos hbad]
            have HE1 := hid e1; clear e1 hbad
            go_wp2_with fail
            refine (has_code H6.out 1 rfl).mono ?_; rintro e w7 ⟨rfl, n7, rfl⟩
            have H7 := hid (H6.out.drewN n7)
            have HS7 := hid (HS6.out.drewN n7)
            cases b.has 1
            · go_wp2_with fail
              refine (errorsNew_any _ _).mono ?_; rintro e w7 ⟨rfl, rfl⟩
              go_wp2_with fail
              refine (fault_code (H7.out.alloc _) HOKB.out m.off HO.out _ HO2.out _ H7.out.bSize).mono ?_
              rintro e w8 ⟨E8, v, rfl, hE, h8, st8⟩
              have HE := hid hE
              obtain ⟨XE, YE, rfl, hx1, hx2, hx3⟩ := hE
              clear hx1 hx2 hx3
              have H8 := hid h8; clear h8
              have HS8 := hid st8; clear st8
              go_wp2_with fail
              go_ret3
              rw [HE1.out]
              exact ⟨E8, _, _, rfl, ⟨_, HE.out, rfl⟩, H8.out, fault_end HS7.out hDE H7.out HS8.out, hl6⟩
            · by_cases hn0 : n = 0
              · subst hn0
                have hng : ¬ (0 : Int) < ((0 : Nat) : Int) := by omega
                go_wp2_with fail
                refine (errorsNew_any _ _).mono ?_; rintro e w7 ⟨rfl, rfl⟩
                go_wp2_with fail
                refine (fault_code (H7.out.alloc _) HOKB.out m.off HO.out _ HO2.out _ H7.out.bSize).mono ?_
                rintro e w8 ⟨E8, v, rfl, hE, h8, st8⟩
                have HE := hid hE
                obtain ⟨XE, YE, rfl, hx1, hx2, hx3⟩ := hE
                clear hx1 hx2 hx3
                have H8 := hid h8; clear h8
                have HS8 := hid st8; clear st8
                go_wp2_with fail
                go_ret3
                rw [HE1.out]
                exact ⟨E8, _, _, rfl, ⟨_, HE.out, rfl⟩, H8.out, fault_end HS7.out hDE H7.out HS8.out, hl6⟩
              · have hng : (0 : Int) < (n : Int) := by omega
                go_wp2_with fail
                refine (errorsNew_any _ _).mono ?_; rintro e w7 ⟨rfl, rfl⟩
                go_wp2_with fail
                refine (fault_code (H7.out.alloc _) HOKB.out m.off HO.out _ HO2.out _ H7.out.bSize).mono ?_
                rintro e w8 ⟨E8, v, rfl, hE, h8, st8⟩
                have HE := hid hE
                obtain ⟨XE, YE, rfl, hx1, hx2, hx3⟩ := hE
                clear hx1 hx2 hx3
                have H8 := hid h8; clear h8
                have HS8 := hid st8; clear st8
                go_wp2_with fail
                go_ret3
                rw [HE1.out]
                exact ⟨E8, _, _, rfl, ⟨_, HE.out, rfl⟩, H8.out, fault_end HS7.out hDE H7.out HS8.out, hl6⟩
          case false =>
            have hgood : b.has 1 = true ∧ (n ≠ 0 ∧ b.at0 = 61) := by
              have h := HBD.out
              simp only [Bool.or_eq_false_iff, beq_eq_false_iff_ne, Bool.not_eq_false', beq_iff_eq] at h
              exact ⟨h.1.2, h.1.1, h.2⟩
            have HGD := hid hgood; clear hgood
            go_wp2_with fail
            refine (adv_code H6.out HGD.out.1 1 rfl).mono ?_; rintro e w7 ⟨E7, v, rfl, rfl, h7, st7⟩
            obtain rfl : E7 = E5 := st7.esc
            have HBS7 := hid (HBS6.out.keep st7.size (fun k hk => st7.block k (by simp [Value.ownBlock] at hk; subst hk; exact hbl) (by
              simp [Value.ownBlock] at hk; subst hk
              have h1 := H6.out.DT; have h2 := H6.out.DE
              rcases HLI.out with h3 | h3 <;> omega)))
            have hbl7 : b5 < w7.heap.size := Nat.lt_of_lt_of_le hbl st7.size
            have H7 := hid h7; clear h7
            have HS7 := hid (HS6.out.trans (st7.weak 0 H6.out.lt.2.2.1 H6.out.DE) (Nat.le_refl _) hDE)
            obtain ⟨c, hc⟩ : ∃ c, b.adv 1 = c := ⟨_, rfl⟩
            have HOKC := hid (show c.Ok by rw [← hc]; exact (adv_adv b 1).ok HOKB.out)
            have HCC := hid hc
            have hlc : es5.length + c.r0 ≤ c.r1 := by rw [← hc]; show es5.length + b.r0 ≤ b.r1 + 1; omega
            rw [hc] at H7
            clear hc st7 HBS6 HS6 H6 hbl
            have hmt : mTag m = (if Lib.validD (tok tagValP tagE c.rest).2 = false ∨ (tok tagValP tagE c.rest).1 = 0 then ((c.tk tagValP tagE).broke, .err ((c.tk tagValP tagE).flt c.off)) else if (c.tk tagValP tagE).has 1 = false then ((c.tk tagValP tagE).to 2, .some) else match mComma (c.tk tagValP tagE) with | (e, some f) => (e, .err f) | (e, none) => (e, .some)) := by
              unfold mTag
              rw [if_neg (by have := HS1.out; omega), if_neg HX.out]
              simp only [HBK.out]
              rw [if_neg (by
                rintro (h1 | h1 | h1 | h1)
                · rw [HOK.out] at h1; simp at h1
                · exact HGD.out.2.1 (HL.out.2 h1)
                · rw [HGD.out.1] at h1; simp at h1
                · exact h1 HGD.out.2.2)]
              simp only [HCC.out]
              rfl
            have HMT := hid hmt; clear hmt
            go_wp2_with fail
            refine (tagVal_any _).mono ?_; rintro e w8 ⟨S2, rfl, hS, hb8, hS8⟩
            have HSET2 := hid hS; clear hS
            have HB8 := hid hb8; clear hb8
            have HLS2 := hid hS8; clear hS8
            go_wp2_with fail
            refine (tagValE_any _).mono ?_; rintro e w9 ⟨X2, rfl, hX, hb9, hX9⟩
            obtain ⟨hr9, hs9, hset9, hesc9, hSD, hSE, hXD, hXE⟩ := sets_ready H7.out HSET2.out HB8.out HLS2.out hX hb9 hX9
            have HBS9 := hid ((HBS7.out.below HB8.out).below hb9)
            have HR9 := hid hr9; clear hr9
            have HS9 := hid (HS7.out.trans (hs9.weak 0 H7.out.lt.2.2.1 H7.out.DE) (Nat.le_refl _) hDE); clear hs9 hX hb9 hX9
            obtain ⟨ok2, hok2⟩ : ∃ ok, Lib.validD (tok tagValP tagE c.rest).2 = ok := ⟨_, rfl⟩
            have HTK2 := hid (take_code HR9.out hlc HOKC.out hset9 hesc9 hSD hSE hXD hXE tagE_ok ok2 hok2)
            have HOK2 := hid hok2
            clear hok2 hset9 hesc9 hSD hSE hXD hXE HSET2 HB8 HLS2 HBS7 hbl7 HS7 H7
            obtain ⟨d, hd⟩ : ∃ d, c.tk tagValP tagE = d := ⟨_, rfl⟩
            have HOKD := hid (show d.Ok by rw [← hd]; exact (adv_tk c _ _).ok HOKC.out)
            have hof := off_tk HR9.out tagValP tagE
            rw [hd] at hof
            have HOF := hid hof; clear hof
            have HOF2 := hid (off_int HR9.out)
            have HDD := hid hd; clear hd
            cases ok2
            case false =>
              go_wp2_with fail
              refine HTK2.out.mono ?_; rintro e w10 ht; obtain ⟨E10, es10, v1, v3, rfl, hE, h10, st10, hl10⟩ := ht.bad
              rw [HDD.out] at h10 hl10 hE
              have H10 := hid h10; clear h10
              have HS10 := hid (HS9.out.trans st10 (Nat.zero_le _) hDE); clear st10 ht
              have HE := hid hE
              obtain ⟨XE, YE, rfl, hx1, hx2, hx3⟩ := hE
              clear hx1 hx2 hx3
              go_wp2_with fail
              go_ret3
              have e1 : mTag m = (d.broke, .err (d.flt c.off)) := by rw [HMT.out, if_pos (.inl HOK2.out), HDD.out]
              rw [e1]
              exact ⟨E10, es10, _, rfl, ⟨_, HE.out, rfl⟩, H10.out, HS10.out, hl10⟩
            case true =>
              have hl := said_none c tagValP tagE sk
              obtain ⟨n2, hn2⟩ : ∃ n, (c.said tagValP tagE sk).length = n := ⟨_, rfl⟩
              rw [hn2] at hl
              have HL2 := hid hl; clear hl
              have HN2 := hid hn2; clear hn2
              go_wp2_with fail
              refine HTK2.out.mono ?_; rintro e w10 ht; obtain ⟨E10, es10, v2, rfl, hbs, hL10, h10, st10, hl10, hl11⟩ := ht.good
              rw [HDD.out] at h10 hl11
              have hkey := HBS9.out
              rw [HN.out] at hkey
              have HKEY := hid (hkey.stw HLI.out st10 HR9.out.DT HR9.out.TE)
              have H10 := hid h10; clear h10 hkey
              have HS10 := hid (HS9.out.trans st10 (Nat.zero_le _) hDE); clear st10 ht
              have hb5D : b5 ≠ D := by
                have h1 := HR9.out.DT; have h2 := HR9.out.DE
                rcases HLI.out with h3 | h3 <;> omega
              have HBS2 := hid hbs
              obtain ⟨b10, o10, c10, rfl, hb101, hb102, hb103, hb104⟩ := hbs
              clear hb104
              rw [HN2.out] at hb101 hL10 ⊢
              have hlv := lies_slice hL10
              have hb10D : b10 ≠ D := by
                have h1 := H10.out.DT; have h2 := H10.out.DE
                rcases hlv with h3 | h3 <;> omega
              clear hL10 hlv HBS9
              by_cases hn0 : n2 = 0
              · subst hn0
                have ht0 : (tok tagValP tagE c.rest).1 = 0 := HL2.out.1 rfl
                have e1 : mTag m = (d.broke, .err (d.flt c.off)) := by rw [HMT.out, if_pos (.inr ht0), HDD.out]
                have HE1 := hid e1
                clear ht0 e1
                go_wp2_with fail
                refine (errorsNew_any _ _).mono ?_; rintro e w17 ⟨rfl, rfl⟩
                go_wp2_with fail
                refine (fault_code (H10.out.alloc _) HOKD.out c.off HOF.out _ HOF2.out _ H10.out.bSize).mono ?_
                rintro e w18 ⟨E18, v, rfl, hE, h18, st18⟩
                have HE := hid hE
                obtain ⟨XE, YE, rfl, hx1, hx2, hx3⟩ := hE
                clear hx1 hx2 hx3
                have H18 := hid h18; clear h18
                have HS18 := hid st18; clear st18
                go_wp2_with fail
                go_ret3
                rw [HE1.out]
                exact ⟨E18, _, _, rfl, ⟨_, HE.out, rfl⟩, H18.out, fault_end HS10.out hDE H10.out HS18.out, hl11⟩
              · have hnz : ((n2 : Int) == 0) = false := by rw [beq_eq_false_iff_ne]; omega
                have hmt2 := HMT.out
                rw [if_neg (by
                  rintro (h1 | h1)
                  · rw [HOK2.out] at h1; simp at h1
                  · exact hn0 (HL2.out.2 h1)), HDD.out] at hmt2
                have HMT2 := hid hmt2; clear hmt2 hn0
                obtain ⟨hh, hhh⟩ : ∃ hh, d.has 1 = hh := ⟨_, rfl⟩
                have HHH := hid hhh
                have hcc := has_code H10.out 1 rfl
                rw [hhh] at hcc
                have HC := hid hcc; clear hcc hhh
                cases hh
                · go_wp2_with fail
                  refine HC.out.mono ?_; rintro e w11 ⟨rfl, n11, rfl⟩
                  have e1 : mTag m = (d.to 2, .some) := by rw [HMT2.out, if_pos HHH.out]
                  have HE1 := hid e1; clear e1
                  obtain ⟨C, ec, q1, q2, q3, q4, c0, c1, c2, c3, c4', c5', c6, c7, c8, c9, fz, ho⟩ := (H10.out.drewN n11).cells
                  have hf5 := fz 5
                  clear c0 c1 c2 c3 c4' c6 c7 c8 c9 fz ho q1 q2 q3 q4
                  go_wp2_with fail
                  go_ret3
                  rw [HE1.out]
                  have h2 := (HBS2.out.drewN n11)
                  rw [HN2.out] at h2
                  exact ⟨E10, es10, _, rfl, ⟨_, _, _, _, (HKEY.out.drewN n11).setD hb5D, h2.setD hb10D, rfl⟩, (H10.out.drewN n11).setSec 2 (by omega), (HS10.out.drewN n11).setD hDE _ _, hl11⟩
                · go_wp2_with fail
                  refine HC.out.mono ?_; rintro e w11 ⟨rfl, n11, rfl⟩
                  go_wp2_with fail
                  refine (comma_any (H10.out.drewN n11) HOKD.out).mono ?_
                  rintro e w12 ⟨E12, v, rfl, hF, h12, st12⟩
                  obtain rfl : E12 = E10 := st12.esc
                  have hkeep : (mComma d).1.r0 = d.r0 := by
                    unfold mComma
                    split
                    · split <;> rfl
                    · rfl
                  have hr1 : d.r1 ≤ (mComma d).1.r1 := by
                    unfold mComma
                    split
                    · split
                      · show d.r1 ≤ d.r1 + 1; omega
                      · show d.r1 ≤ d.r1 + 1; omega
                    · exact Nat.le_refl _
                  have hS12 := HS10.out.trans (((((Stp.refl D E12 w10).drewN n11).trans st12)).weak 0 H10.out.lt.2.2.1 H10.out.DE) (Nat.le_refl _) hDE
                  have HS12 := hid hS12; clear hS12
                  have HK12 := hid ((HKEY.out.drewN n11).stp hb5D st12)
                  have h2 := (HBS2.out.drewN n11)
                  rw [HN2.out] at h2
                  have HV12 := hid (h2.stp hb10D st12); clear h2
                  have hmt3 := HMT2.out
                  rw [if_neg (by rw [HHH.out]; simp)] at hmt3
                  rcases hc : mComma d with ⟨e, _ | f⟩
                  · rw [hc] at hF h12 hkeep hr1 hmt3
                    simp only [FltIs] at hF
                    subst hF
                    have H12 := hid h12
                    have HE1 := hid hmt3
                    clear h12 hmt3 hc st12
                    go_wp2_with fail
                    go_ret3
                    rw [HE1.out]
                    refine ⟨E12, es10, _, rfl, ⟨_, _, _, _, HK12.out, HV12.out, rfl⟩, H12.out, HS12.out, ?_⟩
                    show es10.length + e.r0 ≤ e.r1
                    omega
                  · rw [hc] at hF h12 hkeep hr1 hmt3
                    simp only [FltIs] at hF
                    have H12 := hid h12
                    have HE1 := hid hmt3
                    have HE := hid hF
                    obtain ⟨XE, YE, rfl, hx1, hx2, hx3⟩ := hF
                    clear hx1 hx2 hx3 h12 hmt3 hc st12
                    go_wp2_with fail
                    go_ret3
                    rw [HE1.out]
                    refine ⟨E12, es10, _, rfl, ⟨_, HE.out, rfl⟩, H12.out, HS12.out, ?_⟩
                    show es10.length + e.r0 ≤ e.r1
                    omega
end Go.Proofs.YtejlokdcocacaaaGreatDoor

/- take, with the place of what it hands back; slices that lie outside the decoder's own block. -/
namespace Go.Proofs.YtejlokdcocacaaaGreatDoor
open Go.RowKit

set_option maxHeartbeats 1000000 in
theorem take_raw {w : World} {B D T E : Nat} {sk : Bool} {s : DSt} {S : Nat} {f : Nat → Bool} (h : Rep w B D T E sk s) (hS : SetIs w S f) (hSD : S ≠ D) :
    Calls Tryz.prog 64 #[.pointer (some ⟨D, 0, none⟩), .pointer (some ⟨S, 0, none⟩)] w (DP B D T E sk w { s with r1 := s.r1 + s.run f } fun w' v => RawIs T ((s.t.take (s.r1 + s.run f)).drop s.r1) v w') := by
  obtain ⟨C, ec, q1, q2, q3, q4, c0, c1, c2, c3, c4, c5, c6, c7, c8, c9, fz, ho⟩ := h.cells
  have b1 := h.le0
  have b2 := h.small
  have b3 := h.le1
  have hrun := s.run_le f
  have H := hid h; clear h
  have HS := hid hS; clear hS
  go_enter Tryz.func64, Tryz.ntmps64
  go_wp2
  go_step3
  go_wp2
  go_quiet (fail)
  go_wp2
  go_step3
  go_wp2
  clear ho c0 c1 c2 c3 c4 c5 c6 c7 c8 c9 fz
  go_loopg [] 2 (fun g wr => ∃ r : Nat, (g = 2 ∧ r = s.r1 ∨ g = 1 ∧ r = s.t.length ∧ s.run f = s.t.length - s.r1) ∧ Rep wr B D T E sk { s with r1 := r } ∧ Stp D E w E wr)
  case atStart => exact ⟨s.r1, .inl ⟨rfl, rfl⟩, H.out.drewN _, (Stp.refl _ _ _).drewN _⟩
  case round =>
    obtain ⟨r, hr, hrep, hstp⟩ := hrel
    have HG := hid hr; clear hr
    have Hrep := hid hrep; clear hrep
    have Hstp := hid hstp; clear hstp
    go_wp2_with fail
    refine (ensure_any Hrep.out 1 (by omega) 1 rfl).mono ?_; rintro e w1 ⟨rfl, n1, rfl⟩
    have he : (s.r0 : Int) + ((s.r1 : Int) - (s.r0 : Int)) = (s.r1 : Int) := by omega
    have hb0 : (0 : Int) ≤ (s.r1 : Int) := by omega
    by_cases hlt : r < s.t.length
    · have hb : (DSt.has { s with r1 := r } 1) = true := by simp [DSt.has]; omega
      rw [hb]
      clear hb
      obtain ⟨rfl, rfl⟩ : r = s.r1 ∧ gk = 2 := by have := HG.out; omega
      have Hr : Hid (Rep wr B D T E sk s) := Hrep
      clear Hrep HG
      obtain ⟨C, ec, q1, q2, q3, q4, c0, c1, c2, c3, c4, c5, c6, c7, c8, c9, fz, ho⟩ := Hr.out.cells
      have hne : ¬ C = s.r1 := by omega
      have hrl : (s.r1 : Int) ≤ (s.t.length : Int) := by omega
      clear ho c0 c4 c5 c6 c7 c8 c9 q3 q4
      go_wp2_with fail
      go_quiet (fail)
      go_wp2
      have hbyte := Hr.out.byte
      have HB := hid hbyte; clear hbyte
      have hD3 := fz 3
      obtain ⟨n, hn⟩ : ∃ n, n = s.t.length - s.r1 := ⟨_, rfl⟩
      rw [← hn]
      have HN := hid hn
      have hn1 : n + s.r1 ≤ s.t.length := by omega
      have hn2 : s.t.length ≤ n + s.r1 := by omega
      clear hn
      clear fz hne hrl
      go_loopg [32] n (fun g i wx => ∃ k : Nat, k + g = n ∧ i = .int .i64 k ∧ (∀ j (_ : j < k), ∃ h2 : s.r1 + j < s.t.length, f (s.t[s.r1 + j]'h2).toNat = true) ∧ ∃ m, wx = wr.drewN m)
      case atStart => exact ⟨0, by omega, rfl, fun j hj => by omega, _, rfl⟩
      case round =>
        obtain ⟨k, hkg, rfl, hall, m, rfl⟩ := hrel
        have HA := hid hall; clear hall
        cases gk with
        | zero =>
          obtain rfl : k = n := by omega
          go_wp2
          go_roundg 1
          case measure => omega
          case rel =>
            have hrun := run_end HN.out HA.out
            have e : s.t.length = s.r1 + k := by omega
            refine ⟨s.t.length, .inr ⟨rfl, rfl, by rw [hrun]; exact HN.out⟩, ?_, ?_⟩
            · have := (Hr.out.setR1 s.t.length (by omega) (Nat.le_refl _)).drewN m
              rw [show (s.t.length : Int) = (s.r1 : Int) + (k : Int) by omega] at this
              exact this
            · exact (Hstp.out.setD _ _).drewN _
        | succ g2 =>
          have hkn : (k : Int) < (n : Int) := by omega
          have hcell := HB.out (s.r1 + k) (by omega)
          have hcS := fun c => get_any (w := wr.drewN m) (S := S) (f := f) (by
            have : SetIs wr S f := by
              unfold SetIs
              rw [Hstp.out.block S HS.out.lt hSD]; exact HS.out
            exact this) c
          generalize hc : s.t[s.r1 + k]'(by omega) = c at *
          have HC := hid hc; clear hc
          cases hfc : f c.toNat
          · have HF := hid hfc
            go_wp2_with (go_at_call 62; refine (hcS c).mono ?_; rintro e w' ⟨rfl, rfl⟩)
            have hb1 : (s.r1 : Int) ≤ (s.r1 : Int) + (k : Int) := by omega
            have hb2 : (s.r1 : Int) + (k : Int) ≤ (C : Int) := by omega
            go_quiet (fail)
            go_wp2
            rw [Exit.noGoto_ret]
            go_ret
            have hrun := run_stop (by omega) HA.out (by rw [HC.out]; exact HF.out)
            rw [hrun]
            have hR := ((Hr.out.drewN m).setR1 (s.r1 + k) (by omega) (by omega)).drewN nq
            rw [show ((s.r1 + k : Nat) : Int) = (s.r1 : Int) + (k : Int) by omega] at hR
            exact ⟨E, _, rfl, ⟨bytes_at (slice_text hR C s.r1 (s.r1 + k) q1 q2 (by omega) (by show s.r1 + k ≤ s.t.length; omega)) (by omega), s.r1, C - s.r1, by rw [slice_len s s.r1 (s.r1 + k) (by omega)]; rfl⟩, hR, ((Hstp.out.drewN _).setD _ _).drewN _⟩
          · go_wp2_with (go_at_call 62; refine (hcS c).mono ?_; rintro e w' ⟨rfl, rfl⟩)
            go_roundg g2
            case measure => omega
            case rel =>
              refine ⟨k + 1, by omega, by go_num, fun j hj => ?_, _, rfl⟩
              by_cases hjk : j = k
              · subst hjk
                exact ⟨by omega, by rw [HC.out]; exact hfc⟩
              · exact HA.out j (by omega)
    · have hb : (DSt.has { s with r1 := r } 1) = false := by simp [DSt.has]; omega
      rw [hb]
      clear hb
      have hr2 : r = s.t.length ∧ s.run f = s.t.length - s.r1 := by have := HG.out; omega
      obtain ⟨rfl, hrun2⟩ := hr2
      have HRun := hid hrun2; clear hrun2
      obtain ⟨C, ec, q1, q2, q3, q4, c0, c1, c2, c3, c4, c5, c6, c7, c8, c9, fz, ho⟩ := Hrep.out.cells
      simp only [] at q1 c1 c2 c3
      have hb1 : (s.r1 : Int) ≤ (s.t.length : Int) := by omega
      have hb2 : (s.t.length : Int) ≤ (C : Int) := by omega
      clear ho c0 c4 c5 c6 c7 c8 c9 q3 q4 fz
      go_wp2_with fail
      go_quiet (fail)
      go_wp2
      all_goals
        go_ret
        rw [HRun.out, show s.r1 + (s.t.length - s.r1) = s.t.length by omega]
        have hR : ∀ m, Rep (wr.drewN m) B D T E sk { s with r1 := s.t.length } := fun m => Hrep.out.drewN m
        have hB := fun m => slice_text (hR m) C s.r1 s.t.length q1 q2 (by omega) (Nat.le_refl _)
      · have hCr : C = s.r1 := by assumption
        refine ⟨E, _, rfl, ⟨?_, 0, 0, by rw [slice_len s s.r1 s.t.length (Nat.le_refl _)]; rfl⟩, hR _, Hstp.out.drewN _⟩
        have := hB (n1 + nq)
        simp only [sliced, hCr, if_true, Nat.sub_self] at this
        exact this
      · have hCr : ¬ C = s.r1 := by assumption
        exact ⟨E, _, rfl, ⟨bytes_at (hB (n1 + nq)) hCr, s.r1, C - s.r1, by rw [slice_len s s.r1 s.t.length (Nat.le_refl _)]; rfl⟩, hR _, Hstp.out.drewN _⟩

/-- A slice that reads as these bytes and lies outside block D. -/
def BytesFar (D : Nat) (w : World) (v : Value) (l : List UInt8) : Prop := ∃ b o c, v = .slice (some ⟨b, o, none⟩) l.length c ∧ b ≠ D ∧ BytesIs w v l

theorem BytesFar.is {D : Nat} {w : World} {v : Value} {l : List UInt8} (h : BytesFar D w v l) : BytesIs w v l := by
  obtain ⟨_, _, _, _, _, h⟩ := h; exact h

theorem BytesFar.stp {D E E' : Nat} {w w' : World} {v : Value} {l : List UInt8} (h : BytesFar D w v l) (st : Stp D E w E' w') : BytesFar D w' v l := by
  obtain ⟨b, o, c, rfl, h1, h2⟩ := h
  exact ⟨b, o, c, rfl, h1, h2.stp h1 st⟩

theorem BytesFar.setD {D : Nat} {w : World} {v : Value} {l : List UInt8} (h : BytesFar D w v l) (i : Nat) (x : Value) : BytesFar D (w.setCell ⟨D, i, none⟩ x) v l := by
  obtain ⟨b, o, c, rfl, h1, h2⟩ := h
  exact ⟨b, o, c, rfl, h1, h2.setD h1⟩

theorem BytesFar.drewN {D : Nat} {w : World} {v : Value} {l : List UInt8} (h : BytesFar D w v l) (n : Nat) : BytesFar D (w.drewN n) v l := by
  obtain ⟨b, o, c, rfl, h1, h2⟩ := h
  exact ⟨b, o, c, rfl, h1, h2.drewN n⟩

theorem BytesFar.below {D : Nat} {w w' : World} {v : Value} {l : List UInt8} (h : BytesFar D w v l) (k : Below w.heap.size w w') : BytesFar D w' v l := by
  obtain ⟨b, o, c, rfl, h1, h2⟩ := h
  exact ⟨b, o, c, rfl, h1, h2.below k⟩

theorem RawIs.far {T D : Nat} {l : List UInt8} {v : Value} {w : World} (h : RawIs T l v w) (hDT : D ≠ T) : BytesFar D w v l := by
  obtain ⟨h1, o, c, rfl⟩ := h
  exact ⟨T, o, c, rfl, fun e => hDT e.symm, h1⟩

theorem take_far {w : World} {B D T E : Nat} {sk : Bool} {m : MSt} {es : List UInt8} {S : Nat} {f : Nat → Bool} (h : Rep w B D T E sk (m.d es)) (hS : SetIs w S f) (hSD : D < S) :
    Calls Tryz.prog 64 #[.pointer (some ⟨D, 0, none⟩), .pointer (some ⟨S, 0, none⟩)] w (DP B D T E sk w ((m.skip f).d es) fun w' v => BytesFar D w' v (m.ran f)) :=
  (take_raw h hS (by omega)).mono fun _ _ ⟨E', v, h1, h2, h3, h4⟩ => ⟨E', v, h1, h2.far h.DT, h3, h4⟩

/-- A token's slice lies outside block D. -/
theorem lies_far {w : World} {B D T E k : Nat} {sk : Bool} {s : DSt} (H : Rep w B D T E sk s) {v : Value} {l : List UInt8} (hb : BytesIs w v l) (hl : Lies T E k v) : BytesFar D w v l := by
  have hb' := hb
  obtain ⟨b, o, c, rfl, _⟩ := hb'
  refine ⟨b, o, c, rfl, ?_, hb⟩
  have h1 := H.DT
  have h2 := H.DE
  rcases lies_slice hl with h3 | h3 <;> omega

/-- It stays through another token. -/
theorem far_stw {w w' : World} {B D T E E' k : Nat} {sk : Bool} {s : DSt} (H : Rep w B D T E sk s) {v : Value} {l : List UInt8} (hb : BytesFar D w v l) (hl : Lies T E k v) (st : Stw k D E w E' w') : BytesFar D w' v l := by
  obtain ⟨b, o, c, rfl, h1, h2⟩ := hb
  exact ⟨b, o, c, rfl, h1, h2.stw (lies_slice hl) st H.DT H.TE⟩

theorem results_tmp4 {fn : Func} {t u v x : Tmp} (h : fn.results = #[.tmp t, .tmp u, .tmp v, .tmp x]) (tmps : Array Value) (P : Program) (w : World) :
    (results fn tmps).run P w = .ok (.tuple #[tmps.getD t undef, tmps.getD u undef, tmps.getD v undef, tmps.getD x undef]) w := by
  simp [results, h]

end Go.Proofs.YtejlokdcocacaaaGreatDoor
