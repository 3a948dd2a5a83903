/- consumeSection; advanceToSection; Next. -/
import Derived.Test.YtejlokdcocacaaaGreatDoorTime
import Derived.Test.YtejlokdcocacaaaGreatDoorSkip
namespace Go.Proofs.YtejlokdcocacaaaGreatDoor
open Go.RowKit Go.Proofs.YtejlokdcocacaaaGreatDoorW.PrintLast

theorem adv_less {b : MSt} (h : b.has 1 = true) : (b.adv 1).left < b.left := by
  have := has_left h
  show b.t.length - (b.r1 + 1) < b.t.length - b.r1
  omega

theorem tag_less {a c : MSt} (h : mTag a = (c, .some)) : c.left < a.left := by
  unfold mTag at h
  split at h
  · simp at h
  split at h
  · simp at h
  simp only at h
  have h1 := (adv_tk a tagKeyP tagE).left
  split at h
  · simp at h
  rename_i hn
  have hh : (a.tk tagKeyP tagE).has 1 = true := by
    cases hx : (a.tk tagKeyP tagE).has 1
    · exact absurd (.inr (.inr (.inl hx))) hn
    · rfl
  have h2 := adv_less hh
  have h3 := (adv_tk ((a.tk tagKeyP tagE).adv 1) tagValP tagE).left
  split at h
  · simp at h
  split at h
  · simp at h
    rw [← h]
    show (((a.tk tagKeyP tagE).adv 1).tk tagValP tagE).left < a.left
    omega
  have hc := (adv_comma (((a.tk tagKeyP tagE).adv 1).tk tagValP tagE)).left
  rcases hm : mComma (((a.tk tagKeyP tagE).adv 1).tk tagValP tagE) with ⟨e, _ | f⟩ <;> rw [hm] at hc h <;> simp at h
  subst h
  simp only at hc
  omega

theorem field_less {a c : MSt} {d : FD} (h : mField a = (c, .some d)) : c.left < a.left := by
  unfold mField at h
  split at h
  · simp at h
  simp only at h
  have h1 := (adv_tk a fieldKeyP tagE).left
  split at h
  · simp at h
  split at h
  · simp at h
  rename_i hn
  have hh : (a.tk fieldKeyP tagE).has 1 = true := by
    cases hx : (a.tk fieldKeyP tagE).has 1
    · exact absurd (.inl hx) hn
    · rfl
  have h2 := adv_less hh
  split at h
  · simp at h
  have hv := (adv_val ((a.tk fieldKeyP tagE).adv 1)).left
  rcases hm : mVal ((a.tk fieldKeyP tagE).adv 1) with ⟨g, f | x⟩ <;> rw [hm] at hv h <;> simp only at h
  · simp at h
  have hb := (adv_behind g).left
  rcases hm2 : mBehind g with ⟨e, _ | f⟩ <;> rw [hm2] at hb h <;> simp at h
  obtain ⟨rfl, _⟩ := h
  simp only at hv hb
  omega

theorem tag_sec {a c : MSt} (h : mTag a = (c, .some)) : 1 ≤ c.sec := by
  unfold mTag at h
  split at h
  · simp at h
  rename_i h1
  split at h
  · simp at h
  simp only at h
  split at h
  · simp at h
  split at h
  · simp at h
  split at h
  · simp at h; rw [← h]; show 1 ≤ 2; omega
  have hc := mComma_sec (((a.tk tagKeyP tagE).adv 1).tk tagValP tagE)
  rcases hm : mComma (((a.tk tagKeyP tagE).adv 1).tk tagValP tagE) with ⟨e, _ | f⟩ <;> rw [hm] at hc h <;> simp at h
  subst h
  rw [hc.2 rfl]
  show 1 ≤ a.sec
  omega

/-- A section read away. -/
noncomputable def mSect (m : MSt) : MSt × Option Flt :=
  if m.sec = 0 then mMeas m else if m.sec = 1 then mTags m else if m.sec = 2 then mFields m
  else if m.sec = 3 then (match mTime m with | (a, .err f) => (a, some f) | (a, .ok _) => (a, none))
  else if m.sec = 4 then (mLine m, none) else (m, none)

section
variable {w : World} {B D T E : Nat} {sk : Bool} {m : MSt} {es : List UInt8}

theorem to_dx (h : Rep w B D T E sk (m.d es)) (hes : es.length + m.r0 ≤ m.r1) (k : Nat) (hk : k ≤ m.sec) : Calls Tryz.prog 50 #[.pointer (some ⟨D, 0, none⟩), .int .u8 (k : Int)] w (DX B D T E sk w m (ToIs B k none m)) :=
  (to_any h k hk k rfl).mono fun e w' ⟨he, hw⟩ => by
    subst hw
    exact ⟨E, es, _, he, rfl, h, (Stp.refl D E w').weak 0 h.lt.2.2.1 h.DE, hes⟩

theorem field_code (h : Rep w B D T E sk (m.d es)) (hes : es.length + m.r0 ≤ m.r1) (hk : m.Ok) (h2 : 2 ≤ m.sec) :
    Calls Tryz.prog 34 #[.pointer (some ⟨D, 0, none⟩)] w (DX B D T E sk w (mField m).1 (FieldIs B sk (mField m).2)) :=
  field_core (o := none) h.DE hk (to_dx h hes 2 h2)

theorem time_code (h : Rep w B D T E sk (m.d es)) (hes : es.length + m.r0 ≤ m.r1) (hk : m.Ok) (h3 : 3 ≤ m.sec) :
    Calls Tryz.prog 35 #[.pointer (some ⟨D, 0, none⟩)] w (DX B D T E sk w (mTime m).1 (TimeIs B D (mTime m).2)) :=
  time_core (o := none) h.DE hk (to_dx h hes 3 h3)

set_option maxHeartbeats 8000000 in
theorem sect_code (h : Rep w B D T E sk (m.d es)) (hes : es.length + m.r0 ≤ m.r1) (hk : m.Ok) (h5 : m.sec < 5) :
    Calls Tryz.prog 97 #[.pointer (some ⟨D, 0, none⟩)] w (DX B D T E sk w (mSect m).1 (FltIs B (mSect m).2)) := by
  have H := hid h
  have HK := hid hk
  have HES := hid hes
  have hDE := h.DE
  obtain ⟨C, ec, q1, q2, q3, q4, c0, c1, c2, c3, c4, c5, c6, c7, c8, c9, fz, ho⟩ := h.cells
  simp only [MSt.d] at c5
  clear c0 c1 c2 c3 c4 c6 c7 c8 c9 fz ho q1 q2 q3 q4 h hk hes
  have heq := fun (w : World) (a : Option Addr) (n c : Nat) => Lib.run_eql_slice_nil (P := Tryz.prog) w 69 5 a n c 0 0 Tryz.underlying69
  have hsec : m.sec = 0 ∨ m.sec = 1 ∨ m.sec = 2 ∨ m.sec = 3 ∨ m.sec = 4 := by omega
  rcases hsec with h0 | h0 | h0 | h0 | h0
  · have hms : mSect m = mMeas m := by unfold mSect; rw [if_pos h0]
    have H0 := hid h0
    rw [h0] at c5
    have HMS := hid hms
    clear h0 hms heq h5
    go_enter Tryz.func97, Tryz.ntmps97
    go_wp2_with fail
    refine (meas_code H.out HK.out H0.out).mono ?_
    rintro e w1 ⟨E1, es1, v, rfl, hR, h1, st1, hl1⟩
    have H1 := hid h1
    have HS1 := hid st1
    clear h1 st1 c5
    obtain ⟨o, hmo⟩ : ∃ o, (mMeas m).2 = o := ⟨_, rfl⟩
    rw [hmo] at hR
    cases o with
    | none =>
      obtain ⟨l, v1, hb, rfl⟩ := hR
      obtain ⟨b, o, c, rfl, _⟩ := hb
      go_wp2_with fail
      go_ret
      rw [HMS.out]
      exact ⟨E1, es1, _, rfl, by rw [hmo]; rfl, H1.out, HS1.out, hl1⟩
    | some f =>
      obtain ⟨v2, hE, rfl⟩ := hR
      have HE := hid hE
      obtain ⟨XE, YE, rfl, hx1, hx2, hx3⟩ := hE
      clear hx1 hx2 hx3
      go_wp2_with fail
      go_ret
      rw [HMS.out]
      exact ⟨E1, es1, _, rfl, by rw [hmo]; exact HE.out, H1.out, HS1.out, hl1⟩
  · have hms : mSect m = mTags m := by unfold mSect; rw [if_neg (by omega), if_pos h0]
    have H0 := hid h0
    rw [h0] at c5
    have HMS := hid hms
    clear h0 hms h5
    go_enter Tryz.func97, Tryz.ntmps97
    go_wp2_with fail
    go_loopg [] (m.left + 1) (fun gh wx => ∃ (cur : MSt) (E1 : Nat) (es1 : List UInt8), gh = cur.left + 1 ∧ Hid (iterR tagStep (m0, none) cur = mTags m) ∧ Rep wx B D T E1 sk (cur.d es1) ∧ Stw 0 D E w E1 wx ∧ es1.length + cur.r0 ≤ cur.r1 ∧ cur.Ok ∧ 1 ≤ cur.sec)
    case atStart => exact ⟨m, E, es, rfl, hid rfl, H.out, (Stp.refl D E w).weak 0 H.out.lt.2.2.1 hDE, HES.out, HK.out, by have := H0.out; omega⟩
    case round =>
      obtain ⟨cur, E1, es1, hg, hit, hrep, hstw, hlen, hok, hse⟩ := hrel
      have H1 := hid hrep
      have HS1 := hid hstw
      have HL := hid hlen
      have HOK := hid hok
      have HSE := hid hse
      have HG := hid hg
      clear hrep hstw hlen hok hse hg c5
      go_wp2_with fail
      refine (tag_code H1.out HL.out HOK.out HSE.out).mono ?_
      rintro e w2 ⟨E2, es2, v, rfl, hR, h2, st2, hl2⟩
      rcases hmt : mTag cur with ⟨a, f | _ | _⟩
      · rw [hmt] at hR h2 hl2
        obtain ⟨v3, hE, rfl⟩ := hR
        have HE := hid hE
        obtain ⟨XE, YE, rfl, hx1, hx2, hx3⟩ := hE
        have hst : tagStep cur = .inr (a, some f) := by unfold tagStep; rw [hmt]
        have hmm : mTags m = (a, some f) := by rw [← hit.out]; exact iterR_done hst
        have HMM := hid hmm
        have H2 := hid h2
        have HS2 := hid (HS1.out.trans st2 (Nat.le_refl _) hDE)
        clear hx1 hx2 hx3 hst hmm h2 st2 hmt
        go_wp2_with fail
        go_ret
        rw [HMS.out, HMM.out]
        exact ⟨E2, es2, _, rfl, HE.out, H2.out, HS2.out, hl2⟩
      · rw [hmt] at hR h2 hl2
        simp only [TagIs] at hR
        subst hR
        have hst : tagStep cur = .inr (a, none) := by unfold tagStep; rw [hmt]
        have hmm : mTags m = (a, none) := by rw [← hit.out]; exact iterR_done hst
        have HMM := hid hmm
        have H2 := hid h2
        have HS2 := hid (HS1.out.trans st2 (Nat.le_refl _) hDE)
        clear hst hmm h2 st2 hmt
        go_wp2_with fail
        go_ret
        rw [HMS.out, HMM.out]
        exact ⟨E2, es2, _, rfl, rfl, H2.out, HS2.out, hl2⟩
      · rw [hmt] at hR h2 hl2
        obtain ⟨l1, v1, l2, v2, hb1, hb2, rfl⟩ := hR
        obtain ⟨b1, o1, c1, rfl, _⟩ := hb1
        obtain ⟨b2, o2, c2, rfl, _⟩ := hb2
        have hst : tagStep cur = .inl a := by unfold tagStep; rw [hmt]
        have hit2 : iterR tagStep (m0, none) a = mTags m := by rw [← hit.out]; exact (iterR_more hst).symm
        have HIT2 := hid hit2
        have hless := tag_less hmt
        have hsec2 : 1 ≤ a.sec := tag_sec hmt
        have hoka : a.Ok := by have := adv_tag cur; rw [hmt] at this; exact this.ok HOK.out
        have HOKA := hid hoka
        have HLESS := hid hless
        have HSEC2 := hid hsec2
        have H2 := hid h2
        have HS2 := hid (HS1.out.trans st2 (Nat.le_refl _) hDE)
        clear hst hit2 hless hsec2 hoka h2 st2 hmt
        go_wp2_with fail
        go_roundg (a.left + 1)
        case measure => have := HG.out; have := HLESS.out; omega
        case rel => exact ⟨a, E2, es2, rfl, HIT2, H2.out, HS2.out, hl2, HOKA.out, HSEC2.out⟩
  · have hms : mSect m = mFields m := by unfold mSect; rw [if_neg (by omega), if_neg (by omega), if_pos h0]
    have H0 := hid h0
    rw [h0] at c5
    have HMS := hid hms
    clear h0 hms h5
    go_enter Tryz.func97, Tryz.ntmps97
    go_wp2_with fail
    go_loopg [] (m.left + 1) (fun gh wx => ∃ (cur : MSt) (E1 : Nat) (es1 : List UInt8), gh = cur.left + 1 ∧ Hid (iterR fieldStep (m0, none) cur = mFields m) ∧ Rep wx B D T E1 sk (cur.d es1) ∧ Stw 0 D E w E1 wx ∧ es1.length + cur.r0 ≤ cur.r1 ∧ cur.Ok ∧ 2 ≤ cur.sec)
    case atStart => exact ⟨m, E, es, rfl, hid rfl, H.out, (Stp.refl D E w).weak 0 H.out.lt.2.2.1 hDE, HES.out, HK.out, by have := H0.out; omega⟩
    case round =>
      obtain ⟨cur, E1, es1, hg, hit, hrep, hstw, hlen, hok, hse⟩ := hrel
      have H1 := hid hrep
      have HS1 := hid hstw
      have HL := hid hlen
      have HOK := hid hok
      have HSE := hid hse
      have HG := hid hg
      clear hrep hstw hlen hok hse hg c5
      go_wp2_with fail
      refine (field_code H1.out HL.out HOK.out HSE.out).mono ?_
      rintro e w2 ⟨E2, es2, v, rfl, hR, h2, st2, hl2⟩
      rcases hmt : mField cur with ⟨a, f | _ | d⟩
      · rw [hmt] at hR h2 hl2
        obtain ⟨v3, hE, rfl⟩ := hR
        have HE := hid hE
        obtain ⟨XE, YE, rfl, hx1, hx2, hx3⟩ := hE
        have hst : fieldStep cur = .inr (a, some f) := by unfold fieldStep; rw [hmt]
        have hmm : mFields m = (a, some f) := by rw [← hit.out]; exact iterR_done hst
        have HMM := hid hmm
        have H2 := hid h2
        have HS2 := hid (HS1.out.trans st2 (Nat.le_refl _) hDE)
        clear hx1 hx2 hx3 hst hmm h2 st2 hmt
        go_wp2_with fail
        go_ret
        rw [HMS.out, HMM.out]
        exact ⟨E2, es2, _, rfl, HE.out, H2.out, HS2.out, hl2⟩
      · rw [hmt] at hR h2 hl2
        simp only [FieldIs] at hR
        subst hR
        have hst : fieldStep cur = .inr (a, none) := by unfold fieldStep; rw [hmt]
        have hmm : mFields m = (a, none) := by rw [← hit.out]; exact iterR_done hst
        have HMM := hid hmm
        have H2 := hid h2
        have HS2 := hid (HS1.out.trans st2 (Nat.le_refl _) hDE)
        clear hst hmm h2 st2 hmt
        go_wp2_with fail
        go_ret
        rw [HMS.out, HMM.out]
        exact ⟨E2, es2, _, rfl, rfl, H2.out, HS2.out, hl2⟩
      · rw [hmt] at hR h2 hl2
        obtain ⟨l1, l2, v1, v2, hb1, hb2, _, rfl⟩ := hR
        obtain ⟨b1, o1, c1, rfl, _⟩ := hb1
        obtain ⟨b2, o2, c2, rfl, _⟩ := hb2
        have hst : fieldStep cur = .inl a := by unfold fieldStep; rw [hmt]
        have hit2 : iterR fieldStep (m0, none) a = mFields m := by rw [← hit.out]; exact (iterR_more hst).symm
        have HIT2 := hid hit2
        have hless := field_less hmt
        have hsec2 : 2 ≤ a.sec := by have := (field_sec cur).1 _ _ hmt; omega
        have hoka : a.Ok := by have := adv_field cur; rw [hmt] at this; exact this.ok HOK.out
        have HOKA := hid hoka
        have HLESS := hid hless
        have HSEC2 := hid hsec2
        have H2 := hid h2
        have HS2 := hid (HS1.out.trans st2 (Nat.le_refl _) hDE)
        clear hst hit2 hless hsec2 hoka h2 st2 hmt
        go_wp2_with fail
        go_roundg (a.left + 1)
        case measure => have := HG.out; have := HLESS.out; omega
        case rel => exact ⟨a, E2, es2, rfl, HIT2, H2.out, HS2.out, hl2, HOKA.out, HSEC2.out⟩
  · have hms : mSect m = (match mTime m with | (a, .err f) => (a, some f) | (a, .ok _) => (a, none)) := by unfold mSect; rw [if_neg (by omega), if_neg (by omega), if_neg (by omega), if_pos h0]
    have H0 := hid h0
    rw [h0] at c5
    have HMS := hid hms
    clear h0 hms heq h5
    go_enter Tryz.func97, Tryz.ntmps97
    go_wp2_with fail
    refine (time_code H.out HES.out HK.out (by have := H0.out; omega)).mono ?_
    rintro e w1 ⟨E1, es1, v, rfl, hR, h1, st1, hl1⟩
    have HS1 := hid st1
    clear st1 c5
    have hms := HMS.out
    rcases hmt : mTime m with ⟨a, f | l⟩
    · rw [hmt] at hR h1 hl1 hms
      obtain ⟨v2, hE, rfl⟩ := hR
      have HE := hid hE
      obtain ⟨XE, YE, rfl, hx1, hx2, hx3⟩ := hE
      have H1 := hid h1
      have HMS2 := hid hms
      clear hx1 hx2 hx3 h1 hms hmt
      go_wp2_with fail
      go_ret
      rw [HMS2.out]
      exact ⟨E1, es1, _, rfl, HE.out, H1.out, HS1.out, hl1⟩
    · rw [hmt] at hR h1 hl1 hms
      obtain ⟨v1, htv, rfl⟩ := hR
      have H1 := hid h1
      have HMS2 := hid hms
      clear h1 hms hmt htv
      go_wp2_with fail
      go_ret
      rw [HMS2.out]
      exact ⟨E1, es1, _, rfl, rfl, H1.out, HS1.out, hl1⟩
  · have hms : mSect m = (mLine m, none) := by unfold mSect; rw [if_neg (by omega), if_neg (by omega), if_neg (by omega), if_neg (by omega), if_pos h0]
    rw [h0] at c5
    have HMS := hid hms
    clear h0 hms heq h5
    go_enter Tryz.func97, Tryz.ntmps97
    go_wp2_with fail
    refine (line_code H.out HK.out).mono ?_
    rintro e w1 ⟨E1, v, rfl, rfl, h1, st1⟩
    obtain rfl : E1 = E := st1.esc
    have H1 := hid h1
    have HS1 := hid st1
    clear h1 st1 c5
    go_wp2_with fail
    go_ret
    rw [HMS.out]
    refine ⟨E1, [], _, rfl, rfl, H1.out, HS1.out.weak 0 H.out.lt.2.2.1 hDE, ?_⟩
    have := H1.out.le0
    simp only [MSt.d] at this
    show 0 + (mLine m).r0 ≤ (mLine m).r1
    omega
end
end Go.Proofs.YtejlokdcocacaaaGreatDoor
