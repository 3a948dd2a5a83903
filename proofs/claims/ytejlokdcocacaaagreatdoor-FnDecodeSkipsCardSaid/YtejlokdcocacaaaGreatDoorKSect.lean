/- consumeSection; advanceToSection; Next. -/
import Derived.Test.YtejlokdcocacaaaGreatDoorKTime
namespace Go.Proofs.YtejlokdcocacaaaGreatDoor
open Go.RowKit Go.Proofs.YtejlokdcocacaaaGreatDoorW.PrintLast

theorem adv_less {b : MSt} (h : b.has 1 = true) : (b.adv 1).left < b.left := by
  have := has_left h
  show b.t.length - (b.r1 + 1) < b.t.length - b.r1
  omega

theorem tag_less {a c : MSt} (h : mTag a = (c, .some)) : c.left < a.left := by
  unfold mTag at h
  split at h
  · simp at h
  split at h
  · simp at h
  simp only at h
  have h1 := (adv_tk a tagKeyP tagE).left
  split at h
  · simp at h
  rename_i hn
  have hh : (a.tk tagKeyP tagE).has 1 = true := by
    cases hx : (a.tk tagKeyP tagE).has 1
    · exact absurd (.inr (.inr (.inl hx))) hn
    · rfl
  have h2 := adv_less hh
  have h3 := (adv_tk ((a.tk tagKeyP tagE).adv 1) tagValP tagE).left
  split at h
  · simp at h
  split at h
  · simp at h
    rw [← h]
    show (((a.tk tagKeyP tagE).adv 1).tk tagValP tagE).left < a.left
    omega
  have hc := (adv_comma (((a.tk tagKeyP tagE).adv 1).tk tagValP tagE)).left
  rcases hm : mComma (((a.tk tagKeyP tagE).adv 1).tk tagValP tagE) with ⟨e, _ | f⟩ <;> rw [hm] at hc h <;> simp at h
  subst h
  simp only at hc
  omega

theorem field_less {a c : MSt} {d : FD} (h : mField a = (c, .some d)) : c.left < a.left := by
  unfold mField at h
  split at h
  · simp at h
  simp only at h
  have h1 := (adv_tk a fieldKeyP tagE).left
  split at h
  · simp at h
  split at h
  · simp at h
  rename_i hn
  have hh : (a.tk fieldKeyP tagE).has 1 = true := by
    cases hx : (a.tk fieldKeyP tagE).has 1
    · exact absurd (.inl hx) hn
    · rfl
  have h2 := adv_less hh
  split at h
  · simp at h
  have hv := (adv_val ((a.tk fieldKeyP tagE).adv 1)).left
  rcases hm : mVal ((a.tk fieldKeyP tagE).adv 1) with ⟨g, f | x⟩ <;> rw [hm] at hv h <;> simp only at h
  · simp at h
  have hb := (adv_behind g).left
  rcases hm2 : mBehind g with ⟨e, _ | f⟩ <;> rw [hm2] at hb h <;> simp at h
  obtain ⟨rfl, _⟩ := h
  simp only at hv hb
  omega

theorem tag_sec {a c : MSt} (h : mTag a = (c, .some)) : 1 ≤ c.sec := by
  unfold mTag at h
  split at h
  · simp at h
  rename_i h1
  split at h
  · simp at h
  simp only at h
  split at h
  · simp at h
  split at h
  · simp at h
  split at h
  · simp at h; rw [← h]; show 1 ≤ 2; omega
  have hc := mComma_sec (((a.tk tagKeyP tagE).adv 1).tk tagValP tagE)
  rcases hm : mComma (((a.tk tagKeyP tagE).adv 1).tk tagValP tagE) with ⟨e, _ | f⟩ <;> rw [hm] at hc h <;> simp at h
  subst h
  rw [hc.2 rfl]
  show 1 ≤ a.sec
  omega

/-- A section read away. -/
noncomputable def mSect (m : MSt) : MSt × Option Flt :=
  if m.sec = 0 then mMeas m else if m.sec = 1 then mTags m else if m.sec = 2 then mFields m
  else if m.sec = 3 then (match mTime m with | (a, .err f) => (a, some f) | (a, .ok _) => (a, none))
  else if m.sec = 4 then (mLine m, none) else (m, none)

section
variable {w : World} {B D T E : Nat} {sk : Bool} {m : MSt} {es : List UInt8}

theorem to_dx (h : Rep w B D T E sk (m.d es)) (hes : es.length + m.r0 ≤ m.r1) (k : Nat) (hk : k ≤ m.sec) : Calls Tryz.prog 50 #[.pointer (some ⟨D, 0, none⟩), .int .u8 (k : Int)] w (DX B D T E sk w m (ToIs B k none m)) :=
  (to_any h k hk k rfl).mono fun e w' ⟨he, hw⟩ => by
    subst hw
    exact ⟨E, es, _, he, rfl, h, (Stp.refl D E w').weak 0 h.lt.2.2.1 h.DE, hes⟩

theorem field_code (h : Rep w B D T E sk (m.d es)) (hes : es.length + m.r0 ≤ m.r1) (hk : m.Ok) (h2 : 2 ≤ m.sec) :
    Calls Tryz.prog 34 #[.pointer (some ⟨D, 0, none⟩)] w (DX B D T E sk w (mField m).1 (FieldIs B sk (mField m).2)) :=
  field_core (o := none) h.DE hk (to_dx h hes 2 h2)

theorem time_code (h : Rep w B D T E sk (m.d es)) (hes : es.length + m.r0 ≤ m.r1) (hk : m.Ok) (h3 : 3 ≤ m.sec) :
    Calls Tryz.prog 35 #[.pointer (some ⟨D, 0, none⟩)] w (DX B D T E sk w (mTime m).1 (TimeIs B D (mTime m).2)) :=
  time_core (o := none) h.DE hk (to_dx h hes 3 h3)

set_option maxHeartbeats 8000000 in
theorem sect_code (h : Rep w B D T E sk (m.d es)) (hes : es.length + m.r0 ≤ m.r1) (hk : m.Ok) (h5 : m.sec < 5) :
    Calls Tryz.prog 97 #[.pointer (some ⟨D, 0, none⟩)] w (DX B D T E sk w (mSect m).1 (FltIs B (mSect m).2)) := by
  have H := hid h
  have HK := hid hk
  have HES := hid hes
  have hDE := h.DE
  obtain ⟨C, ec, q1, q2, q3, q4, c0, c1, c2, c3, c4, c5, c6, c7, c8, c9, fz, ho⟩ := h.cells
  simp only [MSt.d] at c5
  clear c0 c1 c2 c3 c4 c6 c7 c8 c9 fz ho q1 q2 q3 q4 h hk hes
  have heq := fun (w : World) (a : Option Addr) (n c : Nat) => Lib.run_eql_slice_nil (P := Tryz.prog) w 69 5 a n c 0 0 Tryz.underlying69
  have hsec : m.sec = 0 ∨ m.sec = 1 ∨ m.sec = 2 ∨ m.sec = 3 ∨ m.sec = 4 := by omega
  rcases hsec with h0 | h0 | h0 | h0 | h0
  · have hms : mSect m = mMeas m := by unfold mSect; rw [if_pos h0]
    have H0 := hid h0
    rw [h0] at c5
    have HMS := hid hms
    clear h0 hms heq h5
    go_enter Tryz.func97, Tryz.ntmps97
    go_wp2_with fail
    refine (meas_code H.out HK.out H0.out).mono ?_
    rintro e w1 ⟨E1, es1, v, rfl, hR, h1, st1, hl1⟩
    have H1 := hid h1
    have HS1 := hid st1
    clear h1 st1 c5
    obtain ⟨o, hmo⟩ : ∃ o, (mMeas m).2 = o := ⟨_, rfl⟩
    rw [hmo] at hR
    cases o with
    | none =>
      obtain ⟨l, v1, hb, rfl⟩ := hR
      obtain ⟨b, o, c, rfl, _⟩ := hb
      go_wp2_with fail
      go_ret
      rw [HMS.out]
      exact ⟨E1, es1, _, rfl, by rw [hmo]; rfl, H1.out, HS1.out, hl1⟩
    | some f =>
      obtain ⟨v2, hE, rfl⟩ := hR
      have HE := hid hE
      obtain ⟨XE, YE, rfl, hx1, hx2, hx3⟩ := hE
      clear hx1 hx2 hx3
      go_wp2_with fail
      go_ret
      rw [HMS.out]
      exact ⟨E1, es1, _, rfl, by rw [hmo]; exact HE.out, H1.out, HS1.out, hl1⟩
  · have hms : mSect m = mTags m := by unfold mSect; rw [if_neg (by omega), if_pos h0]
    have H0 := hid h0
    rw [h0] at c5
    have HMS := hid hms
    clear h0 hms h5
    go_enter Tryz.func97, Tryz.ntmps97
    go_wp2_with fail
    go_loopg [] (m.left + 1) (fun gh wx => ∃ (cur : MSt) (E1 : Nat) (es1 : List UInt8), gh = cur.left + 1 ∧ Hid (iterR tagStep (m0, none) cur = mTags m) ∧ Rep wx B D T E1 sk (cur.d es1) ∧ Stw 0 D E w E1 wx ∧ es1.length + cur.r0 ≤ cur.r1 ∧ cur.Ok ∧ 1 ≤ cur.sec)
    case atStart => exact ⟨m, E, es, rfl, hid rfl, H.out, (Stp.refl D E w).weak 0 H.out.lt.2.2.1 hDE, HES.out, HK.out, by have := H0.out; omega⟩
    case round =>
      obtain ⟨cur, E1, es1, hg, hit, hrep, hstw, hlen, hok, hse⟩ := hrel
      have H1 := hid hrep
      have HS1 := hid hstw
      have HL := hid hlen
      have HOK := hid hok
      have HSE := hid hse
      have HG := hid hg
      clear hrep hstw hlen hok hse hg c5
      go_wp2_with fail
      refine (tag_code H1.out HL.out HOK.out HSE.out).mono ?_
      rintro e w2 ⟨E2, es2, v, rfl, hR, h2, st2, hl2⟩
      rcases hmt : mTag cur with ⟨a, f | _ | _⟩
      · rw [hmt] at hR h2 hl2
        obtain ⟨v3, hE, rfl⟩ := hR
        have HE := hid hE
        obtain ⟨XE, YE, rfl, hx1, hx2, hx3⟩ := hE
        have hst : tagStep cur = .inr (a, some f) := by unfold tagStep; rw [hmt]
        have hmm : mTags m = (a, some f) := by rw [← hit.out]; exact iterR_done hst
        have HMM := hid hmm
        have H2 := hid h2
        have HS2 := hid (HS1.out.trans st2 (Nat.le_refl _) hDE)
        clear hx1 hx2 hx3 hst hmm h2 st2 hmt
        go_wp2_with fail
        go_ret
        rw [HMS.out, HMM.out]
        exact ⟨E2, es2, _, rfl, HE.out, H2.out, HS2.out, hl2⟩
      · rw [hmt] at hR h2 hl2
        simp only [TagIs] at hR
        subst hR
        have hst : tagStep cur = .inr (a, none) := by unfold tagStep; rw [hmt]
        have hmm : mTags m = (a, none) := by rw [← hit.out]; exact iterR_done hst
        have HMM := hid hmm
        have H2 := hid h2
        have HS2 := hid (HS1.out.trans st2 (Nat.le_refl _) hDE)
        clear hst hmm h2 st2 hmt
        go_wp2_with fail
        go_ret
        rw [HMS.out, HMM.out]
        exact ⟨E2, es2, _, rfl, rfl, H2.out, HS2.out, hl2⟩
      · rw [hmt] at hR h2 hl2
        obtain ⟨l1, v1, l2, v2, hb1, hb2, rfl⟩ := hR
        obtain ⟨b1, o1, c1, rfl, _⟩ := hb1
        obtain ⟨b2, o2, c2, rfl, _⟩ := hb2
        have hst : tagStep cur = .inl a := by unfold tagStep; rw [hmt]
        have hit2 : iterR tagStep (m0, none) a = mTags m := by rw [← hit.out]; exact (iterR_more hst).symm
        have HIT2 := hid hit2
        have hless := tag_less hmt
        have hsec2 : 1 ≤ a.sec := tag_sec hmt
        have hoka : a.Ok := by have := adv_tag cur; rw [hmt] at this; exact this.ok HOK.out
        have HOKA := hid hoka
        have HLESS := hid hless
        have HSEC2 := hid hsec2
        have H2 := hid h2
        have HS2 := hid (HS1.out.trans st2 (Nat.le_refl _) hDE)
        clear hst hit2 hless hsec2 hoka h2 st2 hmt
        go_wp2_with fail
        go_roundg (a.left + 1)
        case measure => have := HG.out; have := HLESS.out; omega
        case rel => exact ⟨a, E2, es2, rfl, HIT2, H2.out, HS2.out, hl2, HOKA.out, HSEC2.out⟩
  · have hms : mSect m = mFields m := by unfold mSect; rw [if_neg (by omega), if_neg (by omega), if_pos h0]
    have H0 := hid h0
    rw [h0] at c5
    have HMS := hid hms
    clear h0 hms h5
    go_enter Tryz.func97, Tryz.ntmps97
    go_wp2_with fail
    go_loopg [] (m.left + 1) (fun gh wx => ∃ (cur : MSt) (E1 : Nat) (es1 : List UInt8), gh = cur.left + 1 ∧ Hid (iterR fieldStep (m0, none) cur = mFields m) ∧ Rep wx B D T E1 sk (cur.d es1) ∧ Stw 0 D E w E1 wx ∧ es1.length + cur.r0 ≤ cur.r1 ∧ cur.Ok ∧ 2 ≤ cur.sec)
    case atStart => exact ⟨m, E, es, rfl, hid rfl, H.out, (Stp.refl D E w).weak 0 H.out.lt.2.2.1 hDE, HES.out, HK.out, by have := H0.out; omega⟩
    case round =>
      obtain ⟨cur, E1, es1, hg, hit, hrep, hstw, hlen, hok, hse⟩ := hrel
      have H1 := hid hrep
      have HS1 := hid hstw
      have HL := hid hlen
      have HOK := hid hok
      have HSE := hid hse
      have HG := hid hg
      clear hrep hstw hlen hok hse hg c5
      go_wp2_with fail
      refine (field_code H1.out HL.out HOK.out HSE.out).mono ?_
      rintro e w2 ⟨E2, es2, v, rfl, hR, h2, st2, hl2⟩
      rcases hmt : mField cur with ⟨a, f | _ | d⟩
      · rw [hmt] at hR h2 hl2
        obtain ⟨v3, hE, rfl⟩ := hR
        have HE := hid hE
        obtain ⟨XE, YE, rfl, hx1, hx2, hx3⟩ := hE
        have hst : fieldStep cur = .inr (a, some f) := by unfold fieldStep; rw [hmt]
        have hmm : mFields m = (a, some f) := by rw [← hit.out]; exact iterR_done hst
        have HMM := hid hmm
        have H2 := hid h2
        have HS2 := hid (HS1.out.trans st2 (Nat.le_refl _) hDE)
        clear hx1 hx2 hx3 hst hmm h2 st2 hmt
        go_wp2_with fail
        go_ret
        rw [HMS.out, HMM.out]
        exact ⟨E2, es2, _, rfl, HE.out, H2.out, HS2.out, hl2⟩
      · rw [hmt] at hR h2 hl2
        simp only [FieldIs] at hR
        subst hR
        have hst : fieldStep cur = .inr (a, none) := by unfold fieldStep; rw [hmt]
        have hmm : mFields m = (a, none) := by rw [← hit.out]; exact iterR_done hst
        have HMM := hid hmm
        have H2 := hid h2
        have HS2 := hid (HS1.out.trans st2 (Nat.le_refl _) hDE)
        clear hst hmm h2 st2 hmt
        go_wp2_with fail
        go_ret
        rw [HMS.out, HMM.out]
        exact ⟨E2, es2, _, rfl, rfl, H2.out, HS2.out, hl2⟩
      · rw [hmt] at hR h2 hl2
        obtain ⟨l1, l2, v1, v2, hb1, hb2, _, rfl⟩ := hR
        obtain ⟨b1, o1, c1, rfl, _⟩ := hb1
        obtain ⟨b2, o2, c2, rfl, _⟩ := hb2
        have hst : fieldStep cur = .inl a := by unfold fieldStep; rw [hmt]
        have hit2 : iterR fieldStep (m0, none) a = mFields m := by rw [← hit.out]; exact (iterR_more hst).symm
        have HIT2 := hid hit2
        have hless := field_less hmt
        have hsec2 : 2 ≤ a.sec := by have := (field_sec cur).1 _ _ hmt; omega
        have hoka : a.Ok := by have := adv_field cur; rw [hmt] at this; exact this.ok HOK.out
        have HOKA := hid hoka
        have HLESS := hid hless
        have HSEC2 := hid hsec2
        have H2 := hid h2
        have HS2 := hid (HS1.out.trans st2 (Nat.le_refl _) hDE)
        clear hst hit2 hless hsec2 hoka h2 st2 hmt
        go_wp2_with fail
        go_roundg (a.left + 1)
        case measure => have := HG.out; have := HLESS.out; omega
        case rel => exact ⟨a, E2, es2, rfl, HIT2, H2.out, HS2.out, hl2, HOKA.out, HSEC2.out⟩
  · have hms : mSect m = (match mTime m with | (a, .err f) => (a, some f) | (a, .ok _) => (a, none)) := by unfold mSect; rw [if_neg (by omega), if_neg (by omega), if_neg (by omega), if_pos h0]
    have H0 := hid h0
    rw [h0] at c5
    have HMS := hid hms
    clear h0 hms heq h5
    go_enter Tryz.func97, Tryz.ntmps97
    go_wp2_with fail
    refine (time_code H.out HES.out HK.out (by have := H0.out; omega)).mono ?_
    rintro e w1 ⟨E1, es1, v, rfl, hR, h1, st1, hl1⟩
    have HS1 := hid st1
    clear st1 c5
    have hms := HMS.out
    rcases hmt : mTime m with ⟨a, f | l⟩
    · rw [hmt] at hR h1 hl1 hms
      obtain ⟨v2, hE, rfl⟩ := hR
      have HE := hid hE
      obtain ⟨XE, YE, rfl, hx1, hx2, hx3⟩ := hE
      have H1 := hid h1
      have HMS2 := hid hms
      clear hx1 hx2 hx3 h1 hms hmt
      go_wp2_with fail
      go_ret
      rw [HMS2.out]
      exact ⟨E1, es1, _, rfl, HE.out, H1.out, HS1.out, hl1⟩
    · rw [hmt] at hR h1 hl1 hms
      obtain ⟨v1, htv, rfl⟩ := hR
      have H1 := hid h1
      have HMS2 := hid hms
      clear h1 hms hmt htv
      go_wp2_with fail
      go_ret
      rw [HMS2.out]
      exact ⟨E1, es1, _, rfl, rfl, H1.out, HS1.out, hl1⟩
  · have hms : mSect m = (mLine m, none) := by unfold mSect; rw [if_neg (by omega), if_neg (by omega), if_neg (by omega), if_neg (by omega), if_pos h0]
    rw [h0] at c5
    have HMS := hid hms
    clear h0 hms heq h5
    go_enter Tryz.func97, Tryz.ntmps97
    go_wp2_with fail
    refine (line_code H.out HK.out).mono ?_
    rintro e w1 ⟨E1, v, rfl, rfl, h1, st1⟩
    obtain rfl : E1 = E := st1.esc
    have H1 := hid h1
    have HS1 := hid st1
    clear h1 st1 c5
    go_wp2_with fail
    go_ret
    rw [HMS.out]
    refine ⟨E1, [], _, rfl, rfl, H1.out, HS1.out.weak 0 H.out.lt.2.2.1 hDE, ?_⟩
    have := H1.out.le0
    simp only [MSt.d] at this
    show 0 + (mLine m).r0 ≤ (mLine m).r1
    omega
end
end Go.Proofs.YtejlokdcocacaaaGreatDoor

/- advanceToSection; Next. -/
namespace Go.Proofs.YtejlokdcocacaaaGreatDoor
open Go.RowKit Go.Proofs.YtejlokdcocacaaaGreatDoorW.PrintLast

section
variable {σ β : Type} {f : σ → σ ⊕ β}
theorem iter_total (μ : σ → Nat) (h : ∀ s s', f s = .inl s' → μ s' < μ s) : ∀ (n : Nat) (s : σ), μ s < n → ∃ b, Iter f s b
  | 0, _, hn => absurd hn (by omega)
  | n + 1, s, hn => by
    rcases hs : f s with s' | b
    · obtain ⟨b, hb⟩ := iter_total μ h n s' (by have := h s s' hs; omega)
      exact ⟨b, .more hs hb⟩
    · exact ⟨b, .done hs⟩

theorem iterR_has (μ : σ → Nat) (h : ∀ s s', f s = .inl s' → μ s' < μ s) {z : β} (P : σ → Prop) (Q : β → Prop) (h1 : ∀ s s', P s → f s = .inl s' → P s') (h2 : ∀ s b, P s → f s = .inr b → Q b) (s : σ) (hs : P s) : Q (iterR f z s) := by
  obtain ⟨b, hb⟩ := iter_total μ h (μ s + 1) s (by omega)
  rw [iterR_eq hb]
  induction hb with
  | done hx => exact h2 _ _ hs hx
  | more hx _ ih => exact ih (h1 _ _ hs hx)
end

theorem tagStep_less (s s' : MSt) (h : tagStep s = .inl s') : s'.left < s.left := by
  unfold tagStep at h
  rcases hk : mTag s with ⟨c, f | _ | _⟩ <;> rw [hk] at h <;> simp at h
  subst h; exact tag_less hk
theorem fieldStep_less (s s' : MSt) (h : fieldStep s = .inl s') : s'.left < s.left := by
  unfold fieldStep at h
  rcases hk : mField s with ⟨c, f | _ | d⟩ <;> rw [hk] at h <;> simp at h
  subst h; exact field_less hk

theorem adv_tags (m : MSt) : Adv m (mTags m).1 := by
  unfold mTags
  refine iterR_has MSt.left tagStep_less (fun s => Adv m s) (fun (b : MSt × Option Flt) => Adv m b.1) (fun s s' hs he => ?_) (fun s b hs he => ?_) m (Adv.refl m)
  · unfold tagStep at he
    have := adv_tag s
    rcases hk : mTag s with ⟨c, f | _ | _⟩ <;> rw [hk] at he this <;> simp at he
    subst he; exact hs.trans this
  · unfold tagStep at he
    have := adv_tag s
    rcases hk : mTag s with ⟨c, f | _ | _⟩ <;> rw [hk] at he this <;> simp at he <;> subst he <;> exact hs.trans this

theorem adv_fields (m : MSt) : Adv m (mFields m).1 := by
  unfold mFields
  refine iterR_has MSt.left fieldStep_less (fun s => Adv m s) (fun (b : MSt × Option Flt) => Adv m b.1) (fun s s' hs he => ?_) (fun s b hs he => ?_) m (Adv.refl m)
  · unfold fieldStep at he
    have := adv_field s
    rcases hk : mField s with ⟨c, f | _ | d⟩ <;> rw [hk] at he this <;> simp at he
    subst he; exact hs.trans this
  · unfold fieldStep at he
    have := adv_field s
    rcases hk : mField s with ⟨c, f | _ | d⟩ <;> rw [hk] at he this <;> simp at he <;> subst he <;> exact hs.trans this

theorem adv_sect (m : MSt) : Adv m (mSect m).1 := by
  unfold mSect
  split
  · exact adv_meas m
  split
  · exact adv_tags m
  split
  · exact adv_fields m
  split
  · have := adv_time m
    rcases hm : mTime m with ⟨a, f | l⟩ <;> rw [hm] at this <;> exact this
  split
  · exact adv_mLine m
  · exact Adv.refl m

theorem tags_sec2 (m : MSt) (hm : m.sec = 1) (h : (mTags m).2 = none) : (mTags m).1.sec = 2 := by
  rcases (tags_sec m (.inl hm)).1 h with h1 | h1
  · exact h1
  · exfalso
    have := iterR_has MSt.left tagStep_less (z := (m0, none)) (fun s => 1 ≤ s.sec) (fun (b : MSt × Option Flt) => b.2 = none → 1 ≤ b.1.sec) (fun s s' hs he => by
      unfold tagStep at he
      rcases hk : mTag s with ⟨c, f | _ | _⟩ <;> rw [hk] at he <;> simp at he
      subst he; exact tag_sec hk) (fun s b hs he => by
      unfold tagStep at he
      rcases hk : mTag s with ⟨c, f | _ | _⟩ <;> rw [hk] at he <;> simp at he <;> subst he
      · intro hx; simp at hx
      · intro _
        show 1 ≤ c.sec
        unfold mTag at hk
        split at hk
        · simp at hk; rw [← hk]; exact hs
        split at hk
        · simp at hk; rw [← hk]; show 1 ≤ 2; omega
        simp only at hk
        split at hk
        · simp at hk
        split at hk
        · simp at hk
        split at hk
        · simp at hk
        split at hk <;> simp at hk) m (by omega) h
    have h2 : 1 ≤ (mTags m).1.sec := this
    omega

theorem fields_sec2 (m : MSt) (hm : m.sec = 2) (h : (mFields m).2 = none) : (mFields m).1.sec = 3 ∨ (mFields m).1.sec = 5 := by
  rcases (fields_sec m (.inl hm)).1 h with h1 | h1 | h1
  · exact .inl h1
  · exact .inr h1
  · exfalso
    have := iterR_has MSt.left fieldStep_less (z := (m0, none)) (fun s => 1 ≤ s.sec) (fun (b : MSt × Option Flt) => b.2 = none → 1 ≤ b.1.sec) (fun s s' hs he => by
      unfold fieldStep at he
      rcases hk : mField s with ⟨c, f | _ | d⟩ <;> rw [hk] at he <;> simp at he
      subst he
      have := (field_sec s).1 _ _ hk
      omega) (fun s b hs he => by
      unfold fieldStep at he
      rcases hk : mField s with ⟨c, f | _ | d⟩ <;> rw [hk] at he <;> simp at he <;> subst he
      · intro hx; simp at hx
      · intro _
        have := (field_sec s).2.1 _ hk
        show 1 ≤ c.sec
        rw [this.1]; exact hs) m (by omega) h
    have h2 : 1 ≤ (mFields m).1.sec := this
    omega

theorem sect_up (m : MSt) (h5 : m.sec < 5) (h : (mSect m).2 = none) : m.sec < (mSect m).1.sec ∧ (mSect m).1.sec ≤ 5 := by
  unfold mSect at h ⊢
  split
  · rename_i h0
    rw [if_pos h0] at h
    have := (meas_sec m h0).1 h
    omega
  rename_i h0
  rw [if_neg h0] at h
  split
  · rename_i h1
    rw [if_pos h1] at h
    have := tags_sec2 m h1 h
    omega
  rename_i h1
  rw [if_neg h1] at h
  split
  · rename_i h2
    rw [if_pos h2] at h
    have := fields_sec2 m h2 h
    omega
  rename_i h2
  rw [if_neg h2] at h
  split
  · rename_i h3
    have := time_sec m h3
    rcases hm : mTime m with ⟨a, f | l⟩ <;> rw [hm] at this <;> simp only at this ⊢ <;> omega
  rename_i h3
  rw [if_neg h3] at h
  split
  · show m.sec < 5 ∧ 5 ≤ 5; omega
  · omega

/-- A section, or the end of the way to section k. -/
noncomputable def toStep (k : Nat) (m : MSt) : MSt ⊕ (MSt × Option Flt) :=
  if m.sec < k then (match mSect m with | (a, some f) => .inr (a, some f) | (a, none) => .inl a) else .inr (m, none)

/-- On to section k. -/
noncomputable def mTo (k : Nat) (m : MSt) : MSt × Option Flt := iterR (toStep k) (m0, none) m

section
variable {w : World} {B D T E : Nat} {m : MSt} {es : List UInt8}

set_option maxHeartbeats 8000000 in
theorem to_code (h : Rep w B D T E false (m.d es)) (hes : es.length + m.r0 ≤ m.r1) (hk : m.Ok) (k : Nat) (h5 : k ≤ 5) (hkm : m.sec < k) :
    Calls Tryz.prog 50 #[.pointer (some ⟨D, 0, none⟩), .int .u8 (k : Int)] w (DX B D T E false w (mTo k m).1 (ToIs B k (mTo k m).2 (mTo k m).1)) := by
  have H := hid h
  have HK := hid hk
  have HES := hid hes
  have hDE := h.DE
  obtain ⟨C, ec, q1, q2, q3, q4, c0, c1, c2, c3, c4, c5, c6, c7, c8, c9, fz, ho⟩ := h.cells
  have hf6 := fz 6
  simp only [MSt.d] at c5
  have e1 : ((m.sec : Int) == (k : Int)) = false := by rw [beq_eq_false_iff_ne]; omega
  have e2 : ¬ (k : Int) < (m.sec : Int) := by omega
  clear c0 c1 c2 c3 c4 c7 c8 c9 fz ho q1 q2 q3 q4 h hk hes
  go_enter Tryz.func50, Tryz.ntmps50
  go_wp2_with fail
  have H1 := hid (H.out.setSk true)
  have HS1 := hid (((Stp.refl D E w).setD 6 (.bool true)).weak 0 H.out.lt.2.2.1 hDE)
  generalize w.setCell ⟨D, 6, none⟩ (.bool true) = w1 at H1 HS1 ⊢
  clear c5 c6 hf6 e1 e2
  go_loopg [] (6 - m.sec) (fun gh wx => ∃ (cur : MSt) (E1 : Nat) (es1 : List UInt8), gh = 6 - cur.sec ∧ Hid (iterR (toStep k) (m0, none) cur = mTo k m) ∧ Rep wx B D T E1 true (cur.d es1) ∧ Stw 0 D E w E1 wx ∧ es1.length + cur.r0 ≤ cur.r1 ∧ cur.Ok)
  case atStart => exact ⟨m, E, es, rfl, hid rfl, H1.out, HS1.out, HES.out, HK.out⟩
  case round =>
    obtain ⟨cur, E1, es1, hg, hit, hrep, hstw, hlen, hok⟩ := hrel
    obtain ⟨C, ec, q1, q2, q3, q4, c0, c1, c2, c3, c4, c5, c6, c7, c8, c9, fz, ho⟩ := hrep.cells
    have hf6 := fz 6
    have hs5 := hrep.sec5
    simp only [MSt.d] at c5 hs5
    have H2 := hid hrep
    have HS2 := hid hstw
    have HL := hid hlen
    have HOK := hid hok
    have HG := hid hg
    clear hrep hstw hlen hok hg c0 c1 c2 c3 c4 c7 c8 c9 fz ho q1 q2 q3 q4 H1 HS1
    by_cases hlt : cur.sec < k
    · have e3 : (cur.sec : Int) < (k : Int) := by omega
      have HLT := hid hlt
      clear hlt
      go_wp2_with fail
      refine (sect_code H2.out HL.out HOK.out (by have := HLT.out; omega)).mono ?_
      rintro e w3 ⟨E3, es3, v, rfl, hR, h3, st3, hl3⟩
      have hst : toStep k cur = (match mSect cur with | (a, some f) => .inr (a, some f) | (a, none) => .inl a) := by unfold toStep; rw [if_pos HLT.out]
      have hoka : (mSect cur).1.Ok := (adv_sect cur).ok HOK.out
      have hup := sect_up cur (by have := HLT.out; omega)
      have hS3 := HS2.out.trans st3 (Nat.le_refl _) hDE
      clear c5 c6 hf6 st3
      rcases hmt : mSect cur with ⟨a, _ | f⟩
      · rw [hmt] at hR h3 hl3 hst hoka hup
        simp only [FltIs] at hR
        subst hR
        have hit2 : iterR (toStep k) (m0, none) a = mTo k m := by rw [← hit.out]; exact (iterR_more hst).symm
        have HIT2 := hid hit2
        have HUP := hid (hup rfl)
        have H3 := hid h3
        have HS3 := hid hS3
        have HOKA := hid hoka
        clear hst hit2 hup h3 hS3 hoka hmt
        go_wp2_with fail
        go_roundg (6 - a.sec)
        case measure => have := HG.out; have := HUP.out; have := HLT.out; omega
        case rel => exact ⟨a, E3, es3, rfl, HIT2, H3.out, HS3.out, hl3, HOKA.out⟩
      · rw [hmt] at hR h3 hl3 hst hoka
        simp only [FltIs] at hR
        have HE := hid hR
        obtain ⟨XE, YE, rfl, hx1, hx2, hx3⟩ := hR
        have hmm : mTo k m = (a, some f) := by rw [← hit.out]; exact iterR_done hst
        have HMM := hid hmm
        obtain ⟨C, ec, q1, q2, q3, q4, c0, c1, c2, c3, c4, c5, c6, c7, c8, c9, fz, ho⟩ := h3.cells
        have hf6 := fz 6
        have H3 := hid h3
        have HS3 := hid hS3
        clear hx1 hx2 hx3 hst hmm h3 hS3 hoka hmt hup c0 c1 c2 c3 c4 c5 c7 c8 c9 fz ho q1 q2 q3 q4
        go_wp2_with fail
        go_ret2
        rw [HMM.out]
        refine ⟨E3, es3, _, rfl, ⟨_, errIs_far HE.out (fun k hk hB hc => ?_), rfl⟩, H3.out.setSk false, HS3.out.setD hDE _ _, hl3⟩
        obtain ⟨cc, tt, hcc, htt⟩ := hc
        refine heap_setCell_other _ _ k _ (fun e => ?_)
        subst e
        obtain ⟨C, ec, hC, hC2, hd, _⟩ := H3.out.dec
        unfold IsDec at hd
        rw [hcc] at hd
        simp only [Option.some.injEq, Obj.cells.injEq] at hd
        rcases htt with rfl | rfl <;> exact absurd hd.2.1 (by decide)
    · have e3 : ¬ (cur.sec : Int) < (k : Int) := by omega
      have hst : toStep k cur = .inr (cur, none) := by unfold toStep; rw [if_neg hlt]
      have hmm : mTo k m = (cur, none) := by rw [← hit.out]; exact iterR_done hst
      have HMM := hid hmm
      obtain ⟨eb, heb⟩ : ∃ eb, (cur.sec == k) = eb := ⟨_, rfl⟩
      have he2 : ((cur.sec : Int) == (k : Int)) = eb := by
        rw [← heb, Bool.eq_iff_iff, beq_iff_eq, beq_iff_eq]; omega
      have HEB := hid heb
      clear hst hmm hlt heb
      go_wp2_with fail
      go_ret2
      rw [HMM.out]
      exact ⟨E1, es1, _, rfl, by simp only [ToIs]; rw [HEB.out]; rfl, H2.out.setSk false, HS2.out.setD hDE _ _, HL.out⟩

theorem toStep_less (k : Nat) (h5 : k ≤ 5) (s s' : MSt) (h : toStep k s = .inl s') : 6 - s'.sec < 6 - s.sec := by
  unfold toStep at h
  split at h
  · rename_i hlt
    have hup := sect_up s (by omega)
    rcases hm : mSect s with ⟨a, _ | f⟩ <;> rw [hm] at h hup <;> simp at h
    subst h
    have := hup rfl
    simp only at this
    omega
  · simp at h

theorem adv_to_k (k : Nat) (h5 : k ≤ 5) (m : MSt) : Adv m (mTo k m).1 := by
  unfold mTo
  refine iterR_has (fun s : MSt => 6 - s.sec) (toStep_less k h5) (fun s => Adv m s) (fun (b : MSt × Option Flt) => Adv m b.1) (fun s s' hs he => ?_) (fun s b hs he => ?_) m (Adv.refl m)
  · unfold toStep at he
    split at he
    · have := adv_sect s
      rcases hk : mSect s with ⟨c, _ | f⟩ <;> rw [hk] at he this <;> simp at he
      subst he; exact hs.trans this
    · simp at he
  · unfold toStep at he
    split at he
    · have := adv_sect s
      rcases hk : mSect s with ⟨c, _ | f⟩ <;> rw [hk] at he this <;> simp at he
      subst he; exact hs.trans this
    · simp at he; subst he; exact hs

/-- On to the end of the entry, up to a fault. -/
noncomputable def to5 (m : MSt) : MSt × Option Flt := if m.sec < 5 then mTo 5 m else (m, none)
/-- Behind the entry. -/
noncomputable def mEnd (m : MSt) : MSt := if (to5 m).2 = none then (to5 m).1 else (to5 (to5 m).1).1
/-- At the next entry. -/
noncomputable def mNx (m : MSt) : MSt := (mSkip (mEnd m)).to 0

theorem adv_to5 (m : MSt) : Adv m (to5 m).1 := by
  unfold to5
  split
  · exact adv_to_k 5 (Nat.le_refl _) m
  · exact Adv.refl m

theorem to5_code (h : Rep w B D T E false (m.d es)) (hes : es.length + m.r0 ≤ m.r1) (hk : m.Ok) :
    Calls Tryz.prog 50 #[.pointer (some ⟨D, 0, none⟩), .int .u8 5] w (DX B D T E false w (to5 m).1 (ToIs B 5 (to5 m).2 (to5 m).1)) := by
  unfold to5
  by_cases h5 : m.sec < 5
  · rw [if_pos h5]
    exact to_code h hes hk 5 (Nat.le_refl _) h5
  · rw [if_neg h5]
    exact to_dx h hes 5 (by omega)

set_option maxHeartbeats 4000000 in
theorem next_code (h : Rep w B D T E false (m.d es)) (hes : es.length + m.r0 ≤ m.r1) (hk : m.Ok) :
    Calls Tryz.prog 24 #[.pointer (some ⟨D, 0, none⟩)] w (DX B D T E false w (mNx m) (fun _ v => v = .bool ((mNx m).has 1))) := by
  have H := hid h
  have HK := hid hk
  have HES := hid hes
  have hDE := h.DE
  clear h hk hes
  go_enter Tryz.func24, Tryz.ntmps24
  have key : ∀ (w1 : World) (a : MSt) (E1 : Nat) (es1 : List UInt8), Rep w1 B D T E1 false (a.d es1) → Stw 0 D E w E1 w1 → es1.length + a.r0 ≤ a.r1 → a.Ok → mEnd m = a →
      Calls Tryz.prog 51 #[.pointer (some ⟨D, 0, none⟩)] w1 fun e w' => e = .returned (.tuple #[]) ∧ Rep w' B D T E1 false ((mSkip a).d es1) ∧ Stw 0 D E w E1 w' ∧ es1.length + (mSkip a).r0 ≤ (mSkip a).r1 := fun w1 a E1 es1 h1 h2 h3 h4 h5 =>
    (skip_code h1 h4).mono fun e w' ⟨E2, v, he, ⟨hv, hsk⟩, hr, hst⟩ => by
      obtain rfl : E2 = E1 := hst.esc
      subst hv
      exact ⟨he, hr, h2.trans (hst.weak 0 h1.lt.2.2.1 h1.DE) (Nat.le_refl _) hDE, by have := hsk.r0; have := hsk.r1; omega⟩
  have KEY := hid key; clear key
  go_wp2_with fail
  refine (to5_code H.out HES.out HK.out).mono ?_
  rintro e w1 ⟨E1, es1, v, rfl, hR, h1, st1, hl1⟩
  have hoka := (adv_to5 m).ok HK.out
  rcases ht : to5 m with ⟨a, _ | f⟩
  · rw [ht] at hR h1 hl1 hoka
    simp only [ToIs] at hR
    subst hR
    have hme : mEnd m = a := by unfold mEnd; rw [ht, if_pos rfl]
    have HK2 := hid (KEY.out w1 a E1 es1 h1 st1 hl1 hoka hme)
    have HME := hid hme
    clear ht h1 st1 hl1 hoka hme
    go_wp2_with fail
    refine HK2.out.mono ?_
    rintro e w2 ⟨rfl, h2, st2, hl2⟩
    obtain ⟨C, ec, q1, q2, q3, q4, c0, c1, c2, c3, c4, c5, c6, c7, c8, c9, fz, ho⟩ := h2.cells
    have hf5 := fz 5
    have H2 := hid h2
    have HS2 := hid st2
    clear h2 st2 c0 c1 c2 c3 c4 c6 c7 c8 c9 fz ho q1 q2 q3 q4
    go_wp2_with fail
    have H3 := hid (show Rep (w2.setCell ⟨D, 5, none⟩ (.int .u8 0)) B D T E1 false (((mSkip a).to 0).d es1) from H2.out.setSec 0 (by omega))
    have HS3 := hid (HS2.out.setD hDE 5 (.int .u8 0))
    generalize w2.setCell ⟨D, 5, none⟩ (.int .u8 0) = w3 at H3 HS3 ⊢
    clear c5 hf5 H2 HS2
    refine (has_code H3.out 1 rfl).mono ?_; rintro e w4 ⟨rfl, n4, rfl⟩
    go_wp2_with fail
    go_ret
    have hn : mNx m = (mSkip a).to 0 := by unfold mNx; rw [HME.out]
    rw [hn]
    exact ⟨E1, es1, _, rfl, rfl, H3.out.drewN _, HS3.out.drewN _, hl2⟩
  · rw [ht] at hR h1 hl1 hoka
    simp only [ToIs] at hR
    obtain ⟨v2, hE, rfl⟩ := hR
    obtain ⟨XE, YE, rfl, hx1, hx2, hx3⟩ := hE
    have hme : mEnd m = (to5 a).1 := by unfold mEnd; rw [ht, if_neg (by simp)]
    have HT2 := hid (to5_code h1 hl1 hoka)
    have hokb := (adv_to5 a).ok hoka
    have HOKB := hid hokb
    have HME := hid hme
    have HS1 := hid st1
    clear ht h1 st1 hl1 hoka hme hx1 hx2 hx3 hokb
    go_wp2_with fail
    refine HT2.out.mono ?_
    rintro e w2 ⟨E2, es2, v, rfl, hR, h2, st2, hl2⟩
    have HK2 := hid (KEY.out w2 (to5 a).1 E2 es2 h2 (HS1.out.trans st2 (Nat.le_refl _) hDE) hl2 HOKB.out HME.out)
    clear h2 st2 hl2 hR HT2
    go_wp2_with fail
    refine HK2.out.mono ?_
    rintro e w3 ⟨rfl, h2, st2, hl2⟩
    obtain ⟨C, ec, q1, q2, q3, q4, c0, c1, c2, c3, c4, c5, c6, c7, c8, c9, fz, ho⟩ := h2.cells
    have hf5 := fz 5
    have H2 := hid h2
    have HS2 := hid st2
    clear h2 st2 c0 c1 c2 c3 c4 c6 c7 c8 c9 fz ho q1 q2 q3 q4
    go_wp2_with fail
    have H3 := hid (show Rep (w3.setCell ⟨D, 5, none⟩ (.int .u8 0)) B D T E2 false (((mSkip (to5 a).1).to 0).d es2) from H2.out.setSec 0 (by omega))
    have HS3 := hid (HS2.out.setD hDE 5 (.int .u8 0))
    generalize w3.setCell ⟨D, 5, none⟩ (.int .u8 0) = w4 at H3 HS3 ⊢
    clear c5 hf5 H2 HS2
    refine (has_code H3.out 1 rfl).mono ?_; rintro e w5 ⟨rfl, n5, rfl⟩
    go_wp2_with fail
    go_ret
    have hn : mNx m = (mSkip (to5 a).1).to 0 := by unfold mNx; rw [HME.out]
    rw [hn]
    exact ⟨E2, es2, _, rfl, rfl, H3.out.drewN _, HS3.out.drewN _, hl2⟩

/-! ### the methods, whatever section is due -/
/-- To section k, where it is not gone by. -/
noncomputable def toK (k : Nat) (m : MSt) : MSt × Option Flt := if m.sec < k then mTo k m else (m, none)

theorem toK_code (h : Rep w B D T E false (m.d es)) (hes : es.length + m.r0 ≤ m.r1) (hk : m.Ok) (k : Nat) (h5 : k ≤ 5) :
    Calls Tryz.prog 50 #[.pointer (some ⟨D, 0, none⟩), .int .u8 (k : Int)] w (DX B D T E false w (toK k m).1 (ToIs B k (toK k m).2 (toK k m).1)) := by
  unfold toK
  by_cases h1 : m.sec < k
  · rw [if_pos h1]
    exact to_code h hes hk k h5 h1
  · rw [if_neg h1]
    exact to_dx h hes k (by omega)

theorem adv_toK (k : Nat) (h5 : k ≤ 5) (m : MSt) : Adv m (toK k m).1 := by
  unfold toK
  split
  · exact adv_to_k k h5 m
  · exact Adv.refl m

theorem field_full (h : Rep w B D T E false (m.d es)) (hes : es.length + m.r0 ≤ m.r1) (hk : m.Ok) :
    Calls Tryz.prog 34 #[.pointer (some ⟨D, 0, none⟩)] w (DX B D T E false w (fieldOf (toK 2 m).2 (toK 2 m).1).1 (FieldIs B false (fieldOf (toK 2 m).2 (toK 2 m).1).2)) :=
  field_core h.DE ((adv_toK 2 (by omega) m).ok hk) (toK_code h hes hk 2 (by omega))

theorem time_full (h : Rep w B D T E false (m.d es)) (hes : es.length + m.r0 ≤ m.r1) (hk : m.Ok) :
    Calls Tryz.prog 35 #[.pointer (some ⟨D, 0, none⟩)] w (DX B D T E false w (timeOf (toK 3 m).2 (toK 3 m).1).1 (TimeIs B D (timeOf (toK 3 m).2 (toK 3 m).1).2)) :=
  time_core h.DE ((adv_toK 3 (by omega) m).ok hk) (toK_code h hes hk 3 (by omega))
end
end Go.Proofs.YtejlokdcocacaaaGreatDoor

/- The plain law: an entry read whole, an entry of which the time alone is read, and one of which the first field alone is read, tell the same faults and end at the same place. No program here. -/
namespace Go.Proofs.YtejlokdcocacaaaGreatDoor
open Go.RowKit

theorem mTo_more {k : Nat} {m a : MSt} (h : m.sec < k) (hs : mSect m = (a, none)) : mTo k m = mTo k a := by
  unfold mTo
  refine iterR_more ?_
  unfold toStep
  rw [if_pos h, hs]

theorem mTo_err {k : Nat} {m a : MSt} {f : Flt} (h : m.sec < k) (hs : mSect m = (a, some f)) : mTo k m = (a, some f) := by
  unfold mTo
  refine iterR_done ?_
  unfold toStep
  rw [if_pos h, hs]

theorem mTo_at {k : Nat} {m : MSt} (h : k ≤ m.sec) : mTo k m = (m, none) := by
  unfold mTo
  refine iterR_done ?_
  unfold toStep
  rw [if_neg (by omega)]

theorem sect0 {m : MSt} (h : m.sec = 0) : mSect m = mMeas m := by unfold mSect; rw [if_pos h]
theorem sect1 {m : MSt} (h : m.sec = 1) : mSect m = mTags m := by unfold mSect; rw [if_neg (by omega), if_pos h]
theorem sect2 {m : MSt} (h : m.sec = 2) : mSect m = mFields m := by unfold mSect; rw [if_neg (by omega), if_neg (by omega), if_pos h]
theorem sect3 {m : MSt} (h : m.sec = 3) : mSect m = (match mTime m with | (a, .err f) => (a, some f) | (a, .ok _) => (a, none)) := by
  unfold mSect; rw [if_neg (by omega), if_neg (by omega), if_neg (by omega), if_pos h] <;> rfl

/-- The head of an entry leaves the decoder at the fields. -/
theorem head_sec (a : MSt) (h : a.sec = 0) : ((mHead a).2 = none → (mHead a).1.sec = 2) ∧ ((mHead a).2 ≠ none → 4 ≤ (mHead a).1.sec ∧ (mHead a).1.sec ≤ 5) := by
  have hm := meas_sec a h
  unfold mHead
  rcases hx : mMeas a with ⟨b, _ | f⟩ <;> rw [hx] at hm <;> simp only
  · have hb := hm.1 rfl
    exact ⟨fun hn => tags_sec2 b hb hn, fun hn => (tags_sec b (.inl hb)).2 hn⟩
  · have := hm.2 (by simp)
    simp only at this
    exact ⟨fun hn => by simp at hn, fun _ => by omega⟩

theorem to2_head (a : MSt) (h : a.sec = 0) : toK 2 a = mHead a := by
  unfold toK
  rw [if_pos (by omega)]
  have hm := meas_sec a h
  unfold mHead
  rcases hx : mMeas a with ⟨b, _ | f⟩ <;> rw [hx] at hm <;> simp only
  · have hb := hm.1 rfl
    simp only at hb
    rw [mTo_more (by omega) ((sect0 h).trans hx)]
    rcases hy : mTags b with ⟨c, _ | f⟩
    · have hc := tags_sec2 b hb (by rw [hy])
      rw [hy] at hc
      simp only at hc
      rw [mTo_more (by omega) ((sect1 hb).trans hy), mTo_at (by omega)]
    · rw [mTo_err (by omega) ((sect1 hb).trans hy)]
  · rw [mTo_err (by omega) ((sect0 h).trans hx)]

theorem to3_ahead (a : MSt) (h : a.sec = 0) : toK 3 a = mAhead a := by
  unfold toK
  rw [if_pos (by omega)]
  have hm := meas_sec a h
  unfold mAhead mHead
  rcases hx : mMeas a with ⟨b, _ | f⟩ <;> rw [hx] at hm <;> simp only
  · have hb := hm.1 rfl
    simp only at hb
    rw [mTo_more (by omega) ((sect0 h).trans hx)]
    rcases hy : mTags b with ⟨c, _ | f⟩ <;> simp only
    · have hc := tags_sec2 b hb (by rw [hy])
      rw [hy] at hc
      simp only at hc
      rw [mTo_more (by omega) ((sect1 hb).trans hy)]
      rcases hz : mFields c with ⟨d, _ | f⟩
      · have hd := fields_sec2 c hc (by rw [hz])
        rw [hz] at hd
        simp only at hd
        rw [mTo_more (by omega) ((sect2 hc).trans hz), mTo_at (by omega)]
      · rw [mTo_err (by omega) ((sect2 hc).trans hz)]
    · rw [mTo_err (by omega) ((sect1 hb).trans hy)]
  · rw [mTo_err (by omega) ((sect0 h).trans hx)]

/-- The time alone: what the entry tells. -/
theorem time_entry (a : MSt) (h : a.sec = 0) : timeOf (toK 3 a).2 (toK 3 a).1 = mEntry a := by
  rw [to3_ahead a h]
  unfold timeOf mEntry
  rcases mAhead a with ⟨b, _ | f⟩ <;> rfl

/-- The first field alone. -/
theorem field_first (a : MSt) (h : a.sec = 0) : fieldOf (toK 2 a).2 (toK 2 a).1 = mFirst a := by
  rw [to2_head a h]
  unfold fieldOf mFirst
  rcases mHead a with ⟨b, _ | f⟩ <;> rfl

theorem sect4 {m : MSt} (h : m.sec = 4) : mSect m = (mLine m, none) := by unfold mSect; rw [if_neg (by omega), if_neg (by omega), if_neg (by omega), if_neg (by omega), if_pos h]

theorem to5_late {m : MSt} (h4 : 4 ≤ m.sec) (h5 : m.sec ≤ 5) : (to5 m).2 = none := by
  unfold to5
  split
  · have h : m.sec = 4 := by omega
    rw [mTo_more (by omega) (sect4 h), mTo_at (by show 5 ≤ 5; omega)]
  · rfl

theorem to5_more {m a : MSt} (h : m.sec < 5) (hs : mSect m = (a, none)) (ha : a.sec ≤ 5) : to5 m = to5 a := by
  unfold to5
  rw [if_pos h, mTo_more h hs]
  by_cases h2 : a.sec < 5
  · rw [if_pos h2]
  · rw [if_neg h2, mTo_at (by omega)]

theorem mEnd_sect (m : MSt) (h : m.sec < 5) (hs : (mSect m).2 ≠ none → 4 ≤ (mSect m).1.sec ∧ (mSect m).1.sec ≤ 5) : mEnd m = mEnd (mSect m).1 := by
  rcases hx : mSect m with ⟨a, _ | f⟩
  · have hup := sect_up m h (by rw [hx])
    rw [hx] at hup
    have e := to5_more h hx hup.2
    unfold mEnd
    rw [e]
  · rw [hx] at hs
    have hl := hs (by simp)
    have e : to5 m = (a, some f) := by unfold to5; rw [if_pos h, mTo_err h hx]
    have h2 := to5_late hl.1 hl.2
    unfold mEnd
    rw [e, if_neg (by simp)]
    simp only at h2 ⊢
    rw [if_pos h2]

theorem mEnd_fields (e : MSt) (h : e.sec = 2 ∨ e.sec = 3 ∨ e.sec = 5) : mEnd e = mEnd (mFields e).1 := by
  rcases h with h | h
  · rw [mEnd_sect e (by omega) (by rw [sect2 h]; exact (fields_sec e (.inl h)).2), sect2 h]
  · have hf : mFields e = (e, none) := by
      unfold mFields
      refine iterR_done ?_
      unfold fieldStep mField
      rw [if_pos (by omega)]
    rw [hf]

theorem mEnd_time (g : MSt) (h : g.sec = 3 ∨ g.sec = 5) : mEnd g = mEnd (mTime g).1 := by
  rcases h with h | h
  · have ht := time_sec g h
    have hs := sect3 h
    rcases hx : mTime g with ⟨a, f | l⟩ <;> rw [hx] at hs ht <;> simp only at hs ht
    · rw [mEnd_sect g (by omega) (by rw [hs]; intro _; simp only; omega), hs]
    · rw [mEnd_sect g (by omega) (by rw [hs]; intro hn; simp at hn), hs]
  · rw [time_other g (by omega)]

/-- Both end at the same place. -/
theorem end_first (a : MSt) (h : a.sec = 0) : mEnd (mFirst a).1 = mEnd (mEntry a).1 := by
  have hs := head_sec a h
  unfold mFirst mEntry mAhead
  rcases hx : mHead a with ⟨c, _ | f⟩ <;> rw [hx] at hs <;> simp only
  have hc := hs.1 rfl
  simp only at hc
  rcases hy : mField c with ⟨e, f | _ | d⟩
  · have hf : mFields c = (e, some f) := by unfold mFields; refine iterR_done ?_; unfold fieldStep; rw [hy]
    rw [hf]
  · exact absurd hc ((field_sec c).2.1 _ hy).2
  · have hf : mFields c = mFields e := by unfold mFields; refine iterR_more ?_; unfold fieldStep; rw [hy]
    have he := (field_sec c).1 _ _ hy
    have h1 := mEnd_fields e he
    rw [hf]
    rw [h1]
    rcases hz : mFields e with ⟨g, _ | f⟩ <;> simp only
    have hg : g.sec = 3 ∨ g.sec = 5 := by
      rcases he with he | he
      · have := fields_sec2 e he (by rw [hz])
        rw [hz] at this; exact this
      · have hq : mFields e = (e, none) := by
          unfold mFields; refine iterR_done ?_; unfold fieldStep mField; rw [if_pos (by omega)]
        rw [hq] at hz
        simp at hz
        rw [← hz]; omega
    exact mEnd_time g hg

theorem next_first (a : MSt) (h : a.sec = 0) : mNx (mFirst a).1 = mNx (mEntry a).1 := by
  unfold mNx
  rw [end_first a h]

/-- No first field: the entry's fault is the first field's. -/
theorem first_none (a : MSt) (h : a.sec = 0) : (∀ f, (mFirst a).2 = .err f → (mEntry a).2 = .err f) ∧ (mFirst a).2 ≠ .none := by
  have hs := head_sec a h
  unfold mFirst mEntry mAhead
  rcases hx : mHead a with ⟨c, _ | f⟩ <;> rw [hx] at hs <;> simp only
  · have hc := hs.1 rfl
    simp only at hc
    rcases hy : mField c with ⟨e, f | _ | d⟩
    · have hf : mFields c = (e, some f) := by unfold mFields; refine iterR_done ?_; unfold fieldStep; rw [hy]
      rw [hf]
      exact ⟨fun f' e' => by simp at e'; subst e'; rfl, by simp⟩
    · exact absurd hc ((field_sec c).2.1 _ hy).2
    · exact ⟨fun f' e' => by simp at e', by simp⟩
  · exact ⟨fun f' e' => by simp at e'; subst e'; rfl, by simp⟩
end Go.Proofs.YtejlokdcocacaaaGreatDoor
