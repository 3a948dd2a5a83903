/- advanceToSection; Next. -/
import Derived.Test.YtejlokdcocacaaaGreatDoorSect
namespace Go.Proofs.YtejlokdcocacaaaGreatDoor
open Go.RowKit Go.Proofs.YtejlokdcocacaaaGreatDoorW.PrintLast

section
variable {σ β : Type} {f : σ → σ ⊕ β}
theorem iter_total (μ : σ → Nat) (h : ∀ s s', f s = .inl s' → μ s' < μ s) : ∀ (n : Nat) (s : σ), μ s < n → ∃ b, Iter f s b
  | 0, _, hn => absurd hn (by omega)
  | n + 1, s, hn => by
    rcases hs : f s with s' | b
    · obtain ⟨b, hb⟩ := iter_total μ h n s' (by have := h s s' hs; omega)
      exact ⟨b, .more hs hb⟩
    · exact ⟨b, .done hs⟩

theorem iterR_has (μ : σ → Nat) (h : ∀ s s', f s = .inl s' → μ s' < μ s) {z : β} (P : σ → Prop) (Q : β → Prop) (h1 : ∀ s s', P s → f s = .inl s' → P s') (h2 : ∀ s b, P s → f s = .inr b → Q b) (s : σ) (hs : P s) : Q (iterR f z s) := by
  obtain ⟨b, hb⟩ := iter_total μ h (μ s + 1) s (by omega)
  rw [iterR_eq hb]
  induction hb with
  | done hx => exact h2 _ _ hs hx
  | more hx _ ih => exact ih (h1 _ _ hs hx)
end

theorem tagStep_less (s s' : MSt) (h : tagStep s = .inl s') : s'.left < s.left := by
  unfold tagStep at h
  rcases hk : mTag s with ⟨c, f | _ | _⟩ <;> rw [hk] at h <;> simp at h
  subst h; exact tag_less hk
theorem fieldStep_less (s s' : MSt) (h : fieldStep s = .inl s') : s'.left < s.left := by
  unfold fieldStep at h
  rcases hk : mField s with ⟨c, f | _ | d⟩ <;> rw [hk] at h <;> simp at h
  subst h; exact field_less hk

theorem adv_tags (m : MSt) : Adv m (mTags m).1 := by
  unfold mTags
  refine iterR_has MSt.left tagStep_less (fun s => Adv m s) (fun (b : MSt × Option Flt) => Adv m b.1) (fun s s' hs he => ?_) (fun s b hs he => ?_) m (Adv.refl m)
  · unfold tagStep at he
    have := adv_tag s
    rcases hk : mTag s with ⟨c, f | _ | _⟩ <;> rw [hk] at he this <;> simp at he
    subst he; exact hs.trans this
  · unfold tagStep at he
    have := adv_tag s
    rcases hk : mTag s with ⟨c, f | _ | _⟩ <;> rw [hk] at he this <;> simp at he <;> subst he <;> exact hs.trans this

theorem adv_fields (m : MSt) : Adv m (mFields m).1 := by
  unfold mFields
  refine iterR_has MSt.left fieldStep_less (fun s => Adv m s) (fun (b : MSt × Option Flt) => Adv m b.1) (fun s s' hs he => ?_) (fun s b hs he => ?_) m (Adv.refl m)
  · unfold fieldStep at he
    have := adv_field s
    rcases hk : mField s with ⟨c, f | _ | d⟩ <;> rw [hk] at he this <;> simp at he
    subst he; exact hs.trans this
  · unfold fieldStep at he
    have := adv_field s
    rcases hk : mField s with ⟨c, f | _ | d⟩ <;> rw [hk] at he this <;> simp at he <;> subst he <;> exact hs.trans this

theorem adv_sect (m : MSt) : Adv m (mSect m).1 := by
  unfold mSect
  split
  · exact adv_meas m
  split
  · exact adv_tags m
  split
  · exact adv_fields m
  split
  · have := adv_time m
    rcases hm : mTime m with ⟨a, f | l⟩ <;> rw [hm] at this <;> exact this
  split
  · exact adv_mLine m
  · exact Adv.refl m

theorem tags_sec2 (m : MSt) (hm : m.sec = 1) (h : (mTags m).2 = none) : (mTags m).1.sec = 2 := by
  rcases (tags_sec m (.inl hm)).1 h with h1 | h1
  · exact h1
  · exfalso
    have := iterR_has MSt.left tagStep_less (z := (m0, none)) (fun s => 1 ≤ s.sec) (fun (b : MSt × Option Flt) => b.2 = none → 1 ≤ b.1.sec) (fun s s' hs he => by
      unfold tagStep at he
      rcases hk : mTag s with ⟨c, f | _ | _⟩ <;> rw [hk] at he <;> simp at he
      subst he; exact tag_sec hk) (fun s b hs he => by
      unfold tagStep at he
      rcases hk : mTag s with ⟨c, f | _ | _⟩ <;> rw [hk] at he <;> simp at he <;> subst he
      · intro hx; simp at hx
      · intro _
        show 1 ≤ c.sec
        unfold mTag at hk
        split at hk
        · simp at hk; rw [← hk]; exact hs
        split at hk
        · simp at hk; rw [← hk]; show 1 ≤ 2; omega
        simp only at hk
        split at hk
        · simp at hk
        split at hk
        · simp at hk
        split at hk
        · simp at hk
        split at hk <;> simp at hk) m (by omega) h
    have h2 : 1 ≤ (mTags m).1.sec := this
    omega

theorem fields_sec2 (m : MSt) (hm : m.sec = 2) (h : (mFields m).2 = none) : (mFields m).1.sec = 3 ∨ (mFields m).1.sec = 5 := by
  rcases (fields_sec m (.inl hm)).1 h with h1 | h1 | h1
  · exact .inl h1
  · exact .inr h1
  · exfalso
    have := iterR_has MSt.left fieldStep_less (z := (m0, none)) (fun s => 1 ≤ s.sec) (fun (b : MSt × Option Flt) => b.2 = none → 1 ≤ b.1.sec) (fun s s' hs he => by
      unfold fieldStep at he
      rcases hk : mField s with ⟨c, f | _ | d⟩ <;> rw [hk] at he <;> simp at he
      subst he
      have := (field_sec s).1 _ _ hk
      omega) (fun s b hs he => by
      unfold fieldStep at he
      rcases hk : mField s with ⟨c, f | _ | d⟩ <;> rw [hk] at he <;> simp at he <;> subst he
      · intro hx; simp at hx
      · intro _
        have := (field_sec s).2.1 _ hk
        show 1 ≤ c.sec
        rw [this.1]; exact hs) m (by omega) h
    have h2 : 1 ≤ (mFields m).1.sec := this
    omega

theorem sect_up (m : MSt) (h5 : m.sec < 5) (h : (mSect m).2 = none) : m.sec < (mSect m).1.sec ∧ (mSect m).1.sec ≤ 5 := by
  unfold mSect at h ⊢
  split
  · rename_i h0
    rw [if_pos h0] at h
    have := (meas_sec m h0).1 h
    omega
  rename_i h0
  rw [if_neg h0] at h
  split
  · rename_i h1
    rw [if_pos h1] at h
    have := tags_sec2 m h1 h
    omega
  rename_i h1
  rw [if_neg h1] at h
  split
  · rename_i h2
    rw [if_pos h2] at h
    have := fields_sec2 m h2 h
    omega
  rename_i h2
  rw [if_neg h2] at h
  split
  · rename_i h3
    have := time_sec m h3
    rcases hm : mTime m with ⟨a, f | l⟩ <;> rw [hm] at this <;> simp only at this ⊢ <;> omega
  rename_i h3
  rw [if_neg h3] at h
  split
  · show m.sec < 5 ∧ 5 ≤ 5; omega
  · omega

/-- A section, or the end of the way to section k. -/
noncomputable def toStep (k : Nat) (m : MSt) : MSt ⊕ (MSt × Option Flt) :=
  if m.sec < k then (match mSect m with | (a, some f) => .inr (a, some f) | (a, none) => .inl a) else .inr (m, none)

/-- On to section k. -/
noncomputable def mTo (k : Nat) (m : MSt) : MSt × Option Flt := iterR (toStep k) (m0, none) m

section
variable {w : World} {B D T E : Nat} {m : MSt} {es : List UInt8}

set_option maxHeartbeats 8000000 in
theorem to_code (h : Rep w B D T E false (m.d es)) (hes : es.length + m.r0 ≤ m.r1) (hk : m.Ok) (k : Nat) (h5 : k ≤ 5) (hkm : m.sec < k) :
    Calls Tryz.prog 50 #[.pointer (some ⟨D, 0, none⟩), .int .u8 (k : Int)] w (DX B D T E false w (mTo k m).1 (ToIs B k (mTo k m).2 (mTo k m).1)) := by
  have H := hid h
  have HK := hid hk
  have HES := hid hes
  have hDE := h.DE
  obtain ⟨C, ec, q1, q2, q3, q4, c0, c1, c2, c3, c4, c5, c6, c7, c8, c9, fz, ho⟩ := h.cells
  have hf6 := fz 6
  simp only [MSt.d] at c5
  have e1 : ((m.sec : Int) == (k : Int)) = false := by rw [beq_eq_false_iff_ne]; omega
  have e2 : ¬ (k : Int) < (m.sec : Int) := by omega
  clear c0 c1 c2 c3 c4 c7 c8 c9 fz ho q1 q2 q3 q4 h hk hes
  go_enter Tryz.func50, Tryz.ntmps50
  go_wp2_with fail
  have H1 := hid (H.out.setSk true)
  have HS1 := hid (((Stp.refl D E w).setD 6 (.bool true)).weak 0 H.out.lt.2.2.1 hDE)
  generalize w.setCell ⟨D, 6, none⟩ (.bool true) = w1 at H1 HS1 ⊢
  clear c5 c6 hf6 e1 e2
  go_loopg [] (6 - m.sec) (fun gh wx => ∃ (cur : MSt) (E1 : Nat) (es1 : List UInt8), gh = 6 - cur.sec ∧ Hid (iterR (toStep k) (m0, none) cur = mTo k m) ∧ Rep wx B D T E1 true (cur.d es1) ∧ Stw 0 D E w E1 wx ∧ es1.length + cur.r0 ≤ cur.r1 ∧ cur.Ok)
  case atStart => exact ⟨m, E, es, rfl, hid rfl, H1.out, HS1.out, HES.out, HK.out⟩
  case round =>
    obtain ⟨cur, E1, es1, hg, hit, hrep, hstw, hlen, hok⟩ := hrel
    obtain ⟨C, ec, q1, q2, q3, q4, c0, c1, c2, c3, c4, c5, c6, c7, c8, c9, fz, ho⟩ := hrep.cells
    have hf6 := fz 6
    have hs5 := hrep.sec5
    simp only [MSt.d] at c5 hs5
    have H2 := hid hrep
    have HS2 := hid hstw
    have HL := hid hlen
    have HOK := hid hok
    have HG := hid hg
    clear hrep hstw hlen hok hg c0 c1 c2 c3 c4 c7 c8 c9 fz ho q1 q2 q3 q4 H1 HS1
    by_cases hlt : cur.sec < k
    · have e3 : (cur.sec : Int) < (k : Int) := by omega
      have HLT := hid hlt
      clear hlt
      go_wp2_with fail
      refine (sect_code H2.out HL.out HOK.out (by have := HLT.out; omega)).mono ?_
      rintro e w3 ⟨E3, es3, v, rfl, hR, h3, st3, hl3⟩
      have hst : toStep k cur = (match mSect cur with | (a, some f) => .inr (a, some f) | (a, none) => .inl a) := by unfold toStep; rw [if_pos HLT.out]
      have hoka : (mSect cur).1.Ok := (adv_sect cur).ok HOK.out
      have hup := sect_up cur (by have := HLT.out; omega)
      have hS3 := HS2.out.trans st3 (Nat.le_refl _) hDE
      clear c5 c6 hf6 st3
      rcases hmt : mSect cur with ⟨a, _ | f⟩
      · rw [hmt] at hR h3 hl3 hst hoka hup
        simp only [FltIs] at hR
        subst hR
        have hit2 : iterR (toStep k) (m0, none) a = mTo k m := by rw [← hit.out]; exact (iterR_more hst).symm
        have HIT2 := hid hit2
        have HUP := hid (hup rfl)
        have H3 := hid h3
        have HS3 := hid hS3
        have HOKA := hid hoka
        clear hst hit2 hup h3 hS3 hoka hmt
        go_wp2_with fail
        go_roundg (6 - a.sec)
        case measure => have := HG.out; have := HUP.out; have := HLT.out; omega
        case rel => exact ⟨a, E3, es3, rfl, HIT2, H3.out, HS3.out, hl3, HOKA.out⟩
      · rw [hmt] at hR h3 hl3 hst hoka
        simp only [FltIs] at hR
        have HE := hid hR
        obtain ⟨XE, YE, rfl, hx1, hx2, hx3⟩ := hR
        have hmm : mTo k m = (a, some f) := by rw [← hit.out]; exact iterR_done hst
        have HMM := hid hmm
        obtain ⟨C, ec, q1, q2, q3, q4, c0, c1, c2, c3, c4, c5, c6, c7, c8, c9, fz, ho⟩ := h3.cells
        have hf6 := fz 6
        have H3 := hid h3
        have HS3 := hid hS3
        clear hx1 hx2 hx3 hst hmm h3 hS3 hoka hmt hup c0 c1 c2 c3 c4 c5 c7 c8 c9 fz ho q1 q2 q3 q4
        go_wp2_with fail
        go_ret2
        rw [HMM.out]
        refine ⟨E3, es3, _, rfl, ⟨_, errIs_far HE.out (fun k hk hB hc => ?_), rfl⟩, H3.out.setSk false, HS3.out.setD hDE _ _, hl3⟩
        obtain ⟨cc, tt, hcc, htt⟩ := hc
        refine heap_setCell_other _ _ k _ (fun e => ?_)
        subst e
        obtain ⟨C, ec, hC, hC2, hd, _⟩ := H3.out.dec
        unfold IsDec at hd
        rw [hcc] at hd
        simp only [Option.some.injEq, Obj.cells.injEq] at hd
        rcases htt with rfl | rfl <;> exact absurd hd.2.1 (by decide)
    · have e3 : ¬ (cur.sec : Int) < (k : Int) := by omega
      have hst : toStep k cur = .inr (cur, none) := by unfold toStep; rw [if_neg hlt]
      have hmm : mTo k m = (cur, none) := by rw [← hit.out]; exact iterR_done hst
      have HMM := hid hmm
      obtain ⟨eb, heb⟩ : ∃ eb, (cur.sec == k) = eb := ⟨_, rfl⟩
      have he2 : ((cur.sec : Int) == (k : Int)) = eb := by
        rw [← heb, Bool.eq_iff_iff, beq_iff_eq, beq_iff_eq]; omega
      have HEB := hid heb
      clear hst hmm hlt heb
      go_wp2_with fail
      go_ret2
      rw [HMM.out]
      exact ⟨E1, es1, _, rfl, by simp only [ToIs]; rw [HEB.out]; rfl, H2.out.setSk false, HS2.out.setD hDE _ _, HL.out⟩

theorem toStep_less (k : Nat) (h5 : k ≤ 5) (s s' : MSt) (h : toStep k s = .inl s') : 6 - s'.sec < 6 - s.sec := by
  unfold toStep at h
  split at h
  · rename_i hlt
    have hup := sect_up s (by omega)
    rcases hm : mSect s with ⟨a, _ | f⟩ <;> rw [hm] at h hup <;> simp at h
    subst h
    have := hup rfl
    simp only at this
    omega
  · simp at h

theorem adv_to_k (k : Nat) (h5 : k ≤ 5) (m : MSt) : Adv m (mTo k m).1 := by
  unfold mTo
  refine iterR_has (fun s : MSt => 6 - s.sec) (toStep_less k h5) (fun s => Adv m s) (fun (b : MSt × Option Flt) => Adv m b.1) (fun s s' hs he => ?_) (fun s b hs he => ?_) m (Adv.refl m)
  · unfold toStep at he
    split at he
    · have := adv_sect s
      rcases hk : mSect s with ⟨c, _ | f⟩ <;> rw [hk] at he this <;> simp at he
      subst he; exact hs.trans this
    · simp at he
  · unfold toStep at he
    split at he
    · have := adv_sect s
      rcases hk : mSect s with ⟨c, _ | f⟩ <;> rw [hk] at he this <;> simp at he
      subst he; exact hs.trans this
    · simp at he; subst he; exact hs

/-- On to the end of the entry, up to a fault. -/
noncomputable def to5 (m : MSt) : MSt × Option Flt := if m.sec < 5 then mTo 5 m else (m, none)
/-- Behind the entry. -/
noncomputable def mEnd (m : MSt) : MSt := if (to5 m).2 = none then (to5 m).1 else (to5 (to5 m).1).1
/-- At the next entry. -/
noncomputable def mNx (m : MSt) : MSt := (mSkip (mEnd m)).to 0

theorem adv_to5 (m : MSt) : Adv m (to5 m).1 := by
  unfold to5
  split
  · exact adv_to_k 5 (Nat.le_refl _) m
  · exact Adv.refl m

theorem to5_code (h : Rep w B D T E false (m.d es)) (hes : es.length + m.r0 ≤ m.r1) (hk : m.Ok) :
    Calls Tryz.prog 50 #[.pointer (some ⟨D, 0, none⟩), .int .u8 5] w (DX B D T E false w (to5 m).1 (ToIs B 5 (to5 m).2 (to5 m).1)) := by
  unfold to5
  by_cases h5 : m.sec < 5
  · rw [if_pos h5]
    exact to_code h hes hk 5 (Nat.le_refl _) h5
  · rw [if_neg h5]
    exact to_dx h hes 5 (by omega)

set_option maxHeartbeats 4000000 in
theorem next_code (h : Rep w B D T E false (m.d es)) (hes : es.length + m.r0 ≤ m.r1) (hk : m.Ok) :
    Calls Tryz.prog 24 #[.pointer (some ⟨D, 0, none⟩)] w (DX B D T E false w (mNx m) (fun _ v => v = .bool ((mNx m).has 1))) := by
  have H := hid h
  have HK := hid hk
  have HES := hid hes
  have hDE := h.DE
  clear h hk hes
  go_enter Tryz.func24, Tryz.ntmps24
  have key : ∀ (w1 : World) (a : MSt) (E1 : Nat) (es1 : List UInt8), Rep w1 B D T E1 false (a.d es1) → Stw 0 D E w E1 w1 → es1.length + a.r0 ≤ a.r1 → a.Ok → mEnd m = a →
      Calls Tryz.prog 51 #[.pointer (some ⟨D, 0, none⟩)] w1 fun e w' => e = .returned (.tuple #[]) ∧ Rep w' B D T E1 false ((mSkip a).d es1) ∧ Stw 0 D E w E1 w' ∧ es1.length + (mSkip a).r0 ≤ (mSkip a).r1 := fun w1 a E1 es1 h1 h2 h3 h4 h5 =>
    (skip_code h1 h4).mono fun e w' ⟨E2, v, he, ⟨hv, hsk⟩, hr, hst⟩ => by
      obtain rfl : E2 = E1 := hst.esc
      subst hv
      exact ⟨he, hr, h2.trans (hst.weak 0 h1.lt.2.2.1 h1.DE) (Nat.le_refl _) hDE, by have := hsk.r0; have := hsk.r1; omega⟩
  have KEY := hid key; clear key
  go_wp2_with fail
  refine (to5_code H.out HES.out HK.out).mono ?_
  rintro e w1 ⟨E1, es1, v, rfl, hR, h1, st1, hl1⟩
  have hoka := (adv_to5 m).ok HK.out
  rcases ht : to5 m with ⟨a, _ | f⟩
  · rw [ht] at hR h1 hl1 hoka
    simp only [ToIs] at hR
    subst hR
    have hme : mEnd m = a := by unfold mEnd; rw [ht, if_pos rfl]
    have HK2 := hid (KEY.out w1 a E1 es1 h1 st1 hl1 hoka hme)
    have HME := hid hme
    clear ht h1 st1 hl1 hoka hme
    go_wp2_with fail
    refine HK2.out.mono ?_
    rintro e w2 ⟨rfl, h2, st2, hl2⟩
    obtain ⟨C, ec, q1, q2, q3, q4, c0, c1, c2, c3, c4, c5, c6, c7, c8, c9, fz, ho⟩ := h2.cells
    have hf5 := fz 5
    have H2 := hid h2
    have HS2 := hid st2
    clear h2 st2 c0 c1 c2 c3 c4 c6 c7 c8 c9 fz ho q1 q2 q3 q4
    go_wp2_with fail
    have H3 := hid (show Rep (w2.setCell ⟨D, 5, none⟩ (.int .u8 0)) B D T E1 false (((mSkip a).to 0).d es1) from H2.out.setSec 0 (by omega))
    have HS3 := hid (HS2.out.setD hDE 5 (.int .u8 0))
    generalize w2.setCell ⟨D, 5, none⟩ (.int .u8 0) = w3 at H3 HS3 ⊢
    clear c5 hf5 H2 HS2
    refine (has_code H3.out 1 rfl).mono ?_; rintro e w4 ⟨rfl, n4, rfl⟩
    go_wp2_with fail
    go_ret
    have hn : mNx m = (mSkip a).to 0 := by unfold mNx; rw [HME.out]
    rw [hn]
    exact ⟨E1, es1, _, rfl, rfl, H3.out.drewN _, HS3.out.drewN _, hl2⟩
  · rw [ht] at hR h1 hl1 hoka
    simp only [ToIs] at hR
    obtain ⟨v2, hE, rfl⟩ := hR
    obtain ⟨XE, YE, rfl, hx1, hx2, hx3⟩ := hE
    have hme : mEnd m = (to5 a).1 := by unfold mEnd; rw [ht, if_neg (by simp)]
    have HT2 := hid (to5_code h1 hl1 hoka)
    have hokb := (adv_to5 a).ok hoka
    have HOKB := hid hokb
    have HME := hid hme
    have HS1 := hid st1
    clear ht h1 st1 hl1 hoka hme hx1 hx2 hx3 hokb
    go_wp2_with fail
    refine HT2.out.mono ?_
    rintro e w2 ⟨E2, es2, v, rfl, hR, h2, st2, hl2⟩
    have HK2 := hid (KEY.out w2 (to5 a).1 E2 es2 h2 (HS1.out.trans st2 (Nat.le_refl _) hDE) hl2 HOKB.out HME.out)
    clear h2 st2 hl2 hR HT2
    go_wp2_with fail
    refine HK2.out.mono ?_
    rintro e w3 ⟨rfl, h2, st2, hl2⟩
    obtain ⟨C, ec, q1, q2, q3, q4, c0, c1, c2, c3, c4, c5, c6, c7, c8, c9, fz, ho⟩ := h2.cells
    have hf5 := fz 5
    have H2 := hid h2
    have HS2 := hid st2
    clear h2 st2 c0 c1 c2 c3 c4 c6 c7 c8 c9 fz ho q1 q2 q3 q4
    go_wp2_with fail
    have H3 := hid (show Rep (w3.setCell ⟨D, 5, none⟩ (.int .u8 0)) B D T E2 false (((mSkip (to5 a).1).to 0).d es2) from H2.out.setSec 0 (by omega))
    have HS3 := hid (HS2.out.setD hDE 5 (.int .u8 0))
    generalize w3.setCell ⟨D, 5, none⟩ (.int .u8 0) = w4 at H3 HS3 ⊢
    clear c5 hf5 H2 HS2
    refine (has_code H3.out 1 rfl).mono ?_; rintro e w5 ⟨rfl, n5, rfl⟩
    go_wp2_with fail
    go_ret
    have hn : mNx m = (mSkip (to5 a).1).to 0 := by unfold mNx; rw [HME.out]
    rw [hn]
    exact ⟨E2, es2, _, rfl, rfl, H3.out.drewN _, HS3.out.drewN _, hl2⟩

/-! ### the methods, whatever section is due -/
/-- To section k, where it is not gone by. -/
noncomputable def toK (k : Nat) (m : MSt) : MSt × Option Flt := if m.sec < k then mTo k m else (m, none)

theorem toK_code (h : Rep w B D T E false (m.d es)) (hes : es.length + m.r0 ≤ m.r1) (hk : m.Ok) (k : Nat) (h5 : k ≤ 5) :
    Calls Tryz.prog 50 #[.pointer (some ⟨D, 0, none⟩), .int .u8 (k : Int)] w (DX B D T E false w (toK k m).1 (ToIs B k (toK k m).2 (toK k m).1)) := by
  unfold toK
  by_cases h1 : m.sec < k
  · rw [if_pos h1]
    exact to_code h hes hk k h5 h1
  · rw [if_neg h1]
    exact to_dx h hes k (by omega)

theorem adv_toK (k : Nat) (h5 : k ≤ 5) (m : MSt) : Adv m (toK k m).1 := by
  unfold toK
  split
  · exact adv_to_k k h5 m
  · exact Adv.refl m

theorem field_full (h : Rep w B D T E false (m.d es)) (hes : es.length + m.r0 ≤ m.r1) (hk : m.Ok) :
    Calls Tryz.prog 34 #[.pointer (some ⟨D, 0, none⟩)] w (DX B D T E false w (fieldOf (toK 2 m).2 (toK 2 m).1).1 (FieldIs B false (fieldOf (toK 2 m).2 (toK 2 m).1).2)) :=
  field_core h.DE ((adv_toK 2 (by omega) m).ok hk) (toK_code h hes hk 2 (by omega))

theorem time_full (h : Rep w B D T E false (m.d es)) (hes : es.length + m.r0 ≤ m.r1) (hk : m.Ok) :
    Calls Tryz.prog 35 #[.pointer (some ⟨D, 0, none⟩)] w (DX B D T E false w (timeOf (toK 3 m).2 (toK 3 m).1).1 (TimeIs B D (timeOf (toK 3 m).2 (toK 3 m).1).2)) :=
  time_core h.DE ((adv_toK 3 (by omega) m).ok hk) (toK_code h hes hk 3 (by omega))
end
end Go.Proofs.YtejlokdcocacaaaGreatDoor
