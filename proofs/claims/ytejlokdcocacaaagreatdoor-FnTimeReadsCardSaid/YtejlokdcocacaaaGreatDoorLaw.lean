/- The plain law: an entry read whole, an entry of which the time alone is read, and one of which the first field alone is read, tell the same faults and end at the same place. No program here. -/
import Derived.Test.YtejlokdcocacaaaGreatDoorTo
namespace Go.Proofs.YtejlokdcocacaaaGreatDoor
open Go.RowKit

theorem mTo_more {k : Nat} {m a : MSt} (h : m.sec < k) (hs : mSect m = (a, none)) : mTo k m = mTo k a := by
  unfold mTo
  refine iterR_more ?_
  unfold toStep
  rw [if_pos h, hs]

theorem mTo_err {k : Nat} {m a : MSt} {f : Flt} (h : m.sec < k) (hs : mSect m = (a, some f)) : mTo k m = (a, some f) := by
  unfold mTo
  refine iterR_done ?_
  unfold toStep
  rw [if_pos h, hs]

theorem mTo_at {k : Nat} {m : MSt} (h : k ≤ m.sec) : mTo k m = (m, none) := by
  unfold mTo
  refine iterR_done ?_
  unfold toStep
  rw [if_neg (by omega)]

theorem sect0 {m : MSt} (h : m.sec = 0) : mSect m = mMeas m := by unfold mSect; rw [if_pos h]
theorem sect1 {m : MSt} (h : m.sec = 1) : mSect m = mTags m := by unfold mSect; rw [if_neg (by omega), if_pos h]
theorem sect2 {m : MSt} (h : m.sec = 2) : mSect m = mFields m := by unfold mSect; rw [if_neg (by omega), if_neg (by omega), if_pos h]
theorem sect3 {m : MSt} (h : m.sec = 3) : mSect m = (match mTime m with | (a, .err f) => (a, some f) | (a, .ok _) => (a, none)) := by
  unfold mSect; rw [if_neg (by omega), if_neg (by omega), if_neg (by omega), if_pos h]; rfl

/-- The head of an entry leaves the decoder at the fields. -/
theorem head_sec (a : MSt) (h : a.sec = 0) : ((mHead a).2 = none → (mHead a).1.sec = 2) ∧ ((mHead a).2 ≠ none → 4 ≤ (mHead a).1.sec ∧ (mHead a).1.sec ≤ 5) := by
  have hm := meas_sec a h
  unfold mHead
  rcases hx : mMeas a with ⟨b, _ | f⟩ <;> rw [hx] at hm <;> simp only
  · have hb := hm.1 rfl
    exact ⟨fun hn => tags_sec2 b hb hn, fun hn => (tags_sec b (.inl hb)).2 hn⟩
  · have := hm.2 (by simp)
    simp only at this
    exact ⟨fun hn => by simp at hn, fun _ => by omega⟩

theorem to2_head (a : MSt) (h : a.sec = 0) : toK 2 a = mHead a := by
  unfold toK
  rw [if_pos (by omega)]
  have hm := meas_sec a h
  unfold mHead
  rcases hx : mMeas a with ⟨b, _ | f⟩ <;> rw [hx] at hm <;> simp only
  · have hb := hm.1 rfl
    simp only at hb
    rw [mTo_more (by omega) ((sect0 h).trans hx)]
    rcases hy : mTags b with ⟨c, _ | f⟩
    · have hc := tags_sec2 b hb (by rw [hy])
      rw [hy] at hc
      simp only at hc
      rw [mTo_more (by omega) ((sect1 hb).trans hy), mTo_at (by omega)]
    · rw [mTo_err (by omega) ((sect1 hb).trans hy)]
  · rw [mTo_err (by omega) ((sect0 h).trans hx)]

theorem to3_ahead (a : MSt) (h : a.sec = 0) : toK 3 a = mAhead a := by
  unfold toK
  rw [if_pos (by omega)]
  have hm := meas_sec a h
  unfold mAhead mHead
  rcases hx : mMeas a with ⟨b, _ | f⟩ <;> rw [hx] at hm <;> simp only
  · have hb := hm.1 rfl
    simp only at hb
    rw [mTo_more (by omega) ((sect0 h).trans hx)]
    rcases hy : mTags b with ⟨c, _ | f⟩ <;> simp only
    · have hc := tags_sec2 b hb (by rw [hy])
      rw [hy] at hc
      simp only at hc
      rw [mTo_more (by omega) ((sect1 hb).trans hy)]
      rcases hz : mFields c with ⟨d, _ | f⟩
      · have hd := fields_sec2 c hc (by rw [hz])
        rw [hz] at hd
        simp only at hd
        rw [mTo_more (by omega) ((sect2 hc).trans hz), mTo_at (by omega)]
      · rw [mTo_err (by omega) ((sect2 hc).trans hz)]
    · rw [mTo_err (by omega) ((sect1 hb).trans hy)]
  · rw [mTo_err (by omega) ((sect0 h).trans hx)]

/-- The time alone: what the entry tells. -/
theorem time_entry (a : MSt) (h : a.sec = 0) : timeOf (toK 3 a).2 (toK 3 a).1 = mEntry a := by
  rw [to3_ahead a h]
  unfold timeOf mEntry
  rcases mAhead a with ⟨b, _ | f⟩ <;> rfl

/-- The first field alone. -/
theorem field_first (a : MSt) (h : a.sec = 0) : fieldOf (toK 2 a).2 (toK 2 a).1 = mFirst a := by
  rw [to2_head a h]
  unfold fieldOf mFirst
  rcases mHead a with ⟨b, _ | f⟩ <;> rfl

theorem sect4 {m : MSt} (h : m.sec = 4) : mSect m = (mLine m, none) := by unfold mSect; rw [if_neg (by omega), if_neg (by omega), if_neg (by omega), if_neg (by omega), if_pos h]

theorem to5_late {m : MSt} (h4 : 4 ≤ m.sec) (h5 : m.sec ≤ 5) : (to5 m).2 = none := by
  unfold to5
  split
  · have h : m.sec = 4 := by omega
    rw [mTo_more (by omega) (sect4 h), mTo_at (by show 5 ≤ 5; omega)]
  · rfl

theorem to5_more {m a : MSt} (h : m.sec < 5) (hs : mSect m = (a, none)) (ha : a.sec ≤ 5) : to5 m = to5 a := by
  unfold to5
  rw [if_pos h, mTo_more h hs]
  by_cases h2 : a.sec < 5
  · rw [if_pos h2]
  · rw [if_neg h2, mTo_at (by omega)]

theorem mEnd_sect (m : MSt) (h : m.sec < 5) (hs : (mSect m).2 ≠ none → 4 ≤ (mSect m).1.sec ∧ (mSect m).1.sec ≤ 5) : mEnd m = mEnd (mSect m).1 := by
  rcases hx : mSect m with ⟨a, _ | f⟩
  · have hup := sect_up m h (by rw [hx])
    rw [hx] at hup
    have e := to5_more h hx hup.2
    unfold mEnd
    rw [e]
  · rw [hx] at hs
    have hl := hs (by simp)
    have e : to5 m = (a, some f) := by unfold to5; rw [if_pos h, mTo_err h hx]
    have h2 := to5_late hl.1 hl.2
    unfold mEnd
    rw [e, if_neg (by simp)]
    simp only at h2 ⊢
    rw [if_pos h2]

theorem mEnd_fields (e : MSt) (h : e.sec = 2 ∨ e.sec = 3 ∨ e.sec = 5) : mEnd e = mEnd (mFields e).1 := by
  rcases h with h | h
  · rw [mEnd_sect e (by omega) (by rw [sect2 h]; exact (fields_sec e (.inl h)).2), sect2 h]
  · have hf : mFields e = (e, none) := by
      unfold mFields
      refine iterR_done ?_
      unfold fieldStep mField
      rw [if_pos (by omega)]
    rw [hf]

theorem mEnd_time (g : MSt) (h : g.sec = 3 ∨ g.sec = 5) : mEnd g = mEnd (mTime g).1 := by
  rcases h with h | h
  · have ht := time_sec g h
    have hs := sect3 h
    rcases hx : mTime g with ⟨a, f | l⟩ <;> rw [hx] at hs ht <;> simp only at hs ht
    · rw [mEnd_sect g (by omega) (by rw [hs]; intro _; simp only; omega), hs]
    · rw [mEnd_sect g (by omega) (by rw [hs]; intro hn; simp at hn), hs]
  · rw [time_other g (by omega)]

/-- Both end at the same place. -/
theorem end_first (a : MSt) (h : a.sec = 0) : mEnd (mFirst a).1 = mEnd (mEntry a).1 := by
  have hs := head_sec a h
  unfold mFirst mEntry mAhead
  rcases hx : mHead a with ⟨c, _ | f⟩ <;> rw [hx] at hs <;> simp only
  have hc := hs.1 rfl
  simp only at hc
  rcases hy : mField c with ⟨e, f | _ | d⟩
  · have hf : mFields c = (e, some f) := by unfold mFields; refine iterR_done ?_; unfold fieldStep; rw [hy]
    rw [hf]
  · exact absurd hc ((field_sec c).2.1 _ hy).2
  · have hf : mFields c = mFields e := by unfold mFields; refine iterR_more ?_; unfold fieldStep; rw [hy]
    have he := (field_sec c).1 _ _ hy
    have h1 := mEnd_fields e he
    rw [hf]
    rw [h1]
    rcases hz : mFields e with ⟨g, _ | f⟩ <;> simp only
    have hg : g.sec = 3 ∨ g.sec = 5 := by
      rcases he with he | he
      · have := fields_sec2 e he (by rw [hz])
        rw [hz] at this; exact this
      · have hq : mFields e = (e, none) := by
          unfold mFields; refine iterR_done ?_; unfold fieldStep mField; rw [if_pos (by omega)]
        rw [hq] at hz
        simp at hz
        rw [← hz]; omega
    exact mEnd_time g hg

theorem next_first (a : MSt) (h : a.sec = 0) : mNx (mFirst a).1 = mNx (mEntry a).1 := by
  unfold mNx
  rw [end_first a h]

/-- No first field: the entry's fault is the first field's. -/
theorem first_none (a : MSt) (h : a.sec = 0) : (∀ f, (mFirst a).2 = .err f → (mEntry a).2 = .err f) ∧ (mFirst a).2 ≠ .none := by
  have hs := head_sec a h
  unfold mFirst mEntry mAhead
  rcases hx : mHead a with ⟨c, _ | f⟩ <;> rw [hx] at hs <;> simp only
  · have hc := hs.1 rfl
    simp only at hc
    rcases hy : mField c with ⟨e, f | _ | d⟩
    · have hf : mFields c = (e, some f) := by unfold mFields; refine iterR_done ?_; unfold fieldStep; rw [hy]
      rw [hf]
      exact ⟨fun f' e' => by simp at e'; subst e'; rfl, by simp⟩
    · exact absurd hc ((field_sec c).2.1 _ hy).2
    · exact ⟨fun f' e' => by simp at e', by simp⟩
  · exact ⟨fun f' e' => by simp at e'; subst e'; rfl, by simp⟩
end Go.Proofs.YtejlokdcocacaaaGreatDoor
