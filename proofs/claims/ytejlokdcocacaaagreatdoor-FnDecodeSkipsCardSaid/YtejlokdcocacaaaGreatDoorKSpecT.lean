/- The reference's Tag and Field: the plain steps. -/
import Derived.Test.YtejlokdcocacaaaGreatDoorKSpecP
import Derived.Test.YtejlokdcocacaaaGreatDoorKSpecM
import Derived.Test.YtejlokdcocacaaaGreatDoorKSect
import Derived.Test.YtejlokdcocacaaaGreatDoorKDcx
import Derived.Test.YtejlokdcocacaaaGreatDoorKStart
import Derived.Test.YtejlokdcocacaaaGreatDoorKReg
namespace Go.Proofs.YtejlokdcocacaaaGreatDoor
open Go.RowKit

def TagR.bad : TagR → Bool
  | .err _ => true
  | _ => false
def TagR.got : TagR → Bool
  | .some => true
  | _ => false
def FieldR.bad : FieldR → Bool
  | .err _ => true
  | _ => false
def FieldR.got : FieldR → Bool
  | .some _ => true
  | _ => false

/-- What Tag gives. -/
def TagP (R : Nat) (s : ByteArray) (w : World) (m : MSt) (b g : Bool) (fr : Nat) (e : Ending) (w' : World) : Prop :=
  ∃ (i : Nat) (k v : ByteArray) (x y : Int), e = .returned (.tuple #[.agg #[.string k, .string v], .bool g, .agg (F37 b x y)]) ∧ Sp s i m.sec m ∧ fr ≤ i ∧ IsRd w' R s i m.sec fr ∧ Rds R w w'

/-- What Field gives. -/
def FieldP (R : Nat) (s : ByteArray) (w : World) (m : MSt) (b g : Bool) (fr : Nat) (e : Ending) (w' : World) : Prop :=
  ∃ (i : Nat) (k v : ByteArray) (d x y : Int), e = .returned (.tuple #[.agg #[.string k, .int .i64 d, .string v], .bool g, .agg (F37 b x y)]) ∧ Sp s i m.sec m ∧ fr ≤ i ∧ IsRd w' R s i m.sec fr ∧ Rds R w w'

section
variable {m : MSt}
theorem mTag_off (h : m.sec ≠ 1) : mTag m = (m, .none) := by unfold mTag; rw [if_pos h]
theorem mTag_blank (h1 : m.sec = 1) (hb : m.has 1 = true ∧ blankP m.at0.toNat = true) : mTag m = ((m.skip blankP).to 2, .none) := by
  unfold mTag; rw [if_neg (by omega), if_pos hb]
theorem mTag_key (h1 : m.sec = 1) (hb : ¬ (m.has 1 = true ∧ blankP m.at0.toNat = true)) (hk : Lib.validD (tok tagKeyP tagE m.rest).2 = false ∨ (tok tagKeyP tagE m.rest).1 = 0 ∨ (m.tk tagKeyP tagE).has 1 = false ∨ (m.tk tagKeyP tagE).at0 ≠ 61) : ∃ f, mTag m = ((m.tk tagKeyP tagE).broke, .err f) := by
  unfold mTag; rw [if_neg (by omega), if_neg hb]; simp only; rw [if_pos hk]; exact ⟨_, rfl⟩
theorem mTag_val (h1 : m.sec = 1) (hb : ¬ (m.has 1 = true ∧ blankP m.at0.toNat = true)) (hk : ¬ (Lib.validD (tok tagKeyP tagE m.rest).2 = false ∨ (tok tagKeyP tagE m.rest).1 = 0 ∨ (m.tk tagKeyP tagE).has 1 = false ∨ (m.tk tagKeyP tagE).at0 ≠ 61))
    (hv : Lib.validD (tok tagValP tagE ((m.tk tagKeyP tagE).adv 1).rest).2 = false ∨ (tok tagValP tagE ((m.tk tagKeyP tagE).adv 1).rest).1 = 0) : ∃ f, mTag m = ((((m.tk tagKeyP tagE).adv 1).tk tagValP tagE).broke, .err f) := by
  unfold mTag; rw [if_neg (by omega), if_neg hb]; simp only; rw [if_neg hk, if_pos hv]; exact ⟨_, rfl⟩
theorem mTag_end (h1 : m.sec = 1) (hb : ¬ (m.has 1 = true ∧ blankP m.at0.toNat = true)) (hk : ¬ (Lib.validD (tok tagKeyP tagE m.rest).2 = false ∨ (tok tagKeyP tagE m.rest).1 = 0 ∨ (m.tk tagKeyP tagE).has 1 = false ∨ (m.tk tagKeyP tagE).at0 ≠ 61))
    (hv : ¬ (Lib.validD (tok tagValP tagE ((m.tk tagKeyP tagE).adv 1).rest).2 = false ∨ (tok tagValP tagE ((m.tk tagKeyP tagE).adv 1).rest).1 = 0)) (he : (((m.tk tagKeyP tagE).adv 1).tk tagValP tagE).has 1 = false) : mTag m = ((((m.tk tagKeyP tagE).adv 1).tk tagValP tagE).to 2, .some) := by
  unfold mTag; rw [if_neg (by omega), if_neg hb]; simp only; rw [if_neg hk, if_neg hv, if_pos he]
theorem mTag_more (h1 : m.sec = 1) (hb : ¬ (m.has 1 = true ∧ blankP m.at0.toNat = true)) (hk : ¬ (Lib.validD (tok tagKeyP tagE m.rest).2 = false ∨ (tok tagKeyP tagE m.rest).1 = 0 ∨ (m.tk tagKeyP tagE).has 1 = false ∨ (m.tk tagKeyP tagE).at0 ≠ 61))
    (hv : ¬ (Lib.validD (tok tagValP tagE ((m.tk tagKeyP tagE).adv 1).rest).2 = false ∨ (tok tagValP tagE ((m.tk tagKeyP tagE).adv 1).rest).1 = 0)) (he : (((m.tk tagKeyP tagE).adv 1).tk tagValP tagE).has 1 = true) :
    (mTag m).1 = (mComma (((m.tk tagKeyP tagE).adv 1).tk tagValP tagE)).1 ∧ (mTag m).2.bad = (mComma (((m.tk tagKeyP tagE).adv 1).tk tagValP tagE)).2.isSome ∧ (mTag m).2.got = !(mComma (((m.tk tagKeyP tagE).adv 1).tk tagValP tagE)).2.isSome := by
  unfold mTag; rw [if_neg (by omega), if_neg hb]; simp only; rw [if_neg hk, if_neg hv, if_neg (by rw [he]; simp)]
  rcases mComma (((m.tk tagKeyP tagE).adv 1).tk tagValP tagE) with ⟨c, _ | f⟩ <;> exact ⟨rfl, rfl, rfl⟩

theorem mField_off (h : m.sec ≠ 2) : mField m = (m, .none) := by unfold mField; rw [if_pos h]
theorem mField_key (h2 : m.sec = 2) (hk : Lib.validD (tok fieldKeyP tagE m.rest).2 = false ∨ (tok fieldKeyP tagE m.rest).1 = 0 ∨ (m.tk fieldKeyP tagE).has 1 = false ∨ (m.tk fieldKeyP tagE).at0 ≠ 61) : ∃ f, mField m = ((m.tk fieldKeyP tagE).broke, .err f) := by
  unfold mField; rw [if_neg (by omega)]; simp only
  by_cases h : Lib.validD (tok fieldKeyP tagE m.rest).2 = false ∨ (tok fieldKeyP tagE m.rest).1 = 0
  · rw [if_pos h]; exact ⟨_, rfl⟩
  · have h' : (m.tk fieldKeyP tagE).has 1 = false ∨ (m.tk fieldKeyP tagE).at0 ≠ 61 := by
      rcases hk with h1 | h1 | h1 | h1
      · exact absurd (.inl h1) h
      · exact absurd (.inr h1) h
      · exact .inl h1
      · exact .inr h1
    rw [if_neg h, if_pos h']; exact ⟨_, rfl⟩
theorem mField_none (h2 : m.sec = 2) (hk : ¬ (Lib.validD (tok fieldKeyP tagE m.rest).2 = false ∨ (tok fieldKeyP tagE m.rest).1 = 0 ∨ (m.tk fieldKeyP tagE).has 1 = false ∨ (m.tk fieldKeyP tagE).at0 ≠ 61))
    (hc : ((m.tk fieldKeyP tagE).adv 1).has 1 = false) : ∃ f, mField m = (((m.tk fieldKeyP tagE).adv 1).broke, .err f) := by
  unfold mField; rw [if_neg (by omega)]; simp only
  rw [if_neg (fun h => hk (by rcases h with h | h; exact .inl h; exact .inr (.inl h))), if_neg (fun h => hk (by rcases h with h | h; exact .inr (.inr (.inl h)); exact .inr (.inr (.inr h)))), if_pos hc]
  exact ⟨_, rfl⟩
/-- What a field is, from its value on. -/
theorem mField_on (h2 : m.sec = 2) (hk : ¬ (Lib.validD (tok fieldKeyP tagE m.rest).2 = false ∨ (tok fieldKeyP tagE m.rest).1 = 0 ∨ (m.tk fieldKeyP tagE).has 1 = false ∨ (m.tk fieldKeyP tagE).at0 ≠ 61))
    (hc : ((m.tk fieldKeyP tagE).adv 1).has 1 = true) :
    (∀ d f, mVal ((m.tk fieldKeyP tagE).adv 1) = (d, .inl f) → mField m = (d, .err f)) ∧
    (∀ d x, mVal ((m.tk fieldKeyP tagE).adv 1) = (d, .inr x) → (mField m).1 = (mBehind d).1 ∧ (mField m).2.bad = (mBehind d).2.isSome ∧ (mField m).2.got = !(mBehind d).2.isSome) := by
  unfold mField; rw [if_neg (by omega)]; simp only
  rw [if_neg (fun h => hk (by rcases h with h | h; exact .inl h; exact .inr (.inl h))), if_neg (fun h => hk (by rcases h with h | h; exact .inr (.inr (.inl h)); exact .inr (.inr (.inr h)))), if_neg (by rw [hc]; simp)]
  refine ⟨fun d f h => by rw [h], fun d x h => ?_⟩
  rw [h]
  simp only
  rcases mBehind d with ⟨e, _ | f⟩ <;> exact ⟨rfl, rfl, rfl⟩

theorem mVal_str (h : m.at0 = 34) :
    ((Lib.validD (tok strValP strE (m.adv 1).rest).2 = false ∨ ((m.adv 1).tk strValP strE).has 1 = false) → ∃ f, mVal m = (((m.adv 1).tk strValP strE).broke, .inl f)) ∧
    (¬ (Lib.validD (tok strValP strE (m.adv 1).rest).2 = false ∨ ((m.adv 1).tk strValP strE).has 1 = false) → ∃ x, mVal m = (((m.adv 1).tk strValP strE).adv 1, .inr x)) := by
  unfold mVal
  rw [if_pos h]
  simp only
  refine ⟨fun hh => ?_, fun hh => ?_⟩
  · by_cases h1 : Lib.validD (tok strValP strE (m.adv 1).rest).2 = false
    · rw [if_pos h1]; exact ⟨_, rfl⟩
    · rw [if_neg h1, if_pos (by rcases hh with h | h; exact absurd h h1; exact h)]; exact ⟨_, rfl⟩
  · rw [if_neg (fun h => hh (.inl h)), if_neg (fun h => hh (.inr h))]; exact ⟨_, rfl⟩
theorem mVal_bool (h : m.at0 = 116 ∨ m.at0 = 84 ∨ m.at0 = 102 ∨ m.at0 = 70) : ∃ x, mVal m = (m.skip fieldValP, .inr x) := by
  unfold mVal
  rw [if_neg (by rcases h with h | h | h | h <;> rw [h] <;> decide), if_pos h]; exact ⟨_, rfl⟩
theorem mVal_num (h : m.at0 = 45 ∨ m.at0 = 46 ∨ (48 ≤ m.at0.toNat ∧ m.at0.toNat ≤ 57)) : ∃ x, mVal m = (m.skip fieldValP, .inr x) := by
  have hz : ¬ m.at0 = 34 ∧ ¬ (m.at0 = 116 ∨ m.at0 = 84 ∨ m.at0 = 102 ∨ m.at0 = 70) := by
    rcases h with h | h | h
    · rw [h]; decide
    · rw [h]; decide
    · constructor
      · intro h2; rw [h2] at h; revert h; decide
      · rintro (h2 | h2 | h2 | h2) <;> (rw [h2] at h; revert h; decide)
  unfold mVal
  rw [if_neg hz.1, if_neg hz.2, if_pos h]; exact ⟨_, rfl⟩
theorem mVal_none (h0 : ¬ m.at0 = 34) (h1 : ¬ (m.at0 = 116 ∨ m.at0 = 84 ∨ m.at0 = 102 ∨ m.at0 = 70)) (h2 : ¬ (m.at0 = 45 ∨ m.at0 = 46 ∨ (48 ≤ m.at0.toNat ∧ m.at0.toNat ≤ 57))) : ∃ f, mVal m = (m.broke, .inl f) := by
  unfold mVal
  rw [if_neg h0, if_neg h1, if_neg h2]; exact ⟨_, rfl⟩

theorem mBehind_done (h : m.has 1 = false) : mBehind m = (m.to 5, none) := by unfold mBehind; rw [if_pos h]
theorem mBehind_comma (h : m.has 1 = true) (hc : m.at0 = 44) : mBehind m = (m.adv 1, none) := by unfold mBehind; rw [if_neg (by rw [h]; simp), if_pos hc]
theorem mBehind_bad (h : m.has 1 = true) (hc : ¬ m.at0 = 44) (hw : whiteP m.at0.toNat = false) : ∃ f, mBehind m = (m.broke, some f) := by
  unfold mBehind; rw [if_neg (by rw [h]; simp), if_neg hc, if_pos hw]; exact ⟨_, rfl⟩
theorem mBehind_on (h : m.has 1 = true) (hc : ¬ m.at0 = 44) (hw : whiteP m.at0.toNat = true) : mBehind m = ((m.skip blankP).eol.2.to (if (m.skip blankP).eol.1 = true then 5 else 3), none) := by
  unfold mBehind; rw [if_neg (by rw [h]; simp), if_neg hc, if_neg (by rw [hw]; simp)]
  split <;> rfl
end

section
variable {s : ByteArray} {i p : Nat} {m : MSt}
/-- Behind the blanks: the line's end, or not. -/
theorem Sp.eolTo (h : Sp s i p m) {le : Nat × Bool} (hl : lineEnd (restOf s i) = le) : Sp s (i + le.1) (if le.2 = true then 5 else 3) (m.eol.2.to (if m.eol.1 = true then 5 else 3)) := by
  have he := h.eol
  rw [hl] at he
  obtain ⟨ln, lb⟩ := le
  simp only at he ⊢
  cases lb
  · have h0 : ln = 0 := by
      have h1 : (lineEnd (restOf s i)).2 = false := by rw [hl]
      have h2 : (lineEnd (restOf s i)).1 = 0 := by
        clear hl he
        revert h1
        unfold lineEnd
        repeat' split
        all_goals simp
      rw [hl] at h2; exact h2
    rw [h0, he.1, he.2.2 he.1]
    exact h.to 3
  · rw [he.1]
    exact (he.2.1 he.1).to 5
end

/-- The field goes on behind its value. -/
def OnF (m d : MSt) : Prop := (mField m).1 = (mBehind d).1 ∧ (mField m).2.bad = (mBehind d).2.isSome ∧ (mField m).2.got = !(mBehind d).2.isSome

section
variable {s : ByteArray} {i : Nat} {m : MSt} {u v : Nat × List UInt8}

theorem tag_blank (hm : Sp s i 1 m) (hb : nextIs blankP s i = true) : mTag m = ((m.skip blankP).to 2, .none) ∧ Sp s (i + runN blankP s i) 2 ((m.skip blankP).to 2) := by
  rw [hm.next] at hb
  simp only [Bool.and_eq_true] at hb
  exact ⟨mTag_blank hm.2.2 hb, (hm.skip blankP).to 2⟩

theorem key_good {f : Nat → Bool} {g : Nat → Int} {p : Nat} (hm : Sp s i p m) (hu : tok f g (restOf s i) = u) (h1 : Lib.validD u.2 = true) (h2 : u.2 ≠ []) (h3 : i + u.1 < s.size) (h4 : s[i + u.1] = 61) :
    ¬ (Lib.validD (tok f g m.rest).2 = false ∨ (tok f g m.rest).1 = 0 ∨ (m.tk f g).has 1 = false ∨ (m.tk f g).at0 ≠ 61) ∧ Sp s (i + u.1 + 1) p ((m.tk f g).adv 1) := by
  have ht := hm.tk f g
  rw [hu] at ht
  refine ⟨?_, ht.adv 1 (by omega)⟩
  rw [hm.rest, hu]
  rintro (h | h | h | h)
  · rw [h1] at h; simp at h
  · exact h2 (by rw [← hu]; exact (tok_nil f g (restOf s i)).2 (by rw [hu]; exact h))
  · rw [ht.has1] at h; simp at h; omega
  · rw [ht.at0 h3] at h; exact h h4

theorem key_bad {f : Nat → Bool} {g : Nat → Int} {p : Nat} (hm : Sp s i p m) (hu : tok f g (restOf s i) = u) (h : Lib.validD u.2 = false ∨ u.2 = [] ∨ s.size ≤ i + u.1 ∨ (∃ h : i + u.1 < s.size, s[i + u.1] ≠ 61)) :
    (Lib.validD (tok f g m.rest).2 = false ∨ (tok f g m.rest).1 = 0 ∨ (m.tk f g).has 1 = false ∨ (m.tk f g).at0 ≠ 61) ∧ Sp s (i + u.1) (brk p) (m.tk f g).broke := by
  have ht := hm.tk f g
  rw [hu] at ht
  refine ⟨?_, ht.broke⟩
  rw [hm.rest, hu]
  rcases h with h | h | h | ⟨hl, h⟩
  · exact .inl h
  · refine .inr (.inl ?_)
    rw [← hu]; exact (tok_nil f g (restOf s i)).1 (by rw [hu]; exact h)
  · refine .inr (.inr (.inl ?_)); rw [ht.has1]; simp; omega
  · refine .inr (.inr (.inr ?_)); rw [ht.at0 hl]; exact h

theorem not_blank {p : Nat} (hm : Sp s i p m) (hb : nextIs blankP s i = false) : ¬ (m.has 1 = true ∧ blankP m.at0.toNat = true) := by
  rw [hm.next] at hb
  rintro ⟨h1, h2⟩
  rw [h1, h2] at hb; simp at hb

theorem tag_key_bad (hm : Sp s i 1 m) (hb : nextIs blankP s i = false) (hu : tok tagKeyP tagE (restOf s i) = u) (h : Lib.validD u.2 = false ∨ u.2 = [] ∨ s.size ≤ i + u.1 ∨ (∃ h : i + u.1 < s.size, s[i + u.1] ≠ 61)) :
    ∃ f X, mTag m = (X, .err f) ∧ Sp s (i + u.1) 4 X := by
  obtain ⟨h1, h2⟩ := key_bad hm hu h
  obtain ⟨f, hf⟩ := mTag_key hm.2.2 (not_blank hm hb) h1
  exact ⟨f, _, hf, h2⟩

theorem tag_val_bad (hm : Sp s i 1 m) (hb : nextIs blankP s i = false) (hu : tok tagKeyP tagE (restOf s i) = u) (h1 : Lib.validD u.2 = true) (h2 : u.2 ≠ []) (h3 : i + u.1 < s.size) (h4 : s[i + u.1] = 61)
    (hv : tok tagValP tagE (restOf s (i + u.1 + 1)) = v) (h : Lib.validD v.2 = false ∨ v.2 = []) : ∃ f X, mTag m = (X, .err f) ∧ Sp s (i + u.1 + 1 + v.1) 4 X := by
  obtain ⟨hg, hsp⟩ := key_good hm hu h1 h2 h3 h4
  have ht := hsp.tk tagValP tagE
  rw [hv] at ht
  obtain ⟨f, hf⟩ := mTag_val hm.2.2 (not_blank hm hb) hg (by
    rw [hsp.rest, hv]
    rcases h with h | h
    · exact .inl h
    · refine .inr ?_
      rw [← hv]; exact (tok_nil tagValP tagE _).1 (by rw [hv]; exact h))
  exact ⟨f, _, hf, ht.broke⟩

theorem tag_ok (hm : Sp s i 1 m) (hb : nextIs blankP s i = false) (hu : tok tagKeyP tagE (restOf s i) = u) (h1 : Lib.validD u.2 = true) (h2 : u.2 ≠ []) (h3 : i + u.1 < s.size) (h4 : s[i + u.1] = 61)
    (hv : tok tagValP tagE (restOf s (i + u.1 + 1)) = v) (h5 : Lib.validD v.2 = true) (h6 : v.2 ≠ []) : ∃ d, Sp s (i + u.1 + 1 + v.1) 1 d ∧ (s.size ≤ i + u.1 + 1 + v.1 → mTag m = (d.to 2, .some)) ∧
      (i + u.1 + 1 + v.1 < s.size → (mTag m).1 = (mComma d).1 ∧ (mTag m).2.bad = (mComma d).2.isSome ∧ (mTag m).2.got = !(mComma d).2.isSome) := by
  obtain ⟨hg, hsp⟩ := key_good hm hu h1 h2 h3 h4
  have ht := hsp.tk tagValP tagE
  rw [hv] at ht
  have hgv : ¬ (Lib.validD (tok tagValP tagE ((m.tk tagKeyP tagE).adv 1).rest).2 = false ∨ (tok tagValP tagE ((m.tk tagKeyP tagE).adv 1).rest).1 = 0) := by
    rw [hsp.rest, hv]
    rintro (h | h)
    · rw [h5] at h; simp at h
    · exact h6 (by rw [← hv]; exact (tok_nil tagValP tagE _).2 (by rw [hv]; exact h))
  refine ⟨_, ht, fun h => mTag_end hm.2.2 (not_blank hm hb) hg hgv (by rw [ht.has1]; simp; omega), fun h => mTag_more hm.2.2 (not_blank hm hb) hg hgv (by rw [ht.has1]; simp; omega)⟩

theorem field_key_bad (hm : Sp s i 2 m) (hu : tok fieldKeyP tagE (restOf s i) = u) (h : Lib.validD u.2 = false ∨ u.2 = [] ∨ s.size ≤ i + u.1 ∨ (∃ h : i + u.1 < s.size, s[i + u.1] ≠ 61)) :
    ∃ f X, mField m = (X, .err f) ∧ Sp s (i + u.1) 4 X := by
  obtain ⟨h1, h2⟩ := key_bad hm hu h
  obtain ⟨f, hf⟩ := mField_key hm.2.2 h1
  exact ⟨f, _, hf, h2⟩

theorem field_none (hm : Sp s i 2 m) (hu : tok fieldKeyP tagE (restOf s i) = u) (h1 : Lib.validD u.2 = true) (h2 : u.2 ≠ []) (h3 : i + u.1 < s.size) (h4 : s[i + u.1] = 61) (h5 : s.size ≤ i + u.1 + 1) :
    ∃ f X, mField m = (X, .err f) ∧ Sp s (i + u.1 + 1) 4 X := by
  obtain ⟨hg, hsp⟩ := key_good hm hu h1 h2 h3 h4
  obtain ⟨f, hf⟩ := mField_none hm.2.2 hg (by rw [hsp.has1]; simp; omega)
  exact ⟨f, _, hf, hsp.broke⟩

theorem field_on (hm : Sp s i 2 m) (hu : tok fieldKeyP tagE (restOf s i) = u) (h1 : Lib.validD u.2 = true) (h2 : u.2 ≠ []) (h3 : i + u.1 < s.size) (h4 : s[i + u.1] = 61) {i2 : Nat} (h5 : i + u.1 + 1 = i2) (h6 : i2 < s.size) :
    ∃ c, Sp s i2 2 c ∧ c.at0 = s[i2] ∧ (∀ d f, mVal c = (d, .inl f) → mField m = (d, .err f)) ∧ (∀ d x, mVal c = (d, .inr x) → OnF m d) := by
  obtain ⟨hg, hsp⟩ := key_good hm hu h1 h2 h3 h4
  rw [h5] at hsp
  have ho := mField_on hm.2.2 hg (by rw [hsp.has1]; simp; omega)
  exact ⟨_, hsp, hsp.at0 h6, ho.1, ho.2⟩

theorem field_str {c : MSt} {i2 : Nat} (hc : Sp s i2 2 c) (h6 : i2 < s.size) (ha : c.at0 = s[i2]) (h34 : s[i2] = 34) (hv : tok strValP strE (restOf s (i2 + 1)) = v) :
    ((Lib.validD v.2 = false ∨ s.size ≤ i2 + 1 + v.1) → ∃ f X, mVal c = (X, .inl f) ∧ Sp s (i2 + 1 + v.1) 4 X) ∧ (Lib.validD v.2 = true → i2 + 1 + v.1 < s.size → ∃ x X, mVal c = (X, .inr x) ∧ Sp s (i2 + 1 + v.1 + 1) 2 X) := by
  have h := mVal_str (ha.trans h34)
  have hd := hc.adv 1 (by omega)
  have he := hd.tk strValP strE
  rw [hv] at he
  rw [hd.rest, hv, he.has1] at h
  refine ⟨fun hh => ?_, fun hh hl => ?_⟩
  · obtain ⟨f, hf⟩ := h.1 (by rcases hh with h | h; exact .inl h; exact .inr (by simp; omega))
    exact ⟨f, _, hf, he.broke⟩
  · obtain ⟨x, hx⟩ := h.2 (by rintro (h | h); rw [hh] at h; simp at h; simp at h; omega)
    exact ⟨x, _, hx, he.adv 1 (by omega)⟩

theorem field_run {c : MSt} {i2 : Nat} (hc : Sp s i2 2 c) (h6 : i2 < s.size) (ha : c.at0 = s[i2]) (h : (s[i2] = 116 ∨ s[i2] = 84 ∨ s[i2] = 102 ∨ s[i2] = 70) ∨ (s[i2] = 45 ∨ s[i2] = 46 ∨ (48 ≤ s[i2].toNat ∧ s[i2].toNat ≤ 57))) :
    ∃ x X, mVal c = (X, .inr x) ∧ Sp s (i2 + runN fieldValP s i2) 2 X := by
  rw [← ha] at h
  rcases h with h | h
  · obtain ⟨x, hx⟩ := mVal_bool h
    exact ⟨x, _, hx, hc.skip _⟩
  · obtain ⟨x, hx⟩ := mVal_num h
    exact ⟨x, _, hx, hc.skip _⟩

theorem field_other {c : MSt} {i2 : Nat} (hc : Sp s i2 2 c) (h6 : i2 < s.size) (ha : c.at0 = s[i2]) (h34 : ¬ s[i2] = 34) (h : ¬ (s[i2] = 116 ∨ s[i2] = 84 ∨ s[i2] = 102 ∨ s[i2] = 70)) (hn : ¬ (s[i2] = 45 ∨ s[i2] = 46 ∨ (48 ≤ s[i2].toNat ∧ s[i2].toNat ≤ 57))) :
    ∃ f X, mVal c = (X, .inl f) ∧ Sp s i2 4 X := by
  rw [← ha] at h h34 hn
  obtain ⟨f, hf⟩ := mVal_none h34 h hn
  exact ⟨f, _, hf, hc.broke⟩

/-- Behind a value, by places. -/
theorem on_done {d : MSt} {j : Nat} (hd : Sp s j 2 d) (hj : s.size ≤ j) : ∃ X, mBehind d = (X, none) ∧ Sp s j 5 X := ⟨_, mBehind_done (by rw [hd.has1]; simp; omega), hd.to 5⟩
theorem on_comma {d : MSt} {j : Nat} (hd : Sp s j 2 d) (hj : j < s.size) (h : s[j] = 44) : ∃ X, mBehind d = (X, none) ∧ Sp s (j + 1) 2 X := ⟨_, mBehind_comma (by rw [hd.has1]; simp; omega) ((hd.at0 hj).trans h), hd.adv 1 (by omega)⟩
theorem on_bad {d : MSt} {j : Nat} (hd : Sp s j 2 d) (hj : j < s.size) (h : ¬ s[j] = 44) (hw : nextIs whiteP s j = false) : ∃ f X, mBehind d = (X, some f) ∧ Sp s j 4 X := by
  have h1 : d.has 1 = true := by rw [hd.has1]; simp; omega
  rw [hd.next, h1, Bool.true_and] at hw
  obtain ⟨f, hf⟩ := mBehind_bad h1 (by rw [hd.at0 hj]; exact h) hw
  exact ⟨f, _, hf, hd.broke⟩
theorem on_end {d : MSt} {j j2 : Nat} {le : Nat × Bool} (hd : Sp s j 2 d) (hj : j < s.size) (h : ¬ s[j] = 44) (hw : nextIs whiteP s j = true) (hj2 : j + runN blankP s j = j2) (hle : lineEnd (restOf s j2) = le) : ∃ X, mBehind d = (X, none) ∧ Sp s (j2 + le.1) (if le.2 = true then 5 else 3) X := by
  have h1 : d.has 1 = true := by rw [hd.has1]; simp; omega
  rw [hd.next, h1, Bool.true_and] at hw
  have hs := hd.skip blankP
  rw [hj2] at hs
  exact ⟨_, mBehind_on h1 (by rw [hd.at0 hj]; exact h) hw, hs.eolTo hle⟩
theorem OnF.ok {m d X : MSt} (h : OnF m d) (hb : mBehind d = (X, none)) : (mField m).1 = X ∧ (mField m).2.bad = false ∧ (mField m).2.got = true := by unfold OnF at h; rw [hb] at h; exact h
theorem OnF.err {m d X : MSt} {f : Flt} (h : OnF m d) (hb : mBehind d = (X, some f)) : (mField m).1 = X ∧ (mField m).2.bad = true ∧ (mField m).2.got = false := by unfold OnF at h; rw [hb] at h; exact h
end
end Go.Proofs.YtejlokdcocacaaaGreatDoor

/- Entry after entry: where an entry ends, and that each takes something. No program here. -/
namespace Go.Proofs.YtejlokdcocacaaaGreatDoor
open Go.RowKit

/-- The entry's beginning is not behind the place. -/
def MSt.Or (m : MSt) : Prop := m.r0 ≤ m.r1

section
variable {m : MSt}
theorem or_adv (h : m.Or) (n : Nat) : (m.adv n).Or := Nat.le_trans h (Nat.le_add_right _ _)
theorem or_skip (h : m.Or) (f : Nat → Bool) : (m.skip f).Or := or_adv h _
theorem or_tk (h : m.Or) (f : Nat → Bool) (g : Nat → Int) : (m.tk f g).Or := Nat.le_trans h (Nat.le_add_right _ _)
theorem or_to (h : m.Or) (n : Nat) : (m.to n).Or := h
theorem or_broke (h : m.Or) : m.broke.Or := h
theorem or_eol (h : m.Or) : m.eol.2.Or := eol_r0 h
theorem or_reset (m : MSt) : m.reset.Or := by
  unfold MSt.reset
  split
  · exact Nat.le_refl 0
  · exact Nat.le_refl _
theorem or_comma (h : m.Or) : (mComma m).1.Or := by
  unfold mComma
  split
  · split
    · exact or_broke (or_adv h 1)
    · exact or_adv h 1
  · exact h
theorem or_meas (m : MSt) : (mMeas m).1.Or := by
  unfold mMeas
  simp only
  have h := or_tk (or_reset m) measP measE
  split
  · exact or_broke h
  · have hc := or_comma h
    rcases hm : mComma (m.reset.tk measP measE) with ⟨c, _ | f⟩ <;> rw [hm] at hc <;> exact hc
theorem or_tag (h : m.Or) : (mTag m).1.Or := by
  unfold mTag
  split
  · exact h
  split
  · exact or_to (or_skip h _) _
  simp only
  have h1 := or_tk h tagKeyP tagE
  split
  · exact or_broke h1
  have h2 := or_tk (or_adv h1 1) tagValP tagE
  split
  · exact or_broke h2
  split
  · exact or_to h2 _
  have hc := or_comma h2
  rcases hm : mComma (((m.tk tagKeyP tagE).adv 1).tk tagValP tagE) with ⟨c, _ | f⟩ <;> rw [hm] at hc <;> exact hc
theorem or_val (h : m.Or) : (mVal m).1.Or := by
  unfold mVal
  split
  · simp only
    have h1 := or_tk (or_adv h 1) strValP strE
    split
    · exact or_broke h1
    split
    · exact or_broke h1
    · exact or_adv h1 1
  split
  · exact or_skip h _
  split
  · exact or_skip h _
  · exact or_broke h
theorem or_behind (h : m.Or) : (mBehind m).1.Or := by
  unfold mBehind
  split
  · exact or_to h _
  split
  · exact or_adv h 1
  split
  · exact or_broke h
  split
  · exact or_to (or_eol (or_skip h _)) _
  · exact or_to (or_eol (or_skip h _)) _
theorem or_field (h : m.Or) : (mField m).1.Or := by
  unfold mField
  split
  · exact h
  simp only
  have h1 := or_tk h fieldKeyP tagE
  split
  · exact or_broke h1
  split
  · exact or_broke h1
  split
  · exact or_broke (or_adv h1 1)
  have hv := or_val (or_adv h1 1)
  rcases hm : mVal ((m.tk fieldKeyP tagE).adv 1) with ⟨c, f | x⟩ <;> rw [hm] at hv <;> simp only
  · exact hv
  · have hb := or_behind (m := c) hv
    rcases hm2 : mBehind c with ⟨e, _ | f⟩ <;> rw [hm2] at hb <;> exact hb
theorem or_time (h : m.Or) : (mTime m).1.Or := by
  unfold mTime
  split
  · exact h
  simp only
  have h1 : (if m.ran timeCP = [] then (m.skip timeCP).to 5 else m.skip timeCP).Or := by
    split
    · exact or_skip h _
    · exact or_skip h _
  generalize (if m.ran timeCP = [] then (m.skip timeCP).to 5 else m.skip timeCP) = b at h1 ⊢
  split
  · exact or_to h1 _
  split
  · exact or_broke (or_skip h1 _)
  split
  · exact or_to (or_skip h1 _) _
  split
  · exact or_to (or_eol (or_skip h1 _)) _
  · exact or_broke (or_skip (or_skip h1 _) _)
theorem or_tags (h : m.Or) : (mTags m).1.Or := by
  unfold mTags
  refine iterR_keep (fun s : MSt => s.Or) (fun (b : MSt × Option Flt) => b.1.Or) (show MSt.Or m0 from Nat.le_refl 0) (fun s s' hs he => ?_) (fun s b hs he => ?_) m h
  · have := or_tag hs
    unfold tagStep at he
    rcases hk : mTag s with ⟨c, f | _ | _⟩ <;> rw [hk] at he this <;> simp at he
    subst he; exact this
  · have := or_tag hs
    unfold tagStep at he
    rcases hk : mTag s with ⟨c, f | _ | _⟩ <;> rw [hk] at he this <;> simp at he <;> subst he <;> exact this
theorem or_fields (h : m.Or) : (mFields m).1.Or := by
  unfold mFields
  refine iterR_keep (fun s : MSt => s.Or) (fun (b : MSt × Option Flt) => b.1.Or) (show MSt.Or m0 from Nat.le_refl 0) (fun s s' hs he => ?_) (fun s b hs he => ?_) m h
  · have := or_field hs
    unfold fieldStep at he
    rcases hk : mField s with ⟨c, f | _ | d⟩ <;> rw [hk] at he this <;> simp at he
    subst he; exact this
  · have := or_field hs
    unfold fieldStep at he
    rcases hk : mField s with ⟨c, f | _ | d⟩ <;> rw [hk] at he this <;> simp at he <;> subst he <;> exact this
theorem or_entry (m : MSt) : (mEntry m).1.Or := by
  unfold mEntry mAhead mHead
  have h0 := or_meas m
  rcases hx : mMeas m with ⟨b, _ | f⟩ <;> rw [hx] at h0 <;> simp only at h0 ⊢
  · have h1 := or_tags h0
    rcases hy : mTags b with ⟨c, _ | f⟩ <;> rw [hy] at h1 <;> simp only at h1 ⊢
    · have h2 := or_fields h1
      rcases hz : mFields c with ⟨d, _ | f⟩ <;> rw [hz] at h2 <;> simp only at h2 ⊢
      · exact or_time h2
      · exact h2
    · exact h1
  · exact h0
end

/-- Where an entry leaves the decoder. -/
theorem entry_sec (m : MSt) (h : m.sec = 0) : (mEntry m).1.sec = 4 ∨ (mEntry m).1.sec = 5 := by
  have hh := head_sec m h
  unfold mEntry mAhead
  rcases hx : mHead m with ⟨c, _ | f⟩ <;> rw [hx] at hh <;> simp only at hh ⊢
  · have hc := hh.1 trivial
    have h2 := fields_sec2 c hc
    have h3 := (fields_sec c (.inl hc)).2
    rcases hz : mFields c with ⟨d, _ | f⟩ <;> rw [hz] at h2 h3 <;> simp only at h2 h3 ⊢
    · rcases h2 trivial with h4 | h4
      · exact time_sec d h4
      · rw [time_other d (by omega)]; exact .inr h4
    · have := h3 (by simp); omega
  · have := hh.2 (by simp); omega

theorem adv_entry1 (a : MSt) : Adv (mMeas a).1 (mEntry a).1 := by
  unfold mEntry mAhead mHead
  rcases hx : mMeas a with ⟨b, _ | f⟩ <;> simp only
  · have h1 := adv_tags b
    rcases hy : mTags b with ⟨c, _ | f⟩ <;> rw [hy] at h1 <;> simp only at h1 ⊢
    · have h2 := adv_fields c
      rcases hz : mFields c with ⟨d, _ | f⟩ <;> rw [hz] at h2 <;> simp only at h2 ⊢
      · exact (h1.trans h2).trans (adv_time d)
      · exact h1.trans h2
    · exact h1
  · exact Adv.refl _

theorem line_less {b : MSt} (h : b.has 1 = true) : (mLine b).left < b.left := by
  have hr := has_left h
  unfold mLine
  simp only
  have key : ∀ c : MSt, ((c.reset).to 5).left ≤ c.left := fun c => (adv_reset c).left
  by_cases h10 : b.at0 = 10
  · have hs : b.skip notNlP = b := by
      unfold MSt.skip
      have hz : b.run notNlP = 0 := by
        unfold MSt.run
        rcases hx : b.rest with _ | ⟨c, R⟩
        · rfl
        · have := at0_cons hx
          rw [h10] at this
          rw [List.takeWhile_cons, if_neg (by rw [← this]; decide)]; rfl
      rw [hz]; rfl
    rw [hs, if_pos h10]
    exact Nat.lt_of_le_of_lt (key _) (adv_line_nl b h10).2
  · have h1 := run_some (f := notNlP) h (by
      unfold notNlP
      simp only [ne_eq, Bool.not_eq_true', beq_eq_false_iff_ne]
      intro h2
      exact h10 (UInt8.toNat.inj (by rw [h2]; rfl)))
    have h2 : (b.skip notNlP).left < b.left := by
      show b.t.length - (b.r1 + b.run notNlP) < b.t.length - b.r1
      omega
    split
    · exact Nat.lt_of_le_of_lt (key _) (Nat.lt_of_le_of_lt (by show (b.skip notNlP).t.length - ((b.skip notNlP).r1 + 1) ≤ (b.skip notNlP).t.length - (b.skip notNlP).r1; omega) h2)
    · exact Nat.lt_of_le_of_lt (key _) h2

/-- Each entry takes something. -/
theorem nx_less (a : MSt) (h0 : a.sec = 0) (h1 : a.has 1 = true) : (mNx (mEntry a).1).left < a.left := by
  have hr := has_left h1
  have hrl : a.reset.left = a.left := by
    unfold MSt.reset
    rw [if_neg (by omega)]; rfl
  by_cases hu : (tok measP measE a.reset.rest).1 = 0
  · have hb : mMeas a = ((a.reset.tk measP measE).broke, some ((a.reset.tk measP measE).flt a.reset.off)) := by
      unfold mMeas
      simp only
      rw [if_pos (.inr (.inl hu))]
    have he : (mEntry a).1 = (a.reset.tk measP measE).broke := by
      unfold mEntry mAhead mHead
      rw [hb]
    have hl : (a.reset.tk measP measE).broke.left = a.left := by
      rw [← hrl]
      show a.reset.t.length - (a.reset.r1 + (tok measP measE a.reset.rest).1) = _
      rw [hu]; rfl
    have hs : (a.reset.tk measP measE).broke.sec = 4 := by
      have := (meas_sec a h0).2 (by rw [hb]; simp)
      rw [hb] at this; exact this
    have hh : (a.reset.tk measP measE).broke.has 1 = true := by
      have hlt : 0 < (a.reset.tk measP measE).broke.left := by rw [hl]; unfold MSt.left; omega
      unfold MSt.left at hlt
      unfold MSt.has
      exact decide_eq_true (by omega)
    rw [he]
    unfold mNx
    rw [mEnd_4 hs]
    exact Nat.lt_of_le_of_lt ((adv_mSkip _).left) (hl ▸ line_less hh)
  · have hle := tok_le_left a.reset measP measE
    have h2 : (mMeas a).1.left ≤ (a.reset.tk measP measE).left := by
      unfold mMeas
      simp only
      split
      · exact Nat.le_refl _
      · have hc := (adv_comma (a.reset.tk measP measE)).left
        rcases hm : mComma (a.reset.tk measP measE) with ⟨c, _ | f⟩ <;> rw [hm] at hc <;> exact hc
    have h3 : (a.reset.tk measP measE).left < a.left := by
      rw [← hrl]
      show a.reset.t.length - (a.reset.r1 + (tok measP measE a.reset.rest).1) < a.reset.t.length - a.reset.r1
      unfold MSt.left at hle
      omega
    exact Nat.lt_of_le_of_lt (Nat.le_trans (Nat.le_trans (adv_mNx _).left (adv_entry1 a).left) h2) h3

/-- The decoder behind so many entries. -/
noncomputable def msAt (t : List UInt8) : Nat → MSt
  | 0 => mStart t
  | i + 1 => (mEntry (mNx (msAt t i))).1
end Go.Proofs.YtejlokdcocacaaaGreatDoor

/- The reference's Tag: its frame, its regions. -/
namespace Go.Proofs.YtejlokdcocacaaaGreatDoor
open Go.RowKit Go.Proofs.YtejlokdcocacaaaGreatDoorW.PrintLast

theorem info107s : (Tryz.prog.info? 107).map (·.size) = some 2 := by kernel_rfl
theorem info50s : (Tryz.prog.info? 50).map (·.size) = some 3 := by kernel_rfl

section
variable {w0 w : World} {R : Nat} {s : ByteArray} {i p fr V : Nat} {b : Bool}
theorem Sv.other (h : Sv w0 R s i p fr V b w) {g : Nat} (hr : g ≠ R) (hv : g ≠ V) (h0 : w0.heap.size ≤ g) (o : Nat) (u : Value) : Sv w0 R s i p fr V b (w.setCell ⟨g, o, none⟩ u) := by
  obtain ⟨x, y, hx⟩ := h.row
  exact ⟨h.rd.setNew (by show R ≠ g; omega) u, h.fm.setNew h0 u, ⟨x, y, (heap_setCell_other _ _ _ _ (by show V ≠ g; omega)).trans hx⟩, h.vr, h.v0⟩
theorem Sv.otherRow (h : Sv w0 R s i p fr V b w) {g : Nat} (hr : g ≠ R) (hv : g ≠ V) (h0 : w0.heap.size ≤ g) (cs : Array Value) : Sv w0 R s i p fr V b (w.setRow g cs) := by
  obtain ⟨x, y, hx⟩ := h.row
  exact ⟨h.rd.setRow (by omega) cs, h.fm.setRow h0 cs, ⟨x, y, (setRow_other _ _ _ _ (by omega)).trans hx⟩, h.vr, h.v0⟩
end

/-- A method of the reference's with a second result in memory: block G. -/
structure Sg (w0 : World) (R : Nat) (s : ByteArray) (i p fr V : Nat) (b : Bool) (G t : Nat) (cs : Array Value) (w : World) : Prop where
  sv : Sv w0 R s i p fr V b w
  row : w.heap[G]? = some (.cells cs t (0, 0))
  gr : G ≠ R
  gv : G ≠ V
  g0 : w0.heap.size ≤ G

section
variable {w0 w : World} {R : Nat} {s : ByteArray} {i p fr V : Nat} {b : Bool} {G t : Nat} {cs : Array Value}
theorem Sg.begin (h : IsRd w R s i p fr) (t : Nat) (cs : Array Value) : Sg w R s i p fr (w.heap.size + 1) false w.heap.size t cs ((w.alloc (.cells cs t)).alloc z37) := by
  have hR := lt_of_block h
  refine ⟨⟨(h.alloc _).alloc _, ((Rds.refl R w).alloc _).alloc _, ⟨0, 0, heap_alloc2_new _ _ _⟩, by omega, by omega⟩, ?_, by omega, by omega, Nat.le_refl _⟩
  exact (Below.heap_alloc (w.alloc (.cells cs t)) z37 _ (by simp)).trans (heap_alloc_new _ _)
theorem Sg.call (h : Sg w0 R s i p fr V b G t cs w) {i' p' fr' : Nat} {w' : World} (hr : IsRd w' R s i' p' fr') (hf : Rds R w w') : Sg w0 R s i' p' fr' V b G t cs w' :=
  ⟨h.sv.call hr hf, (hf.block G (lt_of_block h.row) h.gr).trans h.row, h.gr, h.gv, h.g0⟩
theorem Sg.drewN (h : Sg w0 R s i p fr V b G t cs w) (n : Nat) : Sg w0 R s i p fr V b G t cs (w.drewN n) := ⟨h.sv.drewN n, h.row, h.gr, h.gv, h.g0⟩
theorem Sg.drew (h : Sg w0 R s i p fr V b G t cs w) : Sg w0 R s i p fr V b G t cs w.drew := ⟨h.sv.drew, h.row, h.gr, h.gv, h.g0⟩
theorem Sg.store (h : Sg w0 R s i p fr V b G t cs w) (b' : Bool) (x y : Int) : Sg w0 R s i p fr V b' G t cs (w.setRow V (F37 b' x y)) :=
  ⟨h.sv.store b' x y, (setRow_other _ _ _ _ h.gv).trans h.row, h.gr, h.gv, h.g0⟩
theorem Sg.part (h : Sg w0 R s i p fr V b G t cs w) (n : Nat) : Sg w0 R s i n fr V b G t cs (w.setCell ⟨R, 2, none⟩ (.int .i64 (n : Int))) :=
  ⟨h.sv.part n, (heap_setCell_other _ _ _ _ (by show G ≠ R; exact h.gr)).trans h.row, h.gr, h.gv, h.g0⟩
theorem Sg.place (h : Sg w0 R s i p fr V b G t cs w) (n : Nat) : Sg w0 R s n p fr V b G t cs (w.setCell ⟨R, 1, none⟩ (.int .i64 (n : Int))) :=
  ⟨h.sv.place n, (heap_setCell_other _ _ _ _ (by show G ≠ R; exact h.gr)).trans h.row, h.gr, h.gv, h.g0⟩
theorem Sg.relay (h : Sg w0 R s i p fr V b G t cs w) (b' : Bool) (x y : Int) : Sg w0 R s i p fr V b' G t cs ((((w.setCell ⟨V, 0, none⟩ (.bool b')).setCell ⟨V, 1, none⟩ (.int .i64 x)).setCell ⟨V, 2, none⟩ (.int .i64 y)).setCell ⟨V, 3, none⟩ (.bool false)) := by
  have hv := h.gv
  have k : ∀ (w : World) (o : Nat) (u : Value), (w.setCell ⟨V, o, none⟩ u).heap[G]? = w.heap[G]? := fun w o u => heap_setCell_other _ _ _ _ hv
  exact ⟨h.sv.relay b' x y, (k _ _ _).trans ((k _ _ _).trans ((k _ _ _).trans ((k _ _ _).trans h.row))), h.gr, h.gv, h.g0⟩
theorem Sg.setG (h : Sg w0 R s i p fr V b G t cs w) (cs' : Array Value) : Sg w0 R s i p fr V b G t cs' (w.setRow G cs') :=
  ⟨h.sv.otherRow h.gr h.gv h.g0 cs', setRow_heap _ _ _ _ _ _ h.row, h.gr, h.gv, h.g0⟩
theorem Sg.cellG (h : Sg w0 R s i p fr V b G t cs w) (o : Nat) (u : Value) : Sg w0 R s i p fr V b G t (cs.setIfInBounds o u) (w.setCell ⟨G, o, none⟩ u) :=
  ⟨h.sv.other h.gr h.gv h.g0 o u, heap_setCell_same w G o _ _ u h.row, h.gr, h.gv, h.g0⟩
theorem Sg.lay2 {o0 o1 : Value} (h : Sg w0 R s i p fr V b G t #[o0, o1] w) (u0 u1 : Value) : Sg w0 R s i p fr V b G t #[u0, u1] ((w.setCell ⟨G, 0, none⟩ u0).setCell ⟨G, 1, none⟩ u1) := (h.cellG 0 u0).cellG 1 u1
theorem Sg.lay3 {o0 o1 o2 : Value} (h : Sg w0 R s i p fr V b G t #[o0, o1, o2] w) (u0 u1 u2 : Value) : Sg w0 R s i p fr V b G t #[u0, u1, u2] (((w.setCell ⟨G, 0, none⟩ u0).setCell ⟨G, 1, none⟩ u1).setCell ⟨G, 2, none⟩ u2) := ((h.cellG 0 u0).cellG 1 u1).cellG 2 u2

theorem TagP.mk {X : MSt} {i' p' : Nat} {w' : World} {b0 : Bool} (hsp : Sp s i' p' X) (hfr : fr ≤ i') (h : Sg w R s i' p' fr V b0 G t cs w') (b g : Bool) (k v : ByteArray) (x y : Int) :
    TagP R s w X b g fr (.returned (.tuple #[.agg #[.string k, .string v], .bool g, .agg (F37 b x y)])) w' := by
  obtain rfl : X.sec = p' := hsp.2.2
  exact ⟨i', k, v, x, y, rfl, hsp, hfr, h.sv.rd, h.sv.fm⟩
theorem FieldP.mk {X : MSt} {i' p' : Nat} {w' : World} {b0 : Bool} (hsp : Sp s i' p' X) (hfr : fr ≤ i') (h : Sg w R s i' p' fr V b0 G t cs w') (b g : Bool) (k v : ByteArray) (d x y : Int) :
    FieldP R s w X b g fr (.returned (.tuple #[.agg #[.string k, .int .i64 d, .string v], .bool g, .agg (F37 b x y)])) w' := by
  obtain rfl : X.sec = p' := hsp.2.2
  exact ⟨i', k, v, d, x, y, rfl, hsp, hfr, h.sv.rd, h.sv.fm⟩

/-- A fault where a line is being read. -/
theorem fault4 (h : IsRd w R s i p fr) (hs : s.size ≤ 1000) (hp : p < 5) (k : Nat) (hk : k ≤ s.size) (hfr : fr ≤ k) :
    Calls Tryz.prog 95 #[.pointer (some ⟨R, 0, none⟩), .int .i64 k] w fun e w' => (∃ x y : Int, e = .returned (.agg (F37 true x y))) ∧ IsRd w' R s i 4 fr ∧ Rds R w w' :=
  (specFault_spec h hs (by omega) k hk hfr).mono fun e w' ⟨⟨v, he, x, y, hv⟩, hr, hf⟩ => ⟨⟨x, y, by rw [he, hv]; rfl⟩, by rw [if_neg (by omega)] at hr; exact hr, hf⟩
end

theorem res_ctc107 {fn : Func} {q p r : Tmp} (h : fn.results = #[.cell q 107, .tmp p, .cell r 37]) {tmps : Array Value} {w : World} {G V : Nat} {cs ds : Array Value} {v : Value} (hq : tmps.getD q undef = .pointer (some ⟨G, 0, none⟩)) (hp : tmps.getD p undef = v) (hr : tmps.getD r undef = .pointer (some ⟨V, 0, none⟩)) (hG : w.heap[G]? = some (.cells cs 107 (0, 0))) (hV : w.heap[V]? = some (.cells ds 37 (0, 0))) (hc : cs.size = 2) (hd : ds.size = 4) :
    (results fn tmps).run Tryz.prog w = .ok (.tuple #[.agg cs, v, .agg ds]) w := by
  have hp' : tmps[p]?.getD undef = v := by simpa using hp
  have hq' : tmps[q]?.getD undef = .pointer (some ⟨G, 0, none⟩) := by simpa using hq
  have hr' : tmps[r]?.getD undef = .pointer (some ⟨V, 0, none⟩) := by simpa using hr
  have hl := run_loadVar_row (P := Tryz.prog) w G 107 107 cs (0, 0) _ hG Tryz.underlying107 rfl (by rw [hc]; exact info107s)
  have hl2 := run_loadVar_row (P := Tryz.prog) w V 37 37 ds (0, 0) _ hV Tryz.underlying37 rfl (by rw [hd]; exact info37t)
  simp [results, h, hp', hq', hr', asAddr, hl, hl2]
theorem res_ctc50 {fn : Func} {q p r : Tmp} (h : fn.results = #[.cell q 50, .tmp p, .cell r 37]) {tmps : Array Value} {w : World} {G V : Nat} {cs ds : Array Value} {v : Value} (hq : tmps.getD q undef = .pointer (some ⟨G, 0, none⟩)) (hp : tmps.getD p undef = v) (hr : tmps.getD r undef = .pointer (some ⟨V, 0, none⟩)) (hG : w.heap[G]? = some (.cells cs 50 (0, 0))) (hV : w.heap[V]? = some (.cells ds 37 (0, 0))) (hc : cs.size = 3) (hd : ds.size = 4) :
    (results fn tmps).run Tryz.prog w = .ok (.tuple #[.agg cs, v, .agg ds]) w := by
  have hp' : tmps[p]?.getD undef = v := by simpa using hp
  have hq' : tmps[q]?.getD undef = .pointer (some ⟨G, 0, none⟩) := by simpa using hq
  have hr' : tmps[r]?.getD undef = .pointer (some ⟨V, 0, none⟩) := by simpa using hr
  have hl := run_loadVar_row (P := Tryz.prog) w G 50 50 cs (0, 0) _ hG Tryz.underlying50 rfl (by rw [hc]; exact info50s)
  have hl2 := run_loadVar_row (P := Tryz.prog) w V 37 37 ds (0, 0) _ hV Tryz.underlying37 rfl (by rw [hd]; exact info37t)
  simp [results, h, hp', hq', hr', asAddr, hl, hl2]

section
variable {o : Oper} {v : Value} {ρ : Operand → Value} {w : World}
theorem x_load107 {x : Operand} {X : Nat} {cs : Array Value} (ho : o.op = .load 107 x) (hx : ρ x = .pointer (some ⟨X, 0, none⟩)) (hc : w.heap[X]? = some (.cells cs 107 (0, 0))) (h3 : cs.size = 2) : (execOp ρ o).run Tryz.prog w = .ok (.value (.agg cs)) w := by
  have h := run_loadVar_row (P := Tryz.prog) w X 107 107 cs (0, 0) _ hc Tryz.underlying107 rfl (by rw [h3]; exact info107s)
  unfold execOp
  simp only [ho, hx, Instr.loadAt, Instr.sureAddr, Sem.run_bind, Sem.run_pure, Result.andThen_ok, h]
theorem x_storeRow {t G : Nat} {x y : Operand} {old cs : Array Value} (ho : o.op = .store t x y) (hx : ρ x = .pointer (some ⟨G, 0, none⟩)) (hy : ρ y = .agg cs) (hg : w.heap[G]? = some (.cells old t (0, 0))) (hi : (Tryz.prog.info? t).map (·.size) = some cs.size) (h0 : old.size = cs.size) (h1 : cs.all (·.oneCell') = true) : (execOp ρ o).run Tryz.prog w = .ok .skip (w.setRow G cs) := by
  have := run_storeVar_row w G t t old cs hg hi h0 h1
  unfold execOp
  simp only [ho, hx, hy, Instr.storeAt, Instr.sureAddr, Sem.run_bind, Sem.run_pure, Result.andThen_ok, this]
end

noncomputable def ops47_13 : Array Oper := (Tryz.f47.body.bind (findRegion 13)).getD #[]

set_option maxHeartbeats 4000000 in
set_option maxRecDepth 100000 in
theorem region47_13 {Q : Exit → Act → World → Prop} {a : Act} {w : World} {G V R K : Nat} {k v : ByteArray} {RT : World → Prop}
    (hQ : ∀ (d : Tmp) (v : Value) (c : List PanicEntry) (a : Act) (w : World), Q (.panic c) (a.put (some d) v) w → Q (.panic c) a w) (hsz : a.tmps.size = 106)
    (h0 : a.eval (.tmp 0) = .pointer (some ⟨R, 0, none⟩)) (h2 : a.eval (.tmp 2) = .pointer (some ⟨G, 0, none⟩)) (h4 : a.eval (.tmp 4) = .pointer (some ⟨V, 0, none⟩)) (h5 : a.eval (.tmp 5) = .int .i64 (K : Int))
    (hG : w.heap[G]? = some (.cells #[.string k, .string v] 107 (0, 0)))
    (hT : Calls Tryz.prog 95 #[.pointer (some ⟨R, 0, none⟩), .int .i64 (K : Int)] w.drew fun e w' => (∃ x y : Int, e = .returned (.agg (F37 true x y))) ∧ RT w')
    (hRG : ∀ w', RT w' → w'.heap[G]? = some (.cells #[.string k, .string v] 107 (0, 0)))
    (hRV : ∀ w', RT w' → ∃ old, w'.heap[V]? = some (.cells old 37 (0, 0)) ∧ old.size = 4) (hVG : V ≠ G)
    (hend : ∀ w' x y, RT w' → Q .normal ((putAll (putAll a [(61, .agg #[.string k, .string v]), (62, .pointer (some ⟨R, 0, none⟩)), (63, .int .i64 (K : Int))]) [(64, .agg (F37 true x y)), (3, .bool false)])) ((w'.setRow G #[.string k, .string v]).setRow V (F37 true x y))) :
    (Code.region 13 ops47_13 true).wp Tryz.prog Q a w := by
  generalize ho2 : ops47_13 = ops
  conv at ho2 => lhs; whnf
  subst ho2
  refine start_ (n := 7) (S := fun w9 : World => w9.heap[G]? = some (.cells #[.string k, .string v] 107 (0, 0))) (ds := [4, 5, 6]) #[false, false, false, false, false, false, false] (by kernel_rfl) rfl rfl hG (fun hHeld => ?_)
  refine take_ (i := 0) (N := some 61) (v := .agg #[.string k, .string v]) #[true, false, false, false, false, false, false] rfl rfl (by kernel_rfl) (hQ 61 _) (y_of rfl fun w9 hs9 => x_load107 rfl (by simp only [h2]) hs9 rfl) hHeld rfl ?_
  refine take_ (i := 1) (N := some 62) (v := .pointer (some ⟨R, 0, none⟩)) #[true, true, false, false, false, false, false] rfl rfl (by kernel_rfl) (hQ 62 _) (y_of rfl fun w9 hs9 => x_move rfl (by simp (disch := first | decide | ((repeat rw [put_size]); rw [hsz]; decide)) only [put_ne, h0])) hHeld rfl ?_
  refine take_ (i := 2) (N := some 63) (v := .int .i64 (K : Int)) #[true, true, true, false, false, false, false] rfl rfl (by kernel_rfl) (hQ 63 _) (y_of rfl fun w9 hs9 => x_move rfl (by simp (disch := first | decide | ((repeat rw [put_size]); rw [hsz]; decide)) only [put_ne, h5])) hHeld rfl ?_
  obtain ⟨A, hA⟩ : ∃ A, putAll a [(61, .agg #[.string k, .string v]), (62, .pointer (some ⟨R, 0, none⟩)), (63, .int .i64 (K : Int))] = A := ⟨_, rfl⟩
  refine norm_ (a' := A) hA ?_
  have hAs : A.tmps.size = 106 := by rw [← hA]; simp only [putAll, put_size, hsz]
  have hA2 : A.eval (.tmp 2) = .pointer (some ⟨G, 0, none⟩) := by rw [← hA]; simp only [putAll]; simp (disch := first | decide | ((repeat rw [put_size]); rw [hsz]; decide)) only [put_ne, h2]
  have hA4 : A.eval (.tmp 4) = .pointer (some ⟨V, 0, none⟩) := by rw [← hA]; simp only [putAll]; simp (disch := first | decide | ((repeat rw [put_size]); rw [hsz]; decide)) only [put_ne, h4]
  have hAa : A.eval (.tmp 61) = .agg #[.string k, .string v] := by rw [← hA]; simp only [putAll]; simp (disch := first | decide | ((repeat rw [put_size]); rw [hsz]; decide)) only [put_ne, put_same]
  have hAb : A.eval (.tmp 62) = .pointer (some ⟨R, 0, none⟩) := by rw [← hA]; simp only [putAll]; simp (disch := first | decide | ((repeat rw [put_size]); rw [hsz]; decide)) only [put_ne, put_same]
  have hAc : A.eval (.tmp 63) = .int .i64 (K : Int) := by rw [← hA]; exact put_same _ _ _ (by (repeat rw [put_size]); rw [hsz]; decide)
  have HA := hid hA
  clear hA
  refine one_ (i := 3) (N := some 64) #[true, true, true, true, false, false, false] rfl rfl (by kernel_rfl) (by decide) ?_
  intro K9 hK9
  refine goes_ Tryz.func95 rfl rfl #[.pointer (some ⟨R, 0, none⟩), .int .i64 (K : Int)] rfl rfl rfl (by simp only [List.map_toArray, List.map_cons, List.map_nil, hAb, hAc]) ?_
  refine hT.mono ?_
  rintro e w1 ⟨⟨x, y, rfl⟩, hrt⟩
  have hg1 := hRG _ hrt
  obtain ⟨old, hv1, ho1⟩ := hRV _ hrt
  refine ⟨_, rfl, hK9 _ _ hg1 (fun hHeld1 => ?_)⟩
  clear hK9 K9
  obtain ⟨A2, hA2'⟩ : ∃ A2, Act.put A (some 64) (.agg (F37 true x y)) = A2 := ⟨_, rfl⟩
  refine norm_ (a' := A2) hA2' ?_
  have hBs : A2.tmps.size = 106 := by rw [← hA2', put_size, hAs]
  have hB2 : A2.eval (.tmp 2) = .pointer (some ⟨G, 0, none⟩) := by rw [← hA2', put_ne _ _ _ _ (by decide)]; exact hA2
  have hB4 : A2.eval (.tmp 4) = .pointer (some ⟨V, 0, none⟩) := by rw [← hA2', put_ne _ _ _ _ (by decide)]; exact hA4
  have hBa : A2.eval (.tmp 61) = .agg #[.string k, .string v] := by rw [← hA2', put_ne _ _ _ _ (by decide)]; exact hAa
  have hBd : A2.eval (.tmp 64) = .agg (F37 true x y) := by rw [← hA2']; exact put_same _ _ _ (by rw [hAs]; decide)
  refine last_ (i := 4) (N := none) #[true, true, true, true, true, false, false] rfl rfl (by kernel_rfl) (by decide) ?_
  intro K9 hK9
  refine skip_ (by rfl) rfl (x_storeRow (t := 107) rfl hB2 hBa hg1 info107s rfl (by simp [Value.oneCell'])) ?_
  refine hK9 _ _ ?_
  clear hK9 K9
  refine last_ (i := 5) (N := some 3) #[true, true, true, true, true, true, false] rfl rfl (by kernel_rfl) (by decide) ?_
  intro K9 hK9
  refine value_ (by rfl) rfl (x_assign (v := .bool false) rfl rfl) ?_
  refine hK9 _ _ ?_
  clear hK9 K9
  have hv2 := (setRow_other w1 G V #[.string k, .string v] hVG).trans hv1
  refine last_ (i := 6) (N := none) #[true, true, true, true, true, true, true] rfl rfl (by kernel_rfl) (by decide) ?_
  intro K9 hK9
  refine skip_ (by rfl) rfl (x_storeRow (t := 37) (cs := F37 true x y) rfl (by rw [put_ne _ _ _ _ (by decide)]; exact hB4) (by rw [put_ne _ _ _ _ (by decide)]; exact hBd) hv2 info37t ho1 (by simp [F37, Value.oneCell'])) ?_
  refine hK9 _ _ ?_
  refine done_ (by kernel_rfl) ?_
  rw [← hA2', ← HA.out]
  exact hend _ _ _ hrt

noncomputable def ops47_20 : Array Oper := (Tryz.f47.body.bind (findRegion 20)).getD #[]

set_option maxHeartbeats 4000000 in
set_option maxRecDepth 100000 in
theorem region47_20 {Q : Exit → Act → World → Prop} {a : Act} {w : World} {G V R K : Nat} {k v : ByteArray} {RT : World → Prop}
    (hQ : ∀ (d : Tmp) (v : Value) (c : List PanicEntry) (a : Act) (w : World), Q (.panic c) (a.put (some d) v) w → Q (.panic c) a w) (hsz : a.tmps.size = 106)
    (h0 : a.eval (.tmp 0) = .pointer (some ⟨R, 0, none⟩)) (h2 : a.eval (.tmp 2) = .pointer (some ⟨G, 0, none⟩)) (h4 : a.eval (.tmp 4) = .pointer (some ⟨V, 0, none⟩)) (h5 : a.eval (.tmp 5) = .int .i64 (K : Int))
    (hG : w.heap[G]? = some (.cells #[.string k, .string v] 107 (0, 0)))
    (hT : Calls Tryz.prog 95 #[.pointer (some ⟨R, 0, none⟩), .int .i64 (K : Int)] w.drew fun e w' => (∃ x y : Int, e = .returned (.agg (F37 true x y))) ∧ RT w')
    (hRG : ∀ w', RT w' → w'.heap[G]? = some (.cells #[.string k, .string v] 107 (0, 0)))
    (hRV : ∀ w', RT w' → ∃ old, w'.heap[V]? = some (.cells old 37 (0, 0)) ∧ old.size = 4) (hVG : V ≠ G)
    (hend : ∀ w' x y, RT w' → Q .normal ((putAll (putAll a [(87, .agg #[.string k, .string v]), (88, .pointer (some ⟨R, 0, none⟩)), (89, .int .i64 (K : Int))]) [(90, .agg (F37 true x y)), (3, .bool false)])) ((w'.setRow G #[.string k, .string v]).setRow V (F37 true x y))) :
    (Code.region 20 ops47_20 true).wp Tryz.prog Q a w := by
  generalize ho2 : ops47_20 = ops
  conv at ho2 => lhs; whnf
  subst ho2
  refine start_ (n := 7) (S := fun w9 : World => w9.heap[G]? = some (.cells #[.string k, .string v] 107 (0, 0))) (ds := [4, 5, 6]) #[false, false, false, false, false, false, false] (by kernel_rfl) rfl rfl hG (fun hHeld => ?_)
  refine take_ (i := 0) (N := some 87) (v := .agg #[.string k, .string v]) #[true, false, false, false, false, false, false] rfl rfl (by kernel_rfl) (hQ 87 _) (y_of rfl fun w9 hs9 => x_load107 rfl (by simp only [h2]) hs9 rfl) hHeld rfl ?_
  refine take_ (i := 1) (N := some 88) (v := .pointer (some ⟨R, 0, none⟩)) #[true, true, false, false, false, false, false] rfl rfl (by kernel_rfl) (hQ 88 _) (y_of rfl fun w9 hs9 => x_move rfl (by simp (disch := first | decide | ((repeat rw [put_size]); rw [hsz]; decide)) only [put_ne, h0])) hHeld rfl ?_
  refine take_ (i := 2) (N := some 89) (v := .int .i64 (K : Int)) #[true, true, true, false, false, false, false] rfl rfl (by kernel_rfl) (hQ 89 _) (y_of rfl fun w9 hs9 => x_move rfl (by simp (disch := first | decide | ((repeat rw [put_size]); rw [hsz]; decide)) only [put_ne, h5])) hHeld rfl ?_
  obtain ⟨A, hA⟩ : ∃ A, putAll a [(87, .agg #[.string k, .string v]), (88, .pointer (some ⟨R, 0, none⟩)), (89, .int .i64 (K : Int))] = A := ⟨_, rfl⟩
  refine norm_ (a' := A) hA ?_
  have hAs : A.tmps.size = 106 := by rw [← hA]; simp only [putAll, put_size, hsz]
  have hA2 : A.eval (.tmp 2) = .pointer (some ⟨G, 0, none⟩) := by rw [← hA]; simp only [putAll]; simp (disch := first | decide | ((repeat rw [put_size]); rw [hsz]; decide)) only [put_ne, h2]
  have hA4 : A.eval (.tmp 4) = .pointer (some ⟨V, 0, none⟩) := by rw [← hA]; simp only [putAll]; simp (disch := first | decide | ((repeat rw [put_size]); rw [hsz]; decide)) only [put_ne, h4]
  have hAa : A.eval (.tmp 87) = .agg #[.string k, .string v] := by rw [← hA]; simp only [putAll]; simp (disch := first | decide | ((repeat rw [put_size]); rw [hsz]; decide)) only [put_ne, put_same]
  have hAb : A.eval (.tmp 88) = .pointer (some ⟨R, 0, none⟩) := by rw [← hA]; simp only [putAll]; simp (disch := first | decide | ((repeat rw [put_size]); rw [hsz]; decide)) only [put_ne, put_same]
  have hAc : A.eval (.tmp 89) = .int .i64 (K : Int) := by rw [← hA]; exact put_same _ _ _ (by (repeat rw [put_size]); rw [hsz]; decide)
  have HA := hid hA
  clear hA
  refine one_ (i := 3) (N := some 90) #[true, true, true, true, false, false, false] rfl rfl (by kernel_rfl) (by decide) ?_
  intro K9 hK9
  refine goes_ Tryz.func95 rfl rfl #[.pointer (some ⟨R, 0, none⟩), .int .i64 (K : Int)] rfl rfl rfl (by simp only [List.map_toArray, List.map_cons, List.map_nil, hAb, hAc]) ?_
  refine hT.mono ?_
  rintro e w1 ⟨⟨x, y, rfl⟩, hrt⟩
  have hg1 := hRG _ hrt
  obtain ⟨old, hv1, ho1⟩ := hRV _ hrt
  refine ⟨_, rfl, hK9 _ _ hg1 (fun hHeld1 => ?_)⟩
  clear hK9 K9
  obtain ⟨A2, hA2'⟩ : ∃ A2, Act.put A (some 90) (.agg (F37 true x y)) = A2 := ⟨_, rfl⟩
  refine norm_ (a' := A2) hA2' ?_
  have hBs : A2.tmps.size = 106 := by rw [← hA2', put_size, hAs]
  have hB2 : A2.eval (.tmp 2) = .pointer (some ⟨G, 0, none⟩) := by rw [← hA2', put_ne _ _ _ _ (by decide)]; exact hA2
  have hB4 : A2.eval (.tmp 4) = .pointer (some ⟨V, 0, none⟩) := by rw [← hA2', put_ne _ _ _ _ (by decide)]; exact hA4
  have hBa : A2.eval (.tmp 87) = .agg #[.string k, .string v] := by rw [← hA2', put_ne _ _ _ _ (by decide)]; exact hAa
  have hBd : A2.eval (.tmp 90) = .agg (F37 true x y) := by rw [← hA2']; exact put_same _ _ _ (by rw [hAs]; decide)
  refine last_ (i := 4) (N := none) #[true, true, true, true, true, false, false] rfl rfl (by kernel_rfl) (by decide) ?_
  intro K9 hK9
  refine skip_ (by rfl) rfl (x_storeRow (t := 107) rfl hB2 hBa hg1 info107s rfl (by simp [Value.oneCell'])) ?_
  refine hK9 _ _ ?_
  clear hK9 K9
  refine last_ (i := 5) (N := some 3) #[true, true, true, true, true, true, false] rfl rfl (by kernel_rfl) (by decide) ?_
  intro K9 hK9
  refine value_ (by rfl) rfl (x_assign (v := .bool false) rfl rfl) ?_
  refine hK9 _ _ ?_
  clear hK9 K9
  have hv2 := (setRow_other w1 G V #[.string k, .string v] hVG).trans hv1
  refine last_ (i := 6) (N := none) #[true, true, true, true, true, true, true] rfl rfl (by kernel_rfl) (by decide) ?_
  intro K9 hK9
  refine skip_ (by rfl) rfl (x_storeRow (t := 37) (cs := F37 true x y) rfl (by rw [put_ne _ _ _ _ (by decide)]; exact hB4) (by rw [put_ne _ _ _ _ (by decide)]; exact hBd) hv2 info37t ho1 (by simp [F37, Value.oneCell'])) ?_
  refine hK9 _ _ ?_
  refine done_ (by kernel_rfl) ?_
  rw [← hA2', ← HA.out]
  exact hend _ _ _ hrt
end Go.Proofs.YtejlokdcocacaaaGreatDoor

/- The regions of the reference's Tag and Field by which a result is handed on, each over an abstract frame. Printed by gen_relay.py. -/
namespace Go.Proofs.YtejlokdcocacaaaGreatDoor
open Go.RowKit Go.Proofs.YtejlokdcocacaaaGreatDoorW.PrintLast

section
variable {o : Oper} {v : Value} {ρ : Operand → Value} {w : World}
theorem x_load50 {x : Operand} {X : Nat} {cs : Array Value} (ho : o.op = .load 50 x) (hx : ρ x = .pointer (some ⟨X, 0, none⟩)) (hc : w.heap[X]? = some (.cells cs 50 (0, 0))) (h3 : cs.size = 3) : (execOp ρ o).run Tryz.prog w = .ok (.value (.agg cs)) w := by
  have h := run_loadVar_row (P := Tryz.prog) w X 50 50 cs (0, 0) _ hc Tryz.underlying50 rfl (by rw [h3]; exact info50s)
  unfold execOp
  simp only [ho, hx, Instr.loadAt, Instr.sureAddr, Sem.run_bind, Sem.run_pure, Result.andThen_ok, h]
theorem x_load37 {x : Operand} {X : Nat} {cs : Array Value} (ho : o.op = .load 37 x) (hx : ρ x = .pointer (some ⟨X, 0, none⟩)) (hc : w.heap[X]? = some (.cells cs 37 (0, 0))) (h3 : cs.size = 4) : (execOp ρ o).run Tryz.prog w = .ok (.value (.agg cs)) w := by
  have h := run_loadVar_row (P := Tryz.prog) w X 37 37 cs (0, 0) _ hc Tryz.underlying37 rfl (by rw [h3]; exact info37t)
  unfold execOp
  simp only [ho, hx, Instr.loadAt, Instr.sureAddr, Sem.run_bind, Sem.run_pure, Result.andThen_ok, h]
theorem xs_build {P : Program} {t : TypeId} {ps : Array (Nat × Operand)} {cs : Array Value} (ho : o.op = .build t ps) (hb : P.built t (ps.map fun (i, x) => (i, ρ x)).toList = some cs) : (execOp ρ o).run P w = .ok (.value (.agg cs)) w := by
  have h2 := run_build (P := P) w t _ cs hb
  unfold execOp
  simp only [ho, Sem.run_bind, h2, Result.andThen_ok]
  rfl
end

noncomputable def ops47_3 : Array Oper := (Tryz.f47.body.bind (findRegion 3)).getD #[]

set_option maxHeartbeats 4000000 in
set_option maxRecDepth 100000 in
theorem region47_3 {Q : Exit → Act → World → Prop} {a : Act} {w : World} {G V : Nat} {cs : Array Value}  {b : Bool} {x y : Int}
    (hQ : ∀ (d : Tmp) (v : Value) (c : List PanicEntry) (a : Act) (w : World), Q (.panic c) (a.put (some d) v) w → Q (.panic c) a w) (hsz : a.tmps.size = 106)
    (h2 : a.eval (.tmp 2) = .pointer (some ⟨G, 0, none⟩)) (h4 : a.eval (.tmp 4) = .pointer (some ⟨V, 0, none⟩)) 
    (hG : w.heap[G]? = some (.cells cs 107 (0, 0))) (hc : cs.size = 2) (h1 : cs.all (·.oneCell') = true) (hV : w.heap[V]? = some (.cells (F37 b x y) 37 (0, 0))) (hVG : V ≠ G)
    (hend : Q .normal (putAll (putAll a [(19, .agg cs), (20, .agg (F37 b x y))]) [(3, .bool false)]) ((w.drew.setRow G cs).setRow V (F37 b x y))) :
    (Code.region 3 ops47_3 true).wp Tryz.prog Q a w := by
  generalize ho2 : ops47_3 = ops
  conv at ho2 => lhs; whnf
  subst ho2
  refine start_ (n := 5) (S := fun w9 : World => w9.heap[G]? = some (.cells cs 107 (0, 0)) ∧ w9.heap[V]? = some (.cells (F37 b x y) 37 (0, 0))) (ds := [4]) #[false, false, false, false, false] (by kernel_rfl) rfl rfl ⟨hG, hV⟩ (fun hHeld => ?_)
  refine take_ (i := 0) (N := some 19) (v := .agg cs) #[true, false, false, false, false] rfl rfl (by kernel_rfl) (hQ 19 _) (y_of rfl fun w9 hs9 => x_load107 rfl (by simp (disch := first | decide | ((repeat rw [put_size]); rw [hsz]; decide)) only [h2]) hs9.1 hc) hHeld rfl ?_
  refine take_ (i := 1) (N := some 20) (v := .agg (F37 b x y)) #[true, true, false, false, false] rfl rfl (by kernel_rfl) (hQ 20 _) (y_of rfl fun w9 hs9 => x_load37 rfl (by simp (disch := first | decide | ((repeat rw [put_size]); rw [hsz]; decide)) only [put_ne, h4]) hs9.2 rfl) hHeld rfl ?_
  obtain ⟨A, hA⟩ : ∃ A, putAll a [(19, .agg cs), (20, .agg (F37 b x y))] = A := ⟨_, rfl⟩
  refine norm_ (a' := A) hA ?_
  have hAs : A.tmps.size = 106 := by rw [← hA]; simp only [putAll, put_size, hsz]
  have hA2 : A.eval (.tmp 2) = .pointer (some ⟨G, 0, none⟩) := by rw [← hA]; simp only [putAll]; simp (disch := first | decide | ((repeat rw [put_size]); rw [hsz]; decide)) only [put_ne, h2]
  have hA4 : A.eval (.tmp 4) = .pointer (some ⟨V, 0, none⟩) := by rw [← hA]; simp only [putAll]; simp (disch := first | decide | ((repeat rw [put_size]); rw [hsz]; decide)) only [put_ne, h4]
  have hAa : A.eval (.tmp 19) = .agg cs := by rw [← hA]; simp only [putAll]; simp (disch := first | decide | ((repeat rw [put_size]); rw [hsz]; decide)) only [put_ne, put_same]
  have hAb : A.eval (.tmp 20) = .agg (F37 b x y) := by rw [← hA]; exact put_same _ _ _ (by (repeat rw [put_size]); rw [hsz]; decide)
  have HA := hid hA
  clear hA
  refine one_ (i := 2) (N := none) #[true, true, true, false, false] rfl rfl (by kernel_rfl) (by decide) ?_
  intro K9 hK9
  refine skip_ (by rfl) rfl (x_storeRow (t := 107) (cs := cs) rfl hA2 hAa hG (by rw [hc]; exact info107s) rfl h1) ?_
  have hg2 : (w.drew.setRow G cs).heap[G]? = some (.cells cs 107 (0, 0)) := setRow_heap w.drew _ _ _ _ _ hG
  have hv2 : (w.drew.setRow G cs).heap[V]? = some (.cells (F37 b x y) 37 (0, 0)) := (setRow_other w.drew G V cs hVG).trans hV
  refine hK9 _ _ ⟨hg2, hv2⟩ (fun _ => ?_)
  clear hK9 K9
  refine one_ (i := 3) (N := some 3) #[true, true, true, true, false] rfl rfl (by kernel_rfl) (by decide) ?_
  intro K9 hK9
  refine value_ (by rfl) rfl (x_assign (v := .bool false) rfl rfl) ?_
  refine hK9 _ _ ⟨hg2, hv2⟩ (fun _ => ?_)
  clear hK9 K9
  refine last_ (i := 4) (N := none) #[true, true, true, true, true] rfl rfl (by kernel_rfl) (by decide) ?_
  intro K9 hK9
  refine skip_ (by rfl) rfl (x_storeRow (t := 37) (cs := F37 b x y) rfl (by rw [put_ne _ _ _ _ (by decide)]; exact hA4) (by rw [put_ne _ _ _ _ (by decide)]; exact hAb) hv2 info37t rfl (by simp [F37, Value.oneCell'])) ?_
  refine hK9 _ _ ?_
  refine done_ (by kernel_rfl) ?_
  rw [← HA.out]
  exact hend

noncomputable def ops47_7 : Array Oper := (Tryz.f47.body.bind (findRegion 7)).getD #[]

set_option maxHeartbeats 4000000 in
set_option maxRecDepth 100000 in
theorem region47_7 {Q : Exit → Act → World → Prop} {a : Act} {w : World} {G V : Nat} {cs : Array Value}  {b : Bool} {x y : Int}
    (hQ : ∀ (d : Tmp) (v : Value) (c : List PanicEntry) (a : Act) (w : World), Q (.panic c) (a.put (some d) v) w → Q (.panic c) a w) (hsz : a.tmps.size = 106)
    (h2 : a.eval (.tmp 2) = .pointer (some ⟨G, 0, none⟩)) (h4 : a.eval (.tmp 4) = .pointer (some ⟨V, 0, none⟩)) 
    (hG : w.heap[G]? = some (.cells cs 107 (0, 0))) (hc : cs.size = 2) (h1 : cs.all (·.oneCell') = true) (hV : w.heap[V]? = some (.cells (F37 b x y) 37 (0, 0))) (hVG : V ≠ G)
    (hend : Q .normal (putAll (putAll a [(28, .agg cs), (29, .agg (F37 b x y))]) [(3, .bool false)]) ((w.drew.setRow G cs).setRow V (F37 b x y))) :
    (Code.region 7 ops47_7 true).wp Tryz.prog Q a w := by
  generalize ho2 : ops47_7 = ops
  conv at ho2 => lhs; whnf
  subst ho2
  refine start_ (n := 5) (S := fun w9 : World => w9.heap[G]? = some (.cells cs 107 (0, 0)) ∧ w9.heap[V]? = some (.cells (F37 b x y) 37 (0, 0))) (ds := [4]) #[false, false, false, false, false] (by kernel_rfl) rfl rfl ⟨hG, hV⟩ (fun hHeld => ?_)
  refine take_ (i := 0) (N := some 28) (v := .agg cs) #[true, false, false, false, false] rfl rfl (by kernel_rfl) (hQ 28 _) (y_of rfl fun w9 hs9 => x_load107 rfl (by simp (disch := first | decide | ((repeat rw [put_size]); rw [hsz]; decide)) only [h2]) hs9.1 hc) hHeld rfl ?_
  refine take_ (i := 1) (N := some 29) (v := .agg (F37 b x y)) #[true, true, false, false, false] rfl rfl (by kernel_rfl) (hQ 29 _) (y_of rfl fun w9 hs9 => x_load37 rfl (by simp (disch := first | decide | ((repeat rw [put_size]); rw [hsz]; decide)) only [put_ne, h4]) hs9.2 rfl) hHeld rfl ?_
  obtain ⟨A, hA⟩ : ∃ A, putAll a [(28, .agg cs), (29, .agg (F37 b x y))] = A := ⟨_, rfl⟩
  refine norm_ (a' := A) hA ?_
  have hAs : A.tmps.size = 106 := by rw [← hA]; simp only [putAll, put_size, hsz]
  have hA2 : A.eval (.tmp 2) = .pointer (some ⟨G, 0, none⟩) := by rw [← hA]; simp only [putAll]; simp (disch := first | decide | ((repeat rw [put_size]); rw [hsz]; decide)) only [put_ne, h2]
  have hA4 : A.eval (.tmp 4) = .pointer (some ⟨V, 0, none⟩) := by rw [← hA]; simp only [putAll]; simp (disch := first | decide | ((repeat rw [put_size]); rw [hsz]; decide)) only [put_ne, h4]
  have hAa : A.eval (.tmp 28) = .agg cs := by rw [← hA]; simp only [putAll]; simp (disch := first | decide | ((repeat rw [put_size]); rw [hsz]; decide)) only [put_ne, put_same]
  have hAb : A.eval (.tmp 29) = .agg (F37 b x y) := by rw [← hA]; exact put_same _ _ _ (by (repeat rw [put_size]); rw [hsz]; decide)
  have HA := hid hA
  clear hA
  refine one_ (i := 2) (N := none) #[true, true, true, false, false] rfl rfl (by kernel_rfl) (by decide) ?_
  intro K9 hK9
  refine skip_ (by rfl) rfl (x_storeRow (t := 107) (cs := cs) rfl hA2 hAa hG (by rw [hc]; exact info107s) rfl h1) ?_
  have hg2 : (w.drew.setRow G cs).heap[G]? = some (.cells cs 107 (0, 0)) := setRow_heap w.drew _ _ _ _ _ hG
  have hv2 : (w.drew.setRow G cs).heap[V]? = some (.cells (F37 b x y) 37 (0, 0)) := (setRow_other w.drew G V cs hVG).trans hV
  refine hK9 _ _ ⟨hg2, hv2⟩ (fun _ => ?_)
  clear hK9 K9
  refine one_ (i := 3) (N := some 3) #[true, true, true, true, false] rfl rfl (by kernel_rfl) (by decide) ?_
  intro K9 hK9
  refine value_ (by rfl) rfl (x_assign (v := .bool false) rfl rfl) ?_
  refine hK9 _ _ ⟨hg2, hv2⟩ (fun _ => ?_)
  clear hK9 K9
  refine last_ (i := 4) (N := none) #[true, true, true, true, true] rfl rfl (by kernel_rfl) (by decide) ?_
  intro K9 hK9
  refine skip_ (by rfl) rfl (x_storeRow (t := 37) (cs := F37 b x y) rfl (by rw [put_ne _ _ _ _ (by decide)]; exact hA4) (by rw [put_ne _ _ _ _ (by decide)]; exact hAb) hv2 info37t rfl (by simp [F37, Value.oneCell'])) ?_
  refine hK9 _ _ ?_
  refine done_ (by kernel_rfl) ?_
  rw [← HA.out]
  exact hend

noncomputable def ops47_11 : Array Oper := (Tryz.f47.body.bind (findRegion 11)).getD #[]

set_option maxHeartbeats 4000000 in
set_option maxRecDepth 100000 in
theorem region47_11 {Q : Exit → Act → World → Prop} {a : Act} {w : World} {G V : Nat} {cs : Array Value}  {b : Bool} {x y : Int}
    (hQ : ∀ (d : Tmp) (v : Value) (c : List PanicEntry) (a : Act) (w : World), Q (.panic c) (a.put (some d) v) w → Q (.panic c) a w) (hsz : a.tmps.size = 106)
    (h2 : a.eval (.tmp 2) = .pointer (some ⟨G, 0, none⟩)) (h4 : a.eval (.tmp 4) = .pointer (some ⟨V, 0, none⟩)) 
    (hG : w.heap[G]? = some (.cells cs 107 (0, 0))) (hc : cs.size = 2) (h1 : cs.all (·.oneCell') = true) (hV : w.heap[V]? = some (.cells (F37 b x y) 37 (0, 0))) (hVG : V ≠ G)
    (hend : Q .normal (putAll (putAll a [(41, .agg cs), (42, .agg (F37 b x y))]) [(3, .bool false)]) ((w.drew.setRow G cs).setRow V (F37 b x y))) :
    (Code.region 11 ops47_11 true).wp Tryz.prog Q a w := by
  generalize ho2 : ops47_11 = ops
  conv at ho2 => lhs; whnf
  subst ho2
  refine start_ (n := 5) (S := fun w9 : World => w9.heap[G]? = some (.cells cs 107 (0, 0)) ∧ w9.heap[V]? = some (.cells (F37 b x y) 37 (0, 0))) (ds := [4]) #[false, false, false, false, false] (by kernel_rfl) rfl rfl ⟨hG, hV⟩ (fun hHeld => ?_)
  refine take_ (i := 0) (N := some 41) (v := .agg cs) #[true, false, false, false, false] rfl rfl (by kernel_rfl) (hQ 41 _) (y_of rfl fun w9 hs9 => x_load107 rfl (by simp (disch := first | decide | ((repeat rw [put_size]); rw [hsz]; decide)) only [h2]) hs9.1 hc) hHeld rfl ?_
  refine take_ (i := 1) (N := some 42) (v := .agg (F37 b x y)) #[true, true, false, false, false] rfl rfl (by kernel_rfl) (hQ 42 _) (y_of rfl fun w9 hs9 => x_load37 rfl (by simp (disch := first | decide | ((repeat rw [put_size]); rw [hsz]; decide)) only [put_ne, h4]) hs9.2 rfl) hHeld rfl ?_
  obtain ⟨A, hA⟩ : ∃ A, putAll a [(41, .agg cs), (42, .agg (F37 b x y))] = A := ⟨_, rfl⟩
  refine norm_ (a' := A) hA ?_
  have hAs : A.tmps.size = 106 := by rw [← hA]; simp only [putAll, put_size, hsz]
  have hA2 : A.eval (.tmp 2) = .pointer (some ⟨G, 0, none⟩) := by rw [← hA]; simp only [putAll]; simp (disch := first | decide | ((repeat rw [put_size]); rw [hsz]; decide)) only [put_ne, h2]
  have hA4 : A.eval (.tmp 4) = .pointer (some ⟨V, 0, none⟩) := by rw [← hA]; simp only [putAll]; simp (disch := first | decide | ((repeat rw [put_size]); rw [hsz]; decide)) only [put_ne, h4]
  have hAa : A.eval (.tmp 41) = .agg cs := by rw [← hA]; simp only [putAll]; simp (disch := first | decide | ((repeat rw [put_size]); rw [hsz]; decide)) only [put_ne, put_same]
  have hAb : A.eval (.tmp 42) = .agg (F37 b x y) := by rw [← hA]; exact put_same _ _ _ (by (repeat rw [put_size]); rw [hsz]; decide)
  have HA := hid hA
  clear hA
  refine one_ (i := 2) (N := none) #[true, true, true, false, false] rfl rfl (by kernel_rfl) (by decide) ?_
  intro K9 hK9
  refine skip_ (by rfl) rfl (x_storeRow (t := 107) (cs := cs) rfl hA2 hAa hG (by rw [hc]; exact info107s) rfl h1) ?_
  have hg2 : (w.drew.setRow G cs).heap[G]? = some (.cells cs 107 (0, 0)) := setRow_heap w.drew _ _ _ _ _ hG
  have hv2 : (w.drew.setRow G cs).heap[V]? = some (.cells (F37 b x y) 37 (0, 0)) := (setRow_other w.drew G V cs hVG).trans hV
  refine hK9 _ _ ⟨hg2, hv2⟩ (fun _ => ?_)
  clear hK9 K9
  refine one_ (i := 3) (N := some 3) #[true, true, true, true, false] rfl rfl (by kernel_rfl) (by decide) ?_
  intro K9 hK9
  refine value_ (by rfl) rfl (x_assign (v := .bool false) rfl rfl) ?_
  refine hK9 _ _ ⟨hg2, hv2⟩ (fun _ => ?_)
  clear hK9 K9
  refine last_ (i := 4) (N := none) #[true, true, true, true, true] rfl rfl (by kernel_rfl) (by decide) ?_
  intro K9 hK9
  refine skip_ (by rfl) rfl (x_storeRow (t := 37) (cs := F37 b x y) rfl (by rw [put_ne _ _ _ _ (by decide)]; exact hA4) (by rw [put_ne _ _ _ _ (by decide)]; exact hAb) hv2 info37t rfl (by simp [F37, Value.oneCell'])) ?_
  refine hK9 _ _ ?_
  refine done_ (by kernel_rfl) ?_
  rw [← HA.out]
  exact hend

noncomputable def ops47_18 : Array Oper := (Tryz.f47.body.bind (findRegion 18)).getD #[]

set_option maxHeartbeats 4000000 in
set_option maxRecDepth 100000 in
theorem region47_18 {Q : Exit → Act → World → Prop} {a : Act} {w : World} {G V : Nat} {cs : Array Value}  {b : Bool} {x y : Int}
    (hQ : ∀ (d : Tmp) (v : Value) (c : List PanicEntry) (a : Act) (w : World), Q (.panic c) (a.put (some d) v) w → Q (.panic c) a w) (hsz : a.tmps.size = 106)
    (h2 : a.eval (.tmp 2) = .pointer (some ⟨G, 0, none⟩)) (h4 : a.eval (.tmp 4) = .pointer (some ⟨V, 0, none⟩)) 
    (hG : w.heap[G]? = some (.cells cs 107 (0, 0))) (hc : cs.size = 2) (h1 : cs.all (·.oneCell') = true) (hV : w.heap[V]? = some (.cells (F37 b x y) 37 (0, 0))) (hVG : V ≠ G)
    (hend : Q .normal (putAll (putAll a [(83, .agg cs), (84, .agg (F37 b x y))]) [(3, .bool false)]) ((w.drew.setRow G cs).setRow V (F37 b x y))) :
    (Code.region 18 ops47_18 true).wp Tryz.prog Q a w := by
  generalize ho2 : ops47_18 = ops
  conv at ho2 => lhs; whnf
  subst ho2
  refine start_ (n := 5) (S := fun w9 : World => w9.heap[G]? = some (.cells cs 107 (0, 0)) ∧ w9.heap[V]? = some (.cells (F37 b x y) 37 (0, 0))) (ds := [4]) #[false, false, false, false, false] (by kernel_rfl) rfl rfl ⟨hG, hV⟩ (fun hHeld => ?_)
  refine take_ (i := 0) (N := some 83) (v := .agg cs) #[true, false, false, false, false] rfl rfl (by kernel_rfl) (hQ 83 _) (y_of rfl fun w9 hs9 => x_load107 rfl (by simp (disch := first | decide | ((repeat rw [put_size]); rw [hsz]; decide)) only [h2]) hs9.1 hc) hHeld rfl ?_
  refine take_ (i := 1) (N := some 84) (v := .agg (F37 b x y)) #[true, true, false, false, false] rfl rfl (by kernel_rfl) (hQ 84 _) (y_of rfl fun w9 hs9 => x_load37 rfl (by simp (disch := first | decide | ((repeat rw [put_size]); rw [hsz]; decide)) only [put_ne, h4]) hs9.2 rfl) hHeld rfl ?_
  obtain ⟨A, hA⟩ : ∃ A, putAll a [(83, .agg cs), (84, .agg (F37 b x y))] = A := ⟨_, rfl⟩
  refine norm_ (a' := A) hA ?_
  have hAs : A.tmps.size = 106 := by rw [← hA]; simp only [putAll, put_size, hsz]
  have hA2 : A.eval (.tmp 2) = .pointer (some ⟨G, 0, none⟩) := by rw [← hA]; simp only [putAll]; simp (disch := first | decide | ((repeat rw [put_size]); rw [hsz]; decide)) only [put_ne, h2]
  have hA4 : A.eval (.tmp 4) = .pointer (some ⟨V, 0, none⟩) := by rw [← hA]; simp only [putAll]; simp (disch := first | decide | ((repeat rw [put_size]); rw [hsz]; decide)) only [put_ne, h4]
  have hAa : A.eval (.tmp 83) = .agg cs := by rw [← hA]; simp only [putAll]; simp (disch := first | decide | ((repeat rw [put_size]); rw [hsz]; decide)) only [put_ne, put_same]
  have hAb : A.eval (.tmp 84) = .agg (F37 b x y) := by rw [← hA]; exact put_same _ _ _ (by (repeat rw [put_size]); rw [hsz]; decide)
  have HA := hid hA
  clear hA
  refine one_ (i := 2) (N := none) #[true, true, true, false, false] rfl rfl (by kernel_rfl) (by decide) ?_
  intro K9 hK9
  refine skip_ (by rfl) rfl (x_storeRow (t := 107) (cs := cs) rfl hA2 hAa hG (by rw [hc]; exact info107s) rfl h1) ?_
  have hg2 : (w.drew.setRow G cs).heap[G]? = some (.cells cs 107 (0, 0)) := setRow_heap w.drew _ _ _ _ _ hG
  have hv2 : (w.drew.setRow G cs).heap[V]? = some (.cells (F37 b x y) 37 (0, 0)) := (setRow_other w.drew G V cs hVG).trans hV
  refine hK9 _ _ ⟨hg2, hv2⟩ (fun _ => ?_)
  clear hK9 K9
  refine one_ (i := 3) (N := some 3) #[true, true, true, true, false] rfl rfl (by kernel_rfl) (by decide) ?_
  intro K9 hK9
  refine value_ (by rfl) rfl (x_assign (v := .bool false) rfl rfl) ?_
  refine hK9 _ _ ⟨hg2, hv2⟩ (fun _ => ?_)
  clear hK9 K9
  refine last_ (i := 4) (N := none) #[true, true, true, true, true] rfl rfl (by kernel_rfl) (by decide) ?_
  intro K9 hK9
  refine skip_ (by rfl) rfl (x_storeRow (t := 37) (cs := F37 b x y) rfl (by rw [put_ne _ _ _ _ (by decide)]; exact hA4) (by rw [put_ne _ _ _ _ (by decide)]; exact hAb) hv2 info37t rfl (by simp [F37, Value.oneCell'])) ?_
  refine hK9 _ _ ?_
  refine done_ (by kernel_rfl) ?_
  rw [← HA.out]
  exact hend

noncomputable def ops47_25 : Array Oper := (Tryz.f47.body.bind (findRegion 25)).getD #[]

set_option maxHeartbeats 4000000 in
set_option maxRecDepth 100000 in
theorem region47_25 {Q : Exit → Act → World → Prop} {a : Act} {w : World} {G V : Nat} {cs : Array Value}  {b : Bool} {x y : Int}
    (hQ : ∀ (d : Tmp) (v : Value) (c : List PanicEntry) (a : Act) (w : World), Q (.panic c) (a.put (some d) v) w → Q (.panic c) a w) (hsz : a.tmps.size = 106)
    (h2 : a.eval (.tmp 2) = .pointer (some ⟨G, 0, none⟩)) (h4 : a.eval (.tmp 4) = .pointer (some ⟨V, 0, none⟩)) 
    (hG : w.heap[G]? = some (.cells cs 107 (0, 0))) (hc : cs.size = 2) (h1 : cs.all (·.oneCell') = true) (hV : w.heap[V]? = some (.cells (F37 b x y) 37 (0, 0))) (hVG : V ≠ G)
    (hend : Q .normal (putAll (putAll a [(100, .agg cs), (101, .agg (F37 b x y))]) [(3, .bool false)]) ((w.drew.setRow G cs).setRow V (F37 b x y))) :
    (Code.region 25 ops47_25 true).wp Tryz.prog Q a w := by
  generalize ho2 : ops47_25 = ops
  conv at ho2 => lhs; whnf
  subst ho2
  refine start_ (n := 5) (S := fun w9 : World => w9.heap[G]? = some (.cells cs 107 (0, 0)) ∧ w9.heap[V]? = some (.cells (F37 b x y) 37 (0, 0))) (ds := [4]) #[false, false, false, false, false] (by kernel_rfl) rfl rfl ⟨hG, hV⟩ (fun hHeld => ?_)
  refine take_ (i := 0) (N := some 100) (v := .agg cs) #[true, false, false, false, false] rfl rfl (by kernel_rfl) (hQ 100 _) (y_of rfl fun w9 hs9 => x_load107 rfl (by simp (disch := first | decide | ((repeat rw [put_size]); rw [hsz]; decide)) only [h2]) hs9.1 hc) hHeld rfl ?_
  refine take_ (i := 1) (N := some 101) (v := .agg (F37 b x y)) #[true, true, false, false, false] rfl rfl (by kernel_rfl) (hQ 101 _) (y_of rfl fun w9 hs9 => x_load37 rfl (by simp (disch := first | decide | ((repeat rw [put_size]); rw [hsz]; decide)) only [put_ne, h4]) hs9.2 rfl) hHeld rfl ?_
  obtain ⟨A, hA⟩ : ∃ A, putAll a [(100, .agg cs), (101, .agg (F37 b x y))] = A := ⟨_, rfl⟩
  refine norm_ (a' := A) hA ?_
  have hAs : A.tmps.size = 106 := by rw [← hA]; simp only [putAll, put_size, hsz]
  have hA2 : A.eval (.tmp 2) = .pointer (some ⟨G, 0, none⟩) := by rw [← hA]; simp only [putAll]; simp (disch := first | decide | ((repeat rw [put_size]); rw [hsz]; decide)) only [put_ne, h2]
  have hA4 : A.eval (.tmp 4) = .pointer (some ⟨V, 0, none⟩) := by rw [← hA]; simp only [putAll]; simp (disch := first | decide | ((repeat rw [put_size]); rw [hsz]; decide)) only [put_ne, h4]
  have hAa : A.eval (.tmp 100) = .agg cs := by rw [← hA]; simp only [putAll]; simp (disch := first | decide | ((repeat rw [put_size]); rw [hsz]; decide)) only [put_ne, put_same]
  have hAb : A.eval (.tmp 101) = .agg (F37 b x y) := by rw [← hA]; exact put_same _ _ _ (by (repeat rw [put_size]); rw [hsz]; decide)
  have HA := hid hA
  clear hA
  refine one_ (i := 2) (N := none) #[true, true, true, false, false] rfl rfl (by kernel_rfl) (by decide) ?_
  intro K9 hK9
  refine skip_ (by rfl) rfl (x_storeRow (t := 107) (cs := cs) rfl hA2 hAa hG (by rw [hc]; exact info107s) rfl h1) ?_
  have hg2 : (w.drew.setRow G cs).heap[G]? = some (.cells cs 107 (0, 0)) := setRow_heap w.drew _ _ _ _ _ hG
  have hv2 : (w.drew.setRow G cs).heap[V]? = some (.cells (F37 b x y) 37 (0, 0)) := (setRow_other w.drew G V cs hVG).trans hV
  refine hK9 _ _ ⟨hg2, hv2⟩ (fun _ => ?_)
  clear hK9 K9
  refine one_ (i := 3) (N := some 3) #[true, true, true, true, false] rfl rfl (by kernel_rfl) (by decide) ?_
  intro K9 hK9
  refine value_ (by rfl) rfl (x_assign (v := .bool false) rfl rfl) ?_
  refine hK9 _ _ ⟨hg2, hv2⟩ (fun _ => ?_)
  clear hK9 K9
  refine last_ (i := 4) (N := none) #[true, true, true, true, true] rfl rfl (by kernel_rfl) (by decide) ?_
  intro K9 hK9
  refine skip_ (by rfl) rfl (x_storeRow (t := 37) (cs := F37 b x y) rfl (by rw [put_ne _ _ _ _ (by decide)]; exact hA4) (by rw [put_ne _ _ _ _ (by decide)]; exact hAb) hv2 info37t rfl (by simp [F37, Value.oneCell'])) ?_
  refine hK9 _ _ ?_
  refine done_ (by kernel_rfl) ?_
  rw [← HA.out]
  exact hend

noncomputable def ops47_26 : Array Oper := (Tryz.f47.body.bind (findRegion 26)).getD #[]

set_option maxHeartbeats 4000000 in
set_option maxRecDepth 100000 in
theorem region47_26 {Q : Exit → Act → World → Prop} {a : Act} {w : World} {G V : Nat} {old : Array Value} {u0 u1 : ByteArray} {b : Bool} {x y : Int}
    (hQ : ∀ (d : Tmp) (v : Value) (c : List PanicEntry) (a : Act) (w : World), Q (.panic c) (a.put (some d) v) w → Q (.panic c) a w) (hsz : a.tmps.size = 106)
    (h2 : a.eval (.tmp 2) = .pointer (some ⟨G, 0, none⟩)) (h4 : a.eval (.tmp 4) = .pointer (some ⟨V, 0, none⟩)) (h6 : a.eval (.tmp 6) = .string u0) (h7 : a.eval (.tmp 7) = .string u1) 
    (hG : w.heap[G]? = some (.cells old 107 (0, 0))) (ho : old.size = 2) (hV : w.heap[V]? = some (.cells (F37 b x y) 37 (0, 0))) (hVG : V ≠ G)
    (hend : Q .normal (putAll (putAll a [(102, .string u0), (103, .string u1), (104, .agg #[.string u0, .string u1]), (105, .agg (F37 b x y))]) [(3, .bool true)]) ((w.drew.setRow G #[.string u0, .string u1]).setRow V (F37 b x y))) :
    (Code.region 26 ops47_26 true).wp Tryz.prog Q a w := by
  generalize ho2 : ops47_26 = ops
  conv at ho2 => lhs; whnf
  subst ho2
  refine start_ (n := 7) (S := fun w9 : World => (∃ o9, w9.heap[G]? = some (.cells o9 107 (0, 0))) ∧ w9.heap[V]? = some (.cells (F37 b x y) 37 (0, 0))) (ds := [6]) #[false, false, false, false, false, false, false] (by kernel_rfl) rfl rfl ⟨⟨_, hG⟩, hV⟩ (fun hHeld => ?_)
  refine take_ (i := 0) (N := some 102) (v := .string u0) #[true, false, false, false, false, false, false] rfl rfl (by kernel_rfl) (hQ 102 _) (y_of rfl fun w9 hs9 => x_move rfl (by simp (disch := first | decide | ((repeat rw [put_size]); rw [hsz]; decide)) only [h6])) hHeld rfl ?_
  refine take_ (i := 1) (N := some 103) (v := .string u1) #[true, true, false, false, false, false, false] rfl rfl (by kernel_rfl) (hQ 103 _) (y_of rfl fun w9 hs9 => x_move rfl (by simp (disch := first | decide | ((repeat rw [put_size]); rw [hsz]; decide)) only [put_ne, h7])) hHeld rfl ?_
  refine take_ (i := 2) (N := some 104) (v := .agg #[.string u0, .string u1]) #[true, true, true, false, false, false, false] rfl rfl (by kernel_rfl) (hQ 104 _) (y_of rfl fun w9 hs9 => xs_build rfl ?hbb) hHeld rfl ?_
  case hbb =>
    simp only [List.map_toArray, List.map_cons, List.map_nil]
    rw [show (Act.put (Act.put a (some 102) (.string u0)) (some 103) (.string u1)).eval (.tmp 102) = .string u0 by simp (disch := first | decide | ((repeat rw [put_size]); rw [hsz]; decide)) only [put_ne, put_same], show (Act.put (Act.put a (some 102) (.string u0)) (some 103) (.string u1)).eval (.tmp 103) = .string u1 by exact put_same _ _ _ (by rw [put_size, hsz]; decide)]
    kernel_rfl
  refine take_ (i := 3) (N := some 105) (v := .agg (F37 b x y)) #[true, true, true, true, false, false, false] rfl rfl (by kernel_rfl) (hQ 105 _) (y_of rfl fun w9 hs9 => x_load37 rfl (by simp (disch := first | decide | ((repeat rw [put_size]); rw [hsz]; decide)) only [put_ne, h4]) hs9.2 rfl) hHeld rfl ?_
  obtain ⟨A, hA⟩ : ∃ A, putAll a [(102, .string u0), (103, .string u1), (104, .agg #[.string u0, .string u1]), (105, .agg (F37 b x y))] = A := ⟨_, rfl⟩
  refine norm_ (a' := A) hA ?_
  have hAs : A.tmps.size = 106 := by rw [← hA]; simp only [putAll, put_size, hsz]
  have hA2 : A.eval (.tmp 2) = .pointer (some ⟨G, 0, none⟩) := by rw [← hA]; simp only [putAll]; simp (disch := first | decide | ((repeat rw [put_size]); rw [hsz]; decide)) only [put_ne, h2]
  have hA4 : A.eval (.tmp 4) = .pointer (some ⟨V, 0, none⟩) := by rw [← hA]; simp only [putAll]; simp (disch := first | decide | ((repeat rw [put_size]); rw [hsz]; decide)) only [put_ne, h4]
  have hAa : A.eval (.tmp 104) = .agg #[.string u0, .string u1] := by rw [← hA]; simp only [putAll]; simp (disch := first | decide | ((repeat rw [put_size]); rw [hsz]; decide)) only [put_ne, put_same]
  have hAb : A.eval (.tmp 105) = .agg (F37 b x y) := by rw [← hA]; exact put_same _ _ _ (by (repeat rw [put_size]); rw [hsz]; decide)
  have HA := hid hA
  clear hA
  refine one_ (i := 4) (N := none) #[true, true, true, true, true, false, false] rfl rfl (by kernel_rfl) (by decide) ?_
  intro K9 hK9
  refine skip_ (by rfl) rfl (x_storeRow (t := 107) (cs := #[.string u0, .string u1]) rfl hA2 hAa hG info107s ho (by simp [Value.oneCell'])) ?_
  have hg2 : (w.drew.setRow G #[.string u0, .string u1]).heap[G]? = some (.cells #[.string u0, .string u1] 107 (0, 0)) := setRow_heap w.drew _ _ _ _ _ hG
  have hv2 : (w.drew.setRow G #[.string u0, .string u1]).heap[V]? = some (.cells (F37 b x y) 37 (0, 0)) := (setRow_other w.drew G V #[.string u0, .string u1] hVG).trans hV
  refine hK9 _ _ ⟨⟨_, hg2⟩, hv2⟩ (fun _ => ?_)
  clear hK9 K9
  refine one_ (i := 5) (N := some 3) #[true, true, true, true, true, true, false] rfl rfl (by kernel_rfl) (by decide) ?_
  intro K9 hK9
  refine value_ (by rfl) rfl (x_assign (v := .bool true) rfl rfl) ?_
  refine hK9 _ _ ⟨⟨_, hg2⟩, hv2⟩ (fun _ => ?_)
  clear hK9 K9
  refine last_ (i := 6) (N := none) #[true, true, true, true, true, true, true] rfl rfl (by kernel_rfl) (by decide) ?_
  intro K9 hK9
  refine skip_ (by rfl) rfl (x_storeRow (t := 37) (cs := F37 b x y) rfl (by rw [put_ne _ _ _ _ (by decide)]; exact hA4) (by rw [put_ne _ _ _ _ (by decide)]; exact hAb) hv2 info37t rfl (by simp [F37, Value.oneCell'])) ?_
  refine hK9 _ _ ?_
  refine done_ (by kernel_rfl) ?_
  rw [← HA.out]
  exact hend

noncomputable def ops48_3 : Array Oper := (Tryz.f48.body.bind (findRegion 3)).getD #[]

set_option maxHeartbeats 4000000 in
set_option maxRecDepth 100000 in
theorem region48_3 {Q : Exit → Act → World → Prop} {a : Act} {w : World} {G V : Nat} {cs : Array Value}  {b : Bool} {x y : Int}
    (hQ : ∀ (d : Tmp) (v : Value) (c : List PanicEntry) (a : Act) (w : World), Q (.panic c) (a.put (some d) v) w → Q (.panic c) a w) (hsz : a.tmps.size = 265)
    (h2 : a.eval (.tmp 2) = .pointer (some ⟨G, 0, none⟩)) (h4 : a.eval (.tmp 4) = .pointer (some ⟨V, 0, none⟩)) 
    (hG : w.heap[G]? = some (.cells cs 50 (0, 0))) (hc : cs.size = 3) (h1 : cs.all (·.oneCell') = true) (hV : w.heap[V]? = some (.cells (F37 b x y) 37 (0, 0))) (hVG : V ≠ G)
    (hend : Q .normal (putAll (putAll a [(22, .agg cs), (23, .agg (F37 b x y))]) [(3, .bool false)]) ((w.drew.setRow G cs).setRow V (F37 b x y))) :
    (Code.region 3 ops48_3 true).wp Tryz.prog Q a w := by
  generalize ho2 : ops48_3 = ops
  conv at ho2 => lhs; whnf
  subst ho2
  refine start_ (n := 5) (S := fun w9 : World => w9.heap[G]? = some (.cells cs 50 (0, 0)) ∧ w9.heap[V]? = some (.cells (F37 b x y) 37 (0, 0))) (ds := [4]) #[false, false, false, false, false] (by kernel_rfl) rfl rfl ⟨hG, hV⟩ (fun hHeld => ?_)
  refine take_ (i := 0) (N := some 22) (v := .agg cs) #[true, false, false, false, false] rfl rfl (by kernel_rfl) (hQ 22 _) (y_of rfl fun w9 hs9 => x_load50 rfl (by simp (disch := first | decide | ((repeat rw [put_size]); rw [hsz]; decide)) only [h2]) hs9.1 hc) hHeld rfl ?_
  refine take_ (i := 1) (N := some 23) (v := .agg (F37 b x y)) #[true, true, false, false, false] rfl rfl (by kernel_rfl) (hQ 23 _) (y_of rfl fun w9 hs9 => x_load37 rfl (by simp (disch := first | decide | ((repeat rw [put_size]); rw [hsz]; decide)) only [put_ne, h4]) hs9.2 rfl) hHeld rfl ?_
  obtain ⟨A, hA⟩ : ∃ A, putAll a [(22, .agg cs), (23, .agg (F37 b x y))] = A := ⟨_, rfl⟩
  refine norm_ (a' := A) hA ?_
  have hAs : A.tmps.size = 265 := by rw [← hA]; simp only [putAll, put_size, hsz]
  have hA2 : A.eval (.tmp 2) = .pointer (some ⟨G, 0, none⟩) := by rw [← hA]; simp only [putAll]; simp (disch := first | decide | ((repeat rw [put_size]); rw [hsz]; decide)) only [put_ne, h2]
  have hA4 : A.eval (.tmp 4) = .pointer (some ⟨V, 0, none⟩) := by rw [← hA]; simp only [putAll]; simp (disch := first | decide | ((repeat rw [put_size]); rw [hsz]; decide)) only [put_ne, h4]
  have hAa : A.eval (.tmp 22) = .agg cs := by rw [← hA]; simp only [putAll]; simp (disch := first | decide | ((repeat rw [put_size]); rw [hsz]; decide)) only [put_ne, put_same]
  have hAb : A.eval (.tmp 23) = .agg (F37 b x y) := by rw [← hA]; exact put_same _ _ _ (by (repeat rw [put_size]); rw [hsz]; decide)
  have HA := hid hA
  clear hA
  refine one_ (i := 2) (N := none) #[true, true, true, false, false] rfl rfl (by kernel_rfl) (by decide) ?_
  intro K9 hK9
  refine skip_ (by rfl) rfl (x_storeRow (t := 50) (cs := cs) rfl hA2 hAa hG (by rw [hc]; exact info50s) rfl h1) ?_
  have hg2 : (w.drew.setRow G cs).heap[G]? = some (.cells cs 50 (0, 0)) := setRow_heap w.drew _ _ _ _ _ hG
  have hv2 : (w.drew.setRow G cs).heap[V]? = some (.cells (F37 b x y) 37 (0, 0)) := (setRow_other w.drew G V cs hVG).trans hV
  refine hK9 _ _ ⟨hg2, hv2⟩ (fun _ => ?_)
  clear hK9 K9
  refine one_ (i := 3) (N := some 3) #[true, true, true, true, false] rfl rfl (by kernel_rfl) (by decide) ?_
  intro K9 hK9
  refine value_ (by rfl) rfl (x_assign (v := .bool false) rfl rfl) ?_
  refine hK9 _ _ ⟨hg2, hv2⟩ (fun _ => ?_)
  clear hK9 K9
  refine last_ (i := 4) (N := none) #[true, true, true, true, true] rfl rfl (by kernel_rfl) (by decide) ?_
  intro K9 hK9
  refine skip_ (by rfl) rfl (x_storeRow (t := 37) (cs := F37 b x y) rfl (by rw [put_ne _ _ _ _ (by decide)]; exact hA4) (by rw [put_ne _ _ _ _ (by decide)]; exact hAb) hv2 info37t rfl (by simp [F37, Value.oneCell'])) ?_
  refine hK9 _ _ ?_
  refine done_ (by kernel_rfl) ?_
  rw [← HA.out]
  exact hend

noncomputable def ops48_49 : Array Oper := (Tryz.f48.body.bind (findRegion 49)).getD #[]

set_option maxHeartbeats 4000000 in
set_option maxRecDepth 100000 in
theorem region48_49 {Q : Exit → Act → World → Prop} {a : Act} {w : World} {G V : Nat} {cs : Array Value}  {b : Bool} {x y : Int}
    (hQ : ∀ (d : Tmp) (v : Value) (c : List PanicEntry) (a : Act) (w : World), Q (.panic c) (a.put (some d) v) w → Q (.panic c) a w) (hsz : a.tmps.size = 265)
    (h2 : a.eval (.tmp 2) = .pointer (some ⟨G, 0, none⟩)) (h4 : a.eval (.tmp 4) = .pointer (some ⟨V, 0, none⟩)) 
    (hG : w.heap[G]? = some (.cells cs 50 (0, 0))) (hc : cs.size = 3) (h1 : cs.all (·.oneCell') = true) (hV : w.heap[V]? = some (.cells (F37 b x y) 37 (0, 0))) (hVG : V ≠ G)
    (hend : Q .normal (putAll (putAll a [(263, .agg cs), (264, .agg (F37 b x y))]) [(3, .bool true)]) ((w.drew.setRow G cs).setRow V (F37 b x y))) :
    (Code.region 49 ops48_49 true).wp Tryz.prog Q a w := by
  generalize ho2 : ops48_49 = ops
  conv at ho2 => lhs; whnf
  subst ho2
  refine start_ (n := 5) (S := fun w9 : World => w9.heap[G]? = some (.cells cs 50 (0, 0)) ∧ w9.heap[V]? = some (.cells (F37 b x y) 37 (0, 0))) (ds := [4]) #[false, false, false, false, false] (by kernel_rfl) rfl rfl ⟨hG, hV⟩ (fun hHeld => ?_)
  refine take_ (i := 0) (N := some 263) (v := .agg cs) #[true, false, false, false, false] rfl rfl (by kernel_rfl) (hQ 263 _) (y_of rfl fun w9 hs9 => x_load50 rfl (by simp (disch := first | decide | ((repeat rw [put_size]); rw [hsz]; decide)) only [h2]) hs9.1 hc) hHeld rfl ?_
  refine take_ (i := 1) (N := some 264) (v := .agg (F37 b x y)) #[true, true, false, false, false] rfl rfl (by kernel_rfl) (hQ 264 _) (y_of rfl fun w9 hs9 => x_load37 rfl (by simp (disch := first | decide | ((repeat rw [put_size]); rw [hsz]; decide)) only [put_ne, h4]) hs9.2 rfl) hHeld rfl ?_
  obtain ⟨A, hA⟩ : ∃ A, putAll a [(263, .agg cs), (264, .agg (F37 b x y))] = A := ⟨_, rfl⟩
  refine norm_ (a' := A) hA ?_
  have hAs : A.tmps.size = 265 := by rw [← hA]; simp only [putAll, put_size, hsz]
  have hA2 : A.eval (.tmp 2) = .pointer (some ⟨G, 0, none⟩) := by rw [← hA]; simp only [putAll]; simp (disch := first | decide | ((repeat rw [put_size]); rw [hsz]; decide)) only [put_ne, h2]
  have hA4 : A.eval (.tmp 4) = .pointer (some ⟨V, 0, none⟩) := by rw [← hA]; simp only [putAll]; simp (disch := first | decide | ((repeat rw [put_size]); rw [hsz]; decide)) only [put_ne, h4]
  have hAa : A.eval (.tmp 263) = .agg cs := by rw [← hA]; simp only [putAll]; simp (disch := first | decide | ((repeat rw [put_size]); rw [hsz]; decide)) only [put_ne, put_same]
  have hAb : A.eval (.tmp 264) = .agg (F37 b x y) := by rw [← hA]; exact put_same _ _ _ (by (repeat rw [put_size]); rw [hsz]; decide)
  have HA := hid hA
  clear hA
  refine one_ (i := 2) (N := none) #[true, true, true, false, false] rfl rfl (by kernel_rfl) (by decide) ?_
  intro K9 hK9
  refine skip_ (by rfl) rfl (x_storeRow (t := 50) (cs := cs) rfl hA2 hAa hG (by rw [hc]; exact info50s) rfl h1) ?_
  have hg2 : (w.drew.setRow G cs).heap[G]? = some (.cells cs 50 (0, 0)) := setRow_heap w.drew _ _ _ _ _ hG
  have hv2 : (w.drew.setRow G cs).heap[V]? = some (.cells (F37 b x y) 37 (0, 0)) := (setRow_other w.drew G V cs hVG).trans hV
  refine hK9 _ _ ⟨hg2, hv2⟩ (fun _ => ?_)
  clear hK9 K9
  refine one_ (i := 3) (N := some 3) #[true, true, true, true, false] rfl rfl (by kernel_rfl) (by decide) ?_
  intro K9 hK9
  refine value_ (by rfl) rfl (x_assign (v := .bool true) rfl rfl) ?_
  refine hK9 _ _ ⟨hg2, hv2⟩ (fun _ => ?_)
  clear hK9 K9
  refine last_ (i := 4) (N := none) #[true, true, true, true, true] rfl rfl (by kernel_rfl) (by decide) ?_
  intro K9 hK9
  refine skip_ (by rfl) rfl (x_storeRow (t := 37) (cs := F37 b x y) rfl (by rw [put_ne _ _ _ _ (by decide)]; exact hA4) (by rw [put_ne _ _ _ _ (by decide)]; exact hAb) hv2 info37t rfl (by simp [F37, Value.oneCell'])) ?_
  refine hK9 _ _ ?_
  refine done_ (by kernel_rfl) ?_
  rw [← HA.out]
  exact hend

noncomputable def ops48_7 : Array Oper := (Tryz.f48.body.bind (findRegion 7)).getD #[]

set_option maxHeartbeats 4000000 in
set_option maxRecDepth 100000 in
theorem region48_7 {Q : Exit → Act → World → Prop} {a : Act} {w : World} {G V : Nat} {old : Array Value}  {b : Bool} {x y : Int}
    (hQ : ∀ (d : Tmp) (v : Value) (c : List PanicEntry) (a : Act) (w : World), Q (.panic c) (a.put (some d) v) w → Q (.panic c) a w) (hsz : a.tmps.size = 265)
    (h2 : a.eval (.tmp 2) = .pointer (some ⟨G, 0, none⟩)) (h4 : a.eval (.tmp 4) = .pointer (some ⟨V, 0, none⟩)) 
    (hG : w.heap[G]? = some (.cells old 50 (0, 0))) (ho : old.size = 3) (hV : w.heap[V]? = some (.cells (F37 b x y) 37 (0, 0))) (hVG : V ≠ G)
    (hend : Q .normal (putAll (putAll a [(36, .agg #[.string ⟨#[]⟩, .int .i64 0, .string ⟨#[]⟩]), (37, .agg (F37 b x y))]) [(3, .bool false)]) ((w.drew.setRow G #[.string ⟨#[]⟩, .int .i64 0, .string ⟨#[]⟩]).setRow V (F37 b x y))) :
    (Code.region 7 ops48_7 true).wp Tryz.prog Q a w := by
  generalize ho2 : ops48_7 = ops
  conv at ho2 => lhs; whnf
  subst ho2
  refine start_ (n := 5) (S := fun w9 : World => (∃ o9, w9.heap[G]? = some (.cells o9 50 (0, 0))) ∧ w9.heap[V]? = some (.cells (F37 b x y) 37 (0, 0))) (ds := [4]) #[false, false, false, false, false] (by kernel_rfl) rfl rfl ⟨⟨_, hG⟩, hV⟩ (fun hHeld => ?_)
  refine take_ (i := 0) (N := some 36) (v := .agg #[.string ⟨#[]⟩, .int .i64 0, .string ⟨#[]⟩]) #[true, false, false, false, false] rfl rfl (by kernel_rfl) (hQ 36 _) (y_of rfl fun w9 hs9 => xs_build rfl (by kernel_rfl)) hHeld rfl ?_
  refine take_ (i := 1) (N := some 37) (v := .agg (F37 b x y)) #[true, true, false, false, false] rfl rfl (by kernel_rfl) (hQ 37 _) (y_of rfl fun w9 hs9 => x_load37 rfl (by simp (disch := first | decide | ((repeat rw [put_size]); rw [hsz]; decide)) only [put_ne, h4]) hs9.2 rfl) hHeld rfl ?_
  obtain ⟨A, hA⟩ : ∃ A, putAll a [(36, .agg #[.string ⟨#[]⟩, .int .i64 0, .string ⟨#[]⟩]), (37, .agg (F37 b x y))] = A := ⟨_, rfl⟩
  refine norm_ (a' := A) hA ?_
  have hAs : A.tmps.size = 265 := by rw [← hA]; simp only [putAll, put_size, hsz]
  have hA2 : A.eval (.tmp 2) = .pointer (some ⟨G, 0, none⟩) := by rw [← hA]; simp only [putAll]; simp (disch := first | decide | ((repeat rw [put_size]); rw [hsz]; decide)) only [put_ne, h2]
  have hA4 : A.eval (.tmp 4) = .pointer (some ⟨V, 0, none⟩) := by rw [← hA]; simp only [putAll]; simp (disch := first | decide | ((repeat rw [put_size]); rw [hsz]; decide)) only [put_ne, h4]
  have hAa : A.eval (.tmp 36) = .agg #[.string ⟨#[]⟩, .int .i64 0, .string ⟨#[]⟩] := by rw [← hA]; simp only [putAll]; simp (disch := first | decide | ((repeat rw [put_size]); rw [hsz]; decide)) only [put_ne, put_same]
  have hAb : A.eval (.tmp 37) = .agg (F37 b x y) := by rw [← hA]; exact put_same _ _ _ (by (repeat rw [put_size]); rw [hsz]; decide)
  have HA := hid hA
  clear hA
  refine one_ (i := 2) (N := none) #[true, true, true, false, false] rfl rfl (by kernel_rfl) (by decide) ?_
  intro K9 hK9
  refine skip_ (by rfl) rfl (x_storeRow (t := 50) (cs := #[.string ⟨#[]⟩, .int .i64 0, .string ⟨#[]⟩]) rfl hA2 hAa hG info50s ho (by simp [Value.oneCell'])) ?_
  have hg2 : (w.drew.setRow G #[.string ⟨#[]⟩, .int .i64 0, .string ⟨#[]⟩]).heap[G]? = some (.cells #[.string ⟨#[]⟩, .int .i64 0, .string ⟨#[]⟩] 50 (0, 0)) := setRow_heap w.drew _ _ _ _ _ hG
  have hv2 : (w.drew.setRow G #[.string ⟨#[]⟩, .int .i64 0, .string ⟨#[]⟩]).heap[V]? = some (.cells (F37 b x y) 37 (0, 0)) := (setRow_other w.drew G V #[.string ⟨#[]⟩, .int .i64 0, .string ⟨#[]⟩] hVG).trans hV
  refine hK9 _ _ ⟨⟨_, hg2⟩, hv2⟩ (fun _ => ?_)
  clear hK9 K9
  refine one_ (i := 3) (N := some 3) #[true, true, true, true, false] rfl rfl (by kernel_rfl) (by decide) ?_
  intro K9 hK9
  refine value_ (by rfl) rfl (x_assign (v := .bool false) rfl rfl) ?_
  refine hK9 _ _ ⟨⟨_, hg2⟩, hv2⟩ (fun _ => ?_)
  clear hK9 K9
  refine last_ (i := 4) (N := none) #[true, true, true, true, true] rfl rfl (by kernel_rfl) (by decide) ?_
  intro K9 hK9
  refine skip_ (by rfl) rfl (x_storeRow (t := 37) (cs := F37 b x y) rfl (by rw [put_ne _ _ _ _ (by decide)]; exact hA4) (by rw [put_ne _ _ _ _ (by decide)]; exact hAb) hv2 info37t rfl (by simp [F37, Value.oneCell'])) ?_
  refine hK9 _ _ ?_
  refine done_ (by kernel_rfl) ?_
  rw [← HA.out]
  exact hend

noncomputable def ops48_23 : Array Oper := (Tryz.f48.body.bind (findRegion 23)).getD #[]

set_option maxHeartbeats 4000000 in
set_option maxRecDepth 100000 in
theorem region48_23 {Q : Exit → Act → World → Prop} {a : Act} {w : World} {G V : Nat} {old : Array Value}  {b : Bool} {x y : Int}
    (hQ : ∀ (d : Tmp) (v : Value) (c : List PanicEntry) (a : Act) (w : World), Q (.panic c) (a.put (some d) v) w → Q (.panic c) a w) (hsz : a.tmps.size = 265)
    (h2 : a.eval (.tmp 2) = .pointer (some ⟨G, 0, none⟩)) (h4 : a.eval (.tmp 4) = .pointer (some ⟨V, 0, none⟩)) 
    (hG : w.heap[G]? = some (.cells old 50 (0, 0))) (ho : old.size = 3) (hV : w.heap[V]? = some (.cells (F37 b x y) 37 (0, 0))) (hVG : V ≠ G)
    (hend : Q .normal (putAll (putAll a [(121, .agg #[.string ⟨#[]⟩, .int .i64 0, .string ⟨#[]⟩]), (122, .agg (F37 b x y))]) [(3, .bool false)]) ((w.drew.setRow G #[.string ⟨#[]⟩, .int .i64 0, .string ⟨#[]⟩]).setRow V (F37 b x y))) :
    (Code.region 23 ops48_23 true).wp Tryz.prog Q a w := by
  generalize ho2 : ops48_23 = ops
  conv at ho2 => lhs; whnf
  subst ho2
  refine start_ (n := 5) (S := fun w9 : World => (∃ o9, w9.heap[G]? = some (.cells o9 50 (0, 0))) ∧ w9.heap[V]? = some (.cells (F37 b x y) 37 (0, 0))) (ds := [4]) #[false, false, false, false, false] (by kernel_rfl) rfl rfl ⟨⟨_, hG⟩, hV⟩ (fun hHeld => ?_)
  refine take_ (i := 0) (N := some 121) (v := .agg #[.string ⟨#[]⟩, .int .i64 0, .string ⟨#[]⟩]) #[true, false, false, false, false] rfl rfl (by kernel_rfl) (hQ 121 _) (y_of rfl fun w9 hs9 => xs_build rfl (by kernel_rfl)) hHeld rfl ?_
  refine take_ (i := 1) (N := some 122) (v := .agg (F37 b x y)) #[true, true, false, false, false] rfl rfl (by kernel_rfl) (hQ 122 _) (y_of rfl fun w9 hs9 => x_load37 rfl (by simp (disch := first | decide | ((repeat rw [put_size]); rw [hsz]; decide)) only [put_ne, h4]) hs9.2 rfl) hHeld rfl ?_
  obtain ⟨A, hA⟩ : ∃ A, putAll a [(121, .agg #[.string ⟨#[]⟩, .int .i64 0, .string ⟨#[]⟩]), (122, .agg (F37 b x y))] = A := ⟨_, rfl⟩
  refine norm_ (a' := A) hA ?_
  have hAs : A.tmps.size = 265 := by rw [← hA]; simp only [putAll, put_size, hsz]
  have hA2 : A.eval (.tmp 2) = .pointer (some ⟨G, 0, none⟩) := by rw [← hA]; simp only [putAll]; simp (disch := first | decide | ((repeat rw [put_size]); rw [hsz]; decide)) only [put_ne, h2]
  have hA4 : A.eval (.tmp 4) = .pointer (some ⟨V, 0, none⟩) := by rw [← hA]; simp only [putAll]; simp (disch := first | decide | ((repeat rw [put_size]); rw [hsz]; decide)) only [put_ne, h4]
  have hAa : A.eval (.tmp 121) = .agg #[.string ⟨#[]⟩, .int .i64 0, .string ⟨#[]⟩] := by rw [← hA]; simp only [putAll]; simp (disch := first | decide | ((repeat rw [put_size]); rw [hsz]; decide)) only [put_ne, put_same]
  have hAb : A.eval (.tmp 122) = .agg (F37 b x y) := by rw [← hA]; exact put_same _ _ _ (by (repeat rw [put_size]); rw [hsz]; decide)
  have HA := hid hA
  clear hA
  refine one_ (i := 2) (N := none) #[true, true, true, false, false] rfl rfl (by kernel_rfl) (by decide) ?_
  intro K9 hK9
  refine skip_ (by rfl) rfl (x_storeRow (t := 50) (cs := #[.string ⟨#[]⟩, .int .i64 0, .string ⟨#[]⟩]) rfl hA2 hAa hG info50s ho (by simp [Value.oneCell'])) ?_
  have hg2 : (w.drew.setRow G #[.string ⟨#[]⟩, .int .i64 0, .string ⟨#[]⟩]).heap[G]? = some (.cells #[.string ⟨#[]⟩, .int .i64 0, .string ⟨#[]⟩] 50 (0, 0)) := setRow_heap w.drew _ _ _ _ _ hG
  have hv2 : (w.drew.setRow G #[.string ⟨#[]⟩, .int .i64 0, .string ⟨#[]⟩]).heap[V]? = some (.cells (F37 b x y) 37 (0, 0)) := (setRow_other w.drew G V #[.string ⟨#[]⟩, .int .i64 0, .string ⟨#[]⟩] hVG).trans hV
  refine hK9 _ _ ⟨⟨_, hg2⟩, hv2⟩ (fun _ => ?_)
  clear hK9 K9
  refine one_ (i := 3) (N := some 3) #[true, true, true, true, false] rfl rfl (by kernel_rfl) (by decide) ?_
  intro K9 hK9
  refine value_ (by rfl) rfl (x_assign (v := .bool false) rfl rfl) ?_
  refine hK9 _ _ ⟨⟨_, hg2⟩, hv2⟩ (fun _ => ?_)
  clear hK9 K9
  refine last_ (i := 4) (N := none) #[true, true, true, true, true] rfl rfl (by kernel_rfl) (by decide) ?_
  intro K9 hK9
  refine skip_ (by rfl) rfl (x_storeRow (t := 37) (cs := F37 b x y) rfl (by rw [put_ne _ _ _ _ (by decide)]; exact hA4) (by rw [put_ne _ _ _ _ (by decide)]; exact hAb) hv2 info37t rfl (by simp [F37, Value.oneCell'])) ?_
  refine hK9 _ _ ?_
  refine done_ (by kernel_rfl) ?_
  rw [← HA.out]
  exact hend
end Go.Proofs.YtejlokdcocacaaaGreatDoor
