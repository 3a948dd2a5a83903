/- No step of the decoder goes back, and the line's number cannot run away. No program here. -/
import Derived.Test.YtejlokdcocacaaaGreatDoorMdl
namespace Go.Proofs.YtejlokdcocacaaaGreatDoor
open Go.RowKit

/-- How many bytes are left. -/
def MSt.left (m : MSt) : Nat := m.t.length - m.r1

/-- From m on to a. -/
structure Adv (m a : MSt) : Prop where
  left : a.left ≤ m.left
  line : m.line ≤ a.line
  both : a.line + (a.left : Int) ≤ m.line + (m.left : Int)

theorem Adv.refl (m : MSt) : Adv m m := ⟨Nat.le_refl _, Int.le_refl _, Int.le_refl _⟩
theorem Adv.trans {a b c : MSt} (h : Adv a b) (k : Adv b c) : Adv a c := ⟨Nat.le_trans k.left h.left, Int.le_trans h.line k.line, Int.le_trans k.both h.both⟩

/-- The line's number cannot run away. -/
def MSt.Ok (m : MSt) : Prop := 0 ≤ m.line ∧ m.line + (m.left : Int) ≤ 5000

theorem Adv.ok {m a : MSt} (h : Adv m a) (k : m.Ok) : a.Ok := ⟨Int.le_trans k.1 h.line, Int.le_trans h.both k.2⟩

theorem adv_adv (m : MSt) (n : Nat) : Adv m (m.adv n) := by
  refine ⟨?_, Int.le_refl _, ?_⟩ <;> simp only [MSt.left, MSt.adv] <;> omega
theorem adv_skip (m : MSt) (f : Nat → Bool) : Adv m (m.skip f) := adv_adv m _
theorem adv_to (m : MSt) (n : Nat) : Adv m (m.to n) := ⟨Nat.le_refl _, Int.le_refl _, Int.le_refl _⟩
theorem adv_broke (m : MSt) : Adv m m.broke := ⟨Nat.le_refl _, Int.le_refl _, Int.le_refl _⟩
theorem adv_reset (m : MSt) : Adv m m.reset := by
  unfold MSt.reset
  split
  · refine ⟨?_, Int.le_refl _, ?_⟩ <;> simp [MSt.left]; omega
  · exact ⟨Nat.le_refl _, Int.le_refl _, Int.le_refl _⟩

theorem rest_length (m : MSt) : m.rest.length = m.left := by simp [MSt.rest, MSt.left]

theorem run_le_left (m : MSt) (f : Nat → Bool) : m.run f ≤ m.left := by
  have := (List.takeWhile_sublist (l := m.rest) (fun c : UInt8 => f c.toNat)).length_le
  rw [rest_length] at this
  exact this

theorem tok_le_left (m : MSt) (f : Nat → Bool) (g : Nat → Int) : (tok f g m.rest).1 ≤ m.left := by
  rw [← rest_length]; exact (tok_le f g _ m.rest (Nat.le_refl _)).1

theorem adv_tk (m : MSt) (f : Nat → Bool) (g : Nat → Int) : Adv m (m.tk f g) := by
  have h := tok_le_left m f g
  have hc := cntB_le (m.rest.take (tok f g m.rest).1) 10
  have hl : (m.rest.take (tok f g m.rest).1).length ≤ (tok f g m.rest).1 := List.length_take_le _ _
  unfold MSt.left at h
  refine ⟨?_, ?_, ?_⟩ <;> simp only [MSt.left, MSt.tk]
  · omega
  · split <;> omega
  · split <;> omega

theorem adv_eol (m : MSt) : Adv m m.eol.2 := by
  unfold MSt.eol
  split
  · exact Adv.refl m
  · rename_i h1
    have h1' : m.r1 + 1 ≤ m.t.length := by simpa [MSt.has] using h1
    split
    · refine ⟨?_, ?_, ?_⟩ <;> simp only [MSt.left] <;> omega
    · split
      · split
        · refine ⟨?_, ?_, ?_⟩ <;> simp only [MSt.left] <;> omega
        · rename_i h2
          have h2' : m.r1 + 2 ≤ m.t.length := by simpa [MSt.has] using h2
          split
          · refine ⟨?_, ?_, ?_⟩ <;> simp only [MSt.left] <;> omega
          · exact Adv.refl m
      · exact Adv.refl m

theorem adv_comma (m : MSt) : Adv m (mComma m).1 := by
  unfold mComma
  split
  · split
    · exact (adv_adv m 1).trans (adv_broke _)
    · exact adv_adv m 1
  · exact Adv.refl m

theorem adv_meas (m : MSt) : Adv m (mMeas m).1 := by
  unfold mMeas
  simp only
  have h := (adv_reset m).trans (adv_tk m.reset measP measE)
  split
  · exact h.trans (adv_broke _)
  · have hc := adv_comma (m.reset.tk measP measE)
    rcases hm : mComma (m.reset.tk measP measE) with ⟨c, _ | f⟩ <;> rw [hm] at hc <;> simp only
    · exact (h.trans hc).trans (adv_to _ _)
    · exact h.trans hc

theorem adv_tag (m : MSt) : Adv m (mTag m).1 := by
  unfold mTag
  split
  · exact Adv.refl m
  split
  · exact (adv_skip m _).trans (adv_to _ _)
  simp only
  have h := adv_tk m tagKeyP tagE
  split
  · exact h.trans (adv_broke _)
  have h2 := (h.trans (adv_adv _ 1)).trans (adv_tk ((m.tk tagKeyP tagE).adv 1) tagValP tagE)
  split
  · exact h2.trans (adv_broke _)
  split
  · exact h2.trans (adv_to _ _)
  have hc := adv_comma (((m.tk tagKeyP tagE).adv 1).tk tagValP tagE)
  rcases hm : mComma (((m.tk tagKeyP tagE).adv 1).tk tagValP tagE) with ⟨c, _ | f⟩ <;> rw [hm] at hc <;> exact h2.trans hc

theorem adv_val (m : MSt) : Adv m (mVal m).1 := by
  unfold mVal
  split
  · simp only
    have h := (adv_adv m 1).trans (adv_tk (m.adv 1) strValP strE)
    split
    · exact h.trans (adv_broke _)
    split
    · exact h.trans (adv_broke _)
    · exact h.trans (adv_adv _ 1)
  split
  · exact adv_skip m _
  split
  · exact adv_skip m _
  · exact adv_broke m

theorem adv_behind (m : MSt) : Adv m (mBehind m).1 := by
  unfold mBehind
  split
  · exact adv_to _ _
  split
  · exact adv_adv _ _
  split
  · exact adv_broke _
  have h := (adv_skip m blankP).trans (adv_eol _)
  split <;> exact h.trans (adv_to _ _)

theorem adv_field (m : MSt) : Adv m (mField m).1 := by
  unfold mField
  split
  · exact Adv.refl m
  simp only
  have h := adv_tk m fieldKeyP tagE
  split
  · exact h.trans (adv_broke _)
  split
  · exact h.trans (adv_broke _)
  have h2 := h.trans (adv_adv _ 1)
  split
  · exact h2.trans (adv_broke _)
  have hv := adv_val ((m.tk fieldKeyP tagE).adv 1)
  rcases hm : mVal ((m.tk fieldKeyP tagE).adv 1) with ⟨c, f | x⟩ <;> rw [hm] at hv <;> simp only
  · exact h2.trans hv
  have hb := adv_behind c
  rcases hm2 : mBehind c with ⟨e, _ | f⟩ <;> rw [hm2] at hb <;> exact (h2.trans hv).trans hb

theorem adv_time (m : MSt) : Adv m (mTime m).1 := by
  unfold mTime
  split
  · exact Adv.refl m
  simp only
  have h : Adv m (if m.ran timeCP = [] then (m.skip timeCP).to 5 else m.skip timeCP) := by
    split
    · exact (adv_skip m _).trans (adv_to _ _)
    · exact adv_skip m _
  generalize (if m.ran timeCP = [] then (m.skip timeCP).to 5 else m.skip timeCP) = b at h
  split
  · exact h.trans (adv_to _ _)
  split
  · exact (h.trans (adv_skip _ _)).trans (adv_broke _)
  have h2 := h.trans (adv_skip b blankP)
  split
  · exact h2.trans (adv_to _ _)
  split
  · exact (h2.trans (adv_eol _)).trans (adv_to _ _)
  · exact (h2.trans (adv_skip _ _)).trans (adv_broke _)

theorem adv_line_nl (m : MSt) (h : m.at0 = 10) : Adv m { m.adv 1 with line := m.line + 1 } ∧ ({ m.adv 1 with line := m.line + 1 } : MSt).left < m.left := by
  have hl : m.r1 < m.t.length := by
    apply Nat.lt_of_not_le
    intro hn
    have : m.at0 = 0 := by simp [MSt.at0, List.getD, show m.t.length ≤ m.r1 by omega]
    rw [this] at h
    exact absurd h (by decide)
  refine ⟨⟨?_, ?_, ?_⟩, ?_⟩ <;> simp only [MSt.left, MSt.adv] <;> omega

theorem adv_mLine (m : MSt) : Adv m (mLine m) := by
  unfold mLine
  simp only
  refine Adv.trans ?_ ((adv_reset _).trans (adv_to _ _))
  split
  · rename_i h
    exact (adv_skip m notNlP).trans (adv_line_nl _ h).1
  · exact adv_skip m notNlP

/-- What rounds keep, their end has. -/
theorem iterR_keep {σ β : Type} {f : σ → σ ⊕ β} {z : β} (P : σ → Prop) (Q : β → Prop) (hz : Q z) (h1 : ∀ s s', P s → f s = .inl s' → P s') (h2 : ∀ s b, P s → f s = .inr b → Q b) (s : σ) (hs : P s) : Q (iterR f z s) := by
  by_cases hx : ∃ b, Iter f s b
  · obtain ⟨b, hb⟩ := hx
    rw [iterR_eq hb]
    clear hz
    induction hb with
    | done h => exact h2 _ _ hs h
    | more h _ ih => exact ih (h1 _ _ hs h)
  · unfold iterR
    rw [dif_neg hx]; exact hz

theorem tags_sec (m : MSt) (hm : m.sec = 1 ∨ m.sec = 2) : ((mTags m).2 = none → (mTags m).1.sec = 2 ∨ (mTags m).1.sec = 0) ∧ ((mTags m).2 ≠ none → 4 ≤ (mTags m).1.sec ∧ (mTags m).1.sec ≤ 5) := by
  have key : ∀ a : MSt, a.sec = 1 ∨ a.sec = 2 → (∀ c, mTag a = (c, .some) → c.sec = 1 ∨ c.sec = 2) ∧ (∀ c, mTag a = (c, .none) → c.sec = 2) ∧ (∀ c f, mTag a = (c, .err f) → 4 ≤ c.sec ∧ c.sec ≤ 5) := by
    intro a ha
    unfold mTag
    split
    · rename_i h
      refine ⟨fun c e => by simp at e, fun c e => by simp at e; subst e; omega, fun c f e => by simp at e⟩
    rename_i h1
    have h1' : a.sec = 1 := by omega
    split
    · exact ⟨fun c e => by simp at e, fun c e => by simp at e; subst e; rfl, fun c f e => by simp at e⟩
    simp only
    split
    · exact ⟨fun c e => by simp at e, fun c e => by simp at e, fun c f e => by simp at e; obtain ⟨rfl, _⟩ := e; exact broke_sec _⟩
    split
    · exact ⟨fun c e => by simp at e, fun c e => by simp at e, fun c f e => by simp at e; obtain ⟨rfl, _⟩ := e; exact broke_sec _⟩
    split
    · exact ⟨fun c e => by simp at e; subst e; exact .inr rfl, fun c e => by simp at e, fun c f e => by simp at e⟩
    have hc := mComma_sec (((a.tk tagKeyP tagE).adv 1).tk tagValP tagE)
    rcases hm : mComma (((a.tk tagKeyP tagE).adv 1).tk tagValP tagE) with ⟨c, _ | f⟩ <;> rw [hm] at hc <;> simp only
    · refine ⟨fun c e => by simp at e; subst e; left; rw [hc.2 rfl]; exact h1', fun c e => by simp at e, fun c f e => by simp at e⟩
    · refine ⟨fun c e => by simp at e, fun c e => by simp at e, fun c f e => by simp at e; obtain ⟨rfl, _⟩ := e; exact hc.1 (by simp)⟩
  unfold mTags
  refine iterR_keep (fun s : MSt => s.sec = 1 ∨ s.sec = 2) (fun (b : MSt × Option Flt) => (b.2 = none → b.1.sec = 2 ∨ b.1.sec = 0) ∧ (b.2 ≠ none → 4 ≤ b.1.sec ∧ b.1.sec ≤ 5)) ⟨fun _ => .inr rfl, fun h => absurd rfl h⟩ (fun s s' hs he => ?_) (fun s b hs he => ?_) m hm
  · unfold tagStep at he
    rcases hk : mTag s with ⟨c, f | _ | _⟩ <;> rw [hk] at he <;> simp at he
    subst he
    exact (key s hs).1 _ hk
  · unfold tagStep at he
    rcases hk : mTag s with ⟨c, f | _ | _⟩ <;> rw [hk] at he <;> simp at he <;> subst he
    · exact ⟨fun h => by simp at h, fun _ => (key s hs).2.2 _ _ hk⟩
    · exact ⟨fun _ => .inl ((key s hs).2.1 _ hk), fun h => absurd rfl h⟩

theorem behind_sec (m : MSt) (h : m.sec = 2) : ((mBehind m).2 ≠ none → 4 ≤ (mBehind m).1.sec ∧ (mBehind m).1.sec ≤ 5) ∧ ((mBehind m).2 = none → (mBehind m).1.sec = 2 ∨ (mBehind m).1.sec = 3 ∨ (mBehind m).1.sec = 5) := by
  unfold mBehind
  split
  · exact ⟨fun h => absurd rfl h, fun _ => .inr (.inr rfl)⟩
  split
  · exact ⟨fun h => absurd rfl h, fun _ => .inl h⟩
  split
  · exact ⟨fun _ => broke_sec _, fun h => by simp at h⟩
  split
  · exact ⟨fun h => absurd rfl h, fun _ => .inr (.inr rfl)⟩
  · exact ⟨fun h => absurd rfl h, fun _ => .inr (.inl rfl)⟩

theorem val_sec (m : MSt) : (∀ c f, mVal m = (c, .inl f) → 4 ≤ c.sec ∧ c.sec ≤ 5) ∧ (∀ c x, mVal m = (c, .inr x) → c.sec = m.sec) := by
  unfold mVal
  split
  · simp only
    split
    · exact ⟨fun c f e => by simp at e; obtain ⟨rfl, _⟩ := e; exact broke_sec _, fun c x e => by simp at e⟩
    split
    · exact ⟨fun c f e => by simp at e; obtain ⟨rfl, _⟩ := e; exact broke_sec _, fun c x e => by simp at e⟩
    · exact ⟨fun c f e => by simp at e, fun c x e => by simp at e; obtain ⟨rfl, _⟩ := e; rfl⟩
  split
  · exact ⟨fun c f e => by simp at e, fun c x e => by simp at e; obtain ⟨rfl, _⟩ := e; rfl⟩
  split
  · exact ⟨fun c f e => by simp at e, fun c x e => by simp at e; obtain ⟨rfl, _⟩ := e; rfl⟩
  · exact ⟨fun c f e => by simp at e; obtain ⟨rfl, _⟩ := e; exact broke_sec _, fun c x e => by simp at e⟩

theorem field_sec (a : MSt) : (∀ c d, mField a = (c, .some d) → c.sec = 2 ∨ c.sec = 3 ∨ c.sec = 5) ∧ (∀ c, mField a = (c, .none) → c = a ∧ a.sec ≠ 2) ∧ (∀ c f, mField a = (c, .err f) → 4 ≤ c.sec ∧ c.sec ≤ 5) := by
  unfold mField
  split
  · rename_i h
    exact ⟨fun c d e => by simp at e, fun c e => by simp at e; exact ⟨e.symm, h⟩, fun c f e => by simp at e⟩
  rename_i h1
  have h2 : a.sec = 2 := by omega
  simp only
  split
  · exact ⟨fun c d e => by simp at e, fun c e => by simp at e, fun c f e => by simp at e; obtain ⟨rfl, _⟩ := e; exact broke_sec _⟩
  split
  · exact ⟨fun c d e => by simp at e, fun c e => by simp at e, fun c f e => by simp at e; obtain ⟨rfl, _⟩ := e; exact broke_sec _⟩
  split
  · exact ⟨fun c d e => by simp at e, fun c e => by simp at e, fun c f e => by simp at e; obtain ⟨rfl, _⟩ := e; exact broke_sec _⟩
  have hv := val_sec ((a.tk fieldKeyP tagE).adv 1)
  rcases hm : mVal ((a.tk fieldKeyP tagE).adv 1) with ⟨c, f | x⟩ <;> simp only
  · exact ⟨fun c d e => by simp at e, fun c e => by simp at e, fun c' f' e => by simp at e; obtain ⟨rfl, _⟩ := e; exact hv.1 _ _ hm⟩
  have hc : c.sec = 2 := by rw [hv.2 _ _ hm]; exact h2
  have hb := behind_sec c hc
  rcases hm2 : mBehind c with ⟨e, _ | f⟩ <;> rw [hm2] at hb <;> simp only
  · exact ⟨fun c d e => by simp at e; obtain ⟨rfl, _⟩ := e; exact hb.2 rfl, fun c e => by simp at e, fun c' f' e => by simp at e⟩
  · exact ⟨fun c d e => by simp at e, fun c e => by simp at e, fun c' f' e => by simp at e; obtain ⟨rfl, _⟩ := e; exact hb.1 (by simp)⟩

theorem fields_sec (m : MSt) (hm : m.sec = 2 ∨ m.sec = 3 ∨ m.sec = 5 ∨ m.sec = 0) : ((mFields m).2 = none → (mFields m).1.sec = 3 ∨ (mFields m).1.sec = 5 ∨ (mFields m).1.sec = 0) ∧ ((mFields m).2 ≠ none → 4 ≤ (mFields m).1.sec ∧ (mFields m).1.sec ≤ 5) := by
  unfold mFields
  refine iterR_keep (fun s : MSt => s.sec = 2 ∨ s.sec = 3 ∨ s.sec = 5 ∨ s.sec = 0) (fun (b : MSt × Option Flt) => (b.2 = none → b.1.sec = 3 ∨ b.1.sec = 5 ∨ b.1.sec = 0) ∧ (b.2 ≠ none → 4 ≤ b.1.sec ∧ b.1.sec ≤ 5)) ⟨fun _ => .inr (.inr rfl), fun h => absurd rfl h⟩ (fun s s' hs he => ?_) (fun s b hs he => ?_) m hm
  · unfold fieldStep at he
    rcases hk : mField s with ⟨c, f | _ | d⟩ <;> rw [hk] at he <;> simp at he
    subst he
    have := (field_sec s).1 _ _ hk
    omega
  · unfold fieldStep at he
    rcases hk : mField s with ⟨c, f | _ | d⟩ <;> rw [hk] at he <;> simp at he <;> subst he
    · exact ⟨fun h => by simp at h, fun _ => (field_sec s).2.2 _ _ hk⟩
    · obtain ⟨rfl, h⟩ := (field_sec s).2.1 _ hk
      exact ⟨fun _ => by simp only; omega, fun h => absurd rfl h⟩

theorem time_sec (m : MSt) (h : m.sec = 3) : (mTime m).1.sec = 4 ∨ (mTime m).1.sec = 5 := by
  have hb : ∀ a : MSt, a.broke.sec = 4 ∨ a.broke.sec = 5 := fun a => by have := broke_sec a; omega
  unfold mTime
  rw [if_neg (by omega)]
  simp only
  repeat' split
  all_goals first | exact .inr rfl | exact hb _

theorem time_other (m : MSt) (h : m.sec ≠ 3) : mTime m = (m, .ok []) := by
  unfold mTime; rw [if_pos h]

theorem meas_sec (m : MSt) (hm : m.sec = 0) : ((mMeas m).2 = none → (mMeas m).1.sec = 1) ∧ ((mMeas m).2 ≠ none → (mMeas m).1.sec = 4) := by
  have hb : ∀ a : MSt, a.sec = 0 → a.broke.sec = 4 := fun a ha => by simp [MSt.broke, ha]
  have hr : m.reset.sec = 0 := by unfold MSt.reset; split <;> exact hm
  unfold mMeas
  simp only
  split
  · exact ⟨fun h => by simp at h, fun _ => hb _ hr⟩
  have hc : ∀ a : MSt, a.sec = 0 → (mComma a).2 ≠ none → (mComma a).1.sec = 4 := fun a ha => by
    unfold mComma
    split
    · split
      · exact fun _ => hb _ ha
      · exact fun h => absurd rfl h
    · exact fun h => absurd rfl h
  have h2 := hc (m.reset.tk measP measE) hr
  rcases hm2 : mComma (m.reset.tk measP measE) with ⟨c, _ | f⟩ <;> rw [hm2] at h2 <;> simp only
  · exact ⟨fun _ => rfl, fun h => absurd rfl h⟩
  · exact ⟨fun h => by simp at h, fun _ => h2 (by simp)⟩

end Go.Proofs.YtejlokdcocacaaaGreatDoor
