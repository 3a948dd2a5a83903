/- What the decoder does, in plain words: functions of what is left of the text. No program here. -/
import Derived.Test.YtejlokdcocacaaaGreatDoorKTok
import Derived.Test.YtejlokdcocacaaaGreatDoorKDecD
namespace Go.Proofs.YtejlokdcocacaaaGreatDoor
open Go.RowKit

/-- The decoder's plain state, but for the unescaped bytes. -/
structure MSt where
  t : List UInt8
  r0 : Nat
  r1 : Nat
  sec : Nat
  line : Int

/-- With unescaped bytes. -/
def MSt.d (m : MSt) (es : List UInt8) : DSt := ⟨m.t, m.r0, m.r1, m.sec, es, m.line⟩

namespace MSt
def rest (m : MSt) : List UInt8 := m.t.drop m.r1
def has (m : MSt) (n : Nat) : Bool := decide (m.r1 + n ≤ m.t.length)
def at0 (m : MSt) : UInt8 := m.t.getD (m.r1 + 0) 0
def run (m : MSt) (f : Nat → Bool) : Nat := (m.rest.takeWhile fun c => f c.toNat).length
def adv (m : MSt) (n : Nat) : MSt := { m with r1 := m.r1 + n }
def skip (m : MSt) (f : Nat → Bool) : MSt := m.adv (m.run f)
def ran (m : MSt) (f : Nat → Bool) : List UInt8 := (m.t.take (m.r1 + m.run f)).drop m.r1
def off (m : MSt) : Nat := m.r1 - m.r0
def to (m : MSt) (n : Nat) : MSt := { m with sec := n }
def flt (m : MSt) (off : Nat) : Flt := ⟨m.line - (cntB ((m.t.take m.r1).drop (m.r0 + off)) 10 : Int), colOf ((m.t.take (m.r0 + off)).drop m.r0)⟩
def broke (m : MSt) : MSt := { m with sec := if m.sec = 5 then 5 else 4 }
def tk (m : MSt) (f : Nat → Bool) (g : Nat → Int) : MSt :=
  { m with r1 := m.r1 + (tok f g m.rest).1, line := if f 10 = true then m.line + (cntB (m.rest.take (tok f g m.rest).1) 10 : Int) else m.line }
def reset (m : MSt) : MSt := if m.t.length = m.r1 then { m with t := [], r0 := 0, r1 := 0 } else { m with r0 := m.r1 }
def eol (m : MSt) : Bool × MSt :=
  if m.has 1 = false then (true, m)
  else if m.at0 = 10 then (true, { m with r1 := m.r1 + 1, line := m.line + 1 })
  else if m.at0 = 13 then
    if m.has 2 = false then (true, { m with r1 := m.r1 + 1 })
    else if m.t.getD (m.r1 + 1) 0 = 10 then (true, { m with r1 := m.r1 + 2, line := m.line + 1 })
    else (false, m)
  else (false, m)
end MSt

/-- The comma behind a measurement or a tag. -/
def mComma (m : MSt) : MSt × Option Flt :=
  if m.has 1 = true ∧ m.at0 = 44 then
    if (m.adv 1).has 1 = false ∨ whiteP (m.adv 1).at0.toNat = true then ((m.adv 1).broke, some ((m.adv 1).flt (m.adv 1).off)) else (m.adv 1, none)
  else (m, none)

/-- The measurement. -/
def mMeas (m : MSt) : MSt × Option Flt :=
  let a := m.reset
  let u := tok measP measE a.rest
  let b := a.tk measP measE
  if Lib.validD u.2 = false ∨ u.1 = 0 ∨ u.2.head? = some 35 then (b.broke, some (b.flt a.off))
  else match mComma b with
    | (c, some f) => (c, some f)
    | (c, none) => (c.to 1, none)

inductive TagR
  | err (f : Flt)
  | none
  | some

/-- The next tag. -/
def mTag (m : MSt) : MSt × TagR :=
  if m.sec ≠ 1 then (m, .none)
  else if m.has 1 = true ∧ blankP m.at0.toNat = true then ((m.skip blankP).to 2, .none)
  else
    let u := tok tagKeyP tagE m.rest
    let b := m.tk tagKeyP tagE
    if Lib.validD u.2 = false ∨ u.1 = 0 ∨ b.has 1 = false ∨ b.at0 ≠ 61 then (b.broke, .err (b.flt m.off))
    else
      let c := b.adv 1
      let v := tok tagValP tagE c.rest
      let d := c.tk tagValP tagE
      if Lib.validD v.2 = false ∨ v.1 = 0 then (d.broke, .err (d.flt c.off))
      else if d.has 1 = false then (d.to 2, .some)
      else match mComma d with
        | (e, some f) => (e, .err f)
        | (e, none) => (e, .some)

/-- A field: its key, its kind, its bytes. -/
structure FD where
  key : List UInt8
  kind : Nat
  raw : List UInt8

inductive FieldR
  | err (f : Flt)
  | none
  | some (d : FD)

/-- A number's kind and bytes. -/
def numOf (l : List UInt8) : Nat × List UInt8 :=
  if l.getLast? = some 105 then (2, l.dropLast) else if l.getLast? = some 117 then (3, l.dropLast) else (4, l)

/-- A field's value, from its first byte on. -/
def mVal (m : MSt) : MSt × (Flt ⊕ Nat × List UInt8) :=
  if m.at0 = 34 then
    let d := m.adv 1
    let v := tok strValP strE d.rest
    let e := d.tk strValP strE
    if Lib.validD v.2 = false then (e.broke, .inl (e.flt d.off))
    else if e.has 1 = false then (e.broke, .inl (e.flt (d.off - 1)))
    else (e.adv 1, .inr (1, v.2))
  else if m.at0 = 116 ∨ m.at0 = 84 ∨ m.at0 = 102 ∨ m.at0 = 70 then (m.skip fieldValP, .inr (5, m.ran fieldValP))
  else if m.at0 = 45 ∨ m.at0 = 46 ∨ (48 ≤ m.at0.toNat ∧ m.at0.toNat ≤ 57) then (m.skip fieldValP, .inr (numOf (m.ran fieldValP)))
  else (m.broke, .inl (m.flt m.off))

/-- Behind a field's value. -/
def mBehind (m : MSt) : MSt × Option Flt :=
  if m.has 1 = false then (m.to 5, none)
  else if m.at0 = 44 then (m.adv 1, none)
  else if whiteP m.at0.toNat = false then (m.broke, some (m.flt m.off))
  else if (m.skip blankP).eol.1 = true then ((m.skip blankP).eol.2.to 5, none) else ((m.skip blankP).eol.2.to 3, none)

/-- The next field. -/
def mField (m : MSt) : MSt × FieldR :=
  if m.sec ≠ 2 then (m, .none)
  else
    let u := tok fieldKeyP tagE m.rest
    let b := m.tk fieldKeyP tagE
    if Lib.validD u.2 = false ∨ u.1 = 0 then (b.broke, .err (b.flt m.off))
    else if b.has 1 = false ∨ b.at0 ≠ 61 then (b.broke, .err (b.flt b.off))
    else
      let c := b.adv 1
      if c.has 1 = false then (c.broke, .err (c.flt c.off))
      else match mVal c with
        | (d, .inl f) => (d, .err f)
        | (d, .inr x) => match mBehind d with
          | (e, some f) => (e, .err f)
          | (e, none) => (e, .some ⟨u.2, x.1, x.2⟩)

inductive TimeR
  | err (f : Flt)
  | ok (l : List UInt8)

/-- The time; [] where there is none. -/
def mTime (m : MSt) : MSt × TimeR :=
  if m.sec ≠ 3 then (m, .ok [])
  else
    let l := m.ran timeCP
    let b := if l = [] then (m.skip timeCP).to 5 else m.skip timeCP
    if b.has 1 = false then (b.to 5, .ok l)
    else if whiteP b.at0.toNat = false then ((b.skip notEolP).broke, .err ((b.skip notEolP).flt m.off))
    else
      let c := b.skip blankP
      if c.has 1 = false then (c.to 5, .ok l)
      else if c.eol.1 = true then (c.eol.2.to 5, .ok l)
      else ((c.skip notEolP).broke, .err ((c.skip notEolP).flt c.off))

/-- The rest of a line is gone by. -/
def mLine (m : MSt) : MSt :=
  let a := m.skip notNlP
  let b := if a.at0 = 10 then { a.adv 1 with line := a.line + 1 } else a
  b.reset.to 5

/-- One round of going by empty lines: on, or the end. -/
def skipStep (m : MSt) : MSt ⊕ MSt :=
  let a := m.skip blankP
  if a.at0 = 35 then
    let b := a.skip commentP
    if b.eol.1 = true then .inl b.eol.2 else .inr { b.eol.2 with r1 := b.r0 + m.off }
  else if a.at0 = 10 then .inl { a.adv 1 with line := a.line + 1 }
  else if a.at0 = 13 then (if a.eol.1 = true then .inl a.eol.2 else .inr a.eol.2)
  else .inr a

section
variable {σ β : Type}

/-- Rounds to the end. -/
inductive Iter (f : σ → σ ⊕ β) : σ → β → Prop
  | done {s : σ} {b : β} : f s = .inr b → Iter f s b
  | more {s s' : σ} {b : β} : f s = .inl s' → Iter f s' b → Iter f s b

theorem Iter.det {f : σ → σ ⊕ β} {s : σ} {b b' : β} (h : Iter f s b) : Iter f s b' → b = b' := by
  induction h with
  | done h1 =>
    intro h'
    cases h' with
    | done h2 => rw [h1] at h2; simpa using h2
    | more h2 _ => rw [h1] at h2; simp at h2
  | more h1 _ ih =>
    intro h'
    cases h' with
    | done h2 => rw [h1] at h2; simp at h2
    | more h2 h3 => rw [h1] at h2; simp at h2; subst h2; exact ih h3

open Classical in
/-- What the rounds end in; if they end. -/
noncomputable def iterR (f : σ → σ ⊕ β) (z : β) (s : σ) : β := if h : ∃ b, Iter f s b then h.choose else z

theorem iterR_eq {f : σ → σ ⊕ β} {z : β} {s : σ} {b : β} (h : Iter f s b) : iterR f z s = b := by
  unfold iterR
  have hx : ∃ b, Iter f s b := ⟨b, h⟩
  rw [dif_pos hx]
  exact hx.choose_spec.det h

theorem iterR_done {f : σ → σ ⊕ β} {z : β} {s : σ} {b : β} (h : f s = .inr b) : iterR f z s = b := iterR_eq (.done h)

theorem iterR_more {f : σ → σ ⊕ β} {z : β} {s s' : σ} (h : f s = .inl s') : iterR f z s = iterR f z s' := by
  by_cases hx : ∃ b, Iter f s' b
  · obtain ⟨b, hb⟩ := hx
    rw [iterR_eq hb, iterR_eq (.more h hb)]
  · have hy : ¬ ∃ b, Iter f s b := by
      rintro ⟨b, hb⟩
      cases hb with
      | done h2 => rw [h] at h2; simp at h2
      | more h2 h3 => rw [h] at h2; simp at h2; subst h2; exact hx ⟨b, h3⟩
    unfold iterR
    rw [dif_neg hx, dif_neg hy]
end

def m0 : MSt := ⟨[], 0, 0, 0, 0⟩

/-- Empty lines gone by. -/
noncomputable def mSkip (m : MSt) : MSt := iterR skipStep m0 m

def tagStep (m : MSt) : MSt ⊕ (MSt × Option Flt) :=
  match mTag m with
  | (a, .some) => .inl a
  | (a, .none) => .inr (a, none)
  | (a, .err f) => .inr (a, some f)

/-- All tags. -/
noncomputable def mTags (m : MSt) : MSt × Option Flt := iterR tagStep (m0, none) m

def fieldStep (m : MSt) : MSt ⊕ (MSt × Option Flt) :=
  match mField m with
  | (a, .some _) => .inl a
  | (a, .none) => .inr (a, none)
  | (a, .err f) => .inr (a, some f)

/-- All fields. -/
noncomputable def mFields (m : MSt) : MSt × Option Flt := iterR fieldStep (m0, none) m

/-- The measurement and the tags. -/
noncomputable def mHead (m : MSt) : MSt × Option Flt :=
  match mMeas m with
  | (a, some f) => (a, some f)
  | (a, none) => mTags a

/-- All ahead of the time. -/
noncomputable def mAhead (m : MSt) : MSt × Option Flt :=
  match mHead m with
  | (a, some f) => (a, some f)
  | (a, none) => mFields a

/-- An entry to its end: the time. -/
noncomputable def mEntry (m : MSt) : MSt × TimeR :=
  match mAhead m with
  | (a, some f) => (a, .err f)
  | (a, none) => mTime a

/-- An entry to its first field. -/
noncomputable def mFirst (m : MSt) : MSt × FieldR :=
  match mHead m with
  | (a, some f) => (a, .err f)
  | (a, none) => mField a

/-- What is left of an entry is gone by. -/
noncomputable def mLeft (m : MSt) : MSt :=
  let a := if m.sec = 2 then (mFields m).1 else m
  let b := if a.sec = 3 then (mTime a).1 else a
  if b.sec = 4 then mLine b else b

/-- On to the next entry. -/
noncomputable def mNext (m : MSt) : MSt := (mSkip (mLeft m)).to 0

/-! ### where the parts leave -/
theorem broke_sec (m : MSt) : 4 ≤ m.broke.sec ∧ m.broke.sec ≤ 5 := by unfold MSt.broke; simp only; split <;> omega

theorem mComma_sec (m : MSt) : ((mComma m).2 ≠ none → 4 ≤ (mComma m).1.sec ∧ (mComma m).1.sec ≤ 5) ∧ ((mComma m).2 = none → (mComma m).1.sec = m.sec) := by
  unfold mComma
  split
  · split
    · exact ⟨fun _ => broke_sec _, fun h => by simp at h⟩
    · exact ⟨fun h => absurd rfl h, fun _ => rfl⟩
  · exact ⟨fun h => absurd rfl h, fun _ => rfl⟩

end Go.Proofs.YtejlokdcocacaaaGreatDoor

/- No step of the decoder goes back, and the line's number cannot run away. No program here. -/
namespace Go.Proofs.YtejlokdcocacaaaGreatDoor
open Go.RowKit

/-- How many bytes are left. -/
def MSt.left (m : MSt) : Nat := m.t.length - m.r1

/-- From m on to a. -/
structure Adv (m a : MSt) : Prop where
  left : a.left ≤ m.left
  line : m.line ≤ a.line
  both : a.line + (a.left : Int) ≤ m.line + (m.left : Int)

theorem Adv.refl (m : MSt) : Adv m m := ⟨Nat.le_refl _, Int.le_refl _, Int.le_refl _⟩
theorem Adv.trans {a b c : MSt} (h : Adv a b) (k : Adv b c) : Adv a c := ⟨Nat.le_trans k.left h.left, Int.le_trans h.line k.line, Int.le_trans k.both h.both⟩

/-- The line's number cannot run away. -/
def MSt.Ok (m : MSt) : Prop := 0 ≤ m.line ∧ m.line + (m.left : Int) ≤ 5000

theorem Adv.ok {m a : MSt} (h : Adv m a) (k : m.Ok) : a.Ok := ⟨Int.le_trans k.1 h.line, Int.le_trans h.both k.2⟩

theorem adv_adv (m : MSt) (n : Nat) : Adv m (m.adv n) := by
  refine ⟨?_, Int.le_refl _, ?_⟩ <;> simp only [MSt.left, MSt.adv] <;> omega
theorem adv_skip (m : MSt) (f : Nat → Bool) : Adv m (m.skip f) := adv_adv m _
theorem adv_to (m : MSt) (n : Nat) : Adv m (m.to n) := ⟨Nat.le_refl _, Int.le_refl _, Int.le_refl _⟩
theorem adv_broke (m : MSt) : Adv m m.broke := ⟨Nat.le_refl _, Int.le_refl _, Int.le_refl _⟩
theorem adv_reset (m : MSt) : Adv m m.reset := by
  unfold MSt.reset
  split
  · refine ⟨?_, Int.le_refl _, ?_⟩ <;> simp [MSt.left]; omega
  · exact ⟨Nat.le_refl _, Int.le_refl _, Int.le_refl _⟩

theorem rest_length (m : MSt) : m.rest.length = m.left := by simp [MSt.rest, MSt.left]

theorem run_le_left (m : MSt) (f : Nat → Bool) : m.run f ≤ m.left := by
  have := (List.takeWhile_sublist (l := m.rest) (fun c : UInt8 => f c.toNat)).length_le
  rw [rest_length] at this
  exact this

theorem tok_le_left (m : MSt) (f : Nat → Bool) (g : Nat → Int) : (tok f g m.rest).1 ≤ m.left := by
  rw [← rest_length]; exact (tok_le f g _ m.rest (Nat.le_refl _)).1

theorem adv_tk (m : MSt) (f : Nat → Bool) (g : Nat → Int) : Adv m (m.tk f g) := by
  have h := tok_le_left m f g
  have hc := cntB_le (m.rest.take (tok f g m.rest).1) 10
  have hl : (m.rest.take (tok f g m.rest).1).length ≤ (tok f g m.rest).1 := List.length_take_le _ _
  unfold MSt.left at h
  refine ⟨?_, ?_, ?_⟩ <;> simp only [MSt.left, MSt.tk]
  · omega
  · split <;> omega
  · split <;> omega

theorem adv_eol (m : MSt) : Adv m m.eol.2 := by
  unfold MSt.eol
  split
  · exact Adv.refl m
  · rename_i h1
    have h1' : m.r1 + 1 ≤ m.t.length := by simpa [MSt.has] using h1
    split
    · refine ⟨?_, ?_, ?_⟩ <;> simp only [MSt.left] <;> omega
    · split
      · split
        · refine ⟨?_, ?_, ?_⟩ <;> simp only [MSt.left] <;> omega
        · rename_i h2
          have h2' : m.r1 + 2 ≤ m.t.length := by simpa [MSt.has] using h2
          split
          · refine ⟨?_, ?_, ?_⟩ <;> simp only [MSt.left] <;> omega
          · exact Adv.refl m
      · exact Adv.refl m

theorem adv_comma (m : MSt) : Adv m (mComma m).1 := by
  unfold mComma
  split
  · split
    · exact (adv_adv m 1).trans (adv_broke _)
    · exact adv_adv m 1
  · exact Adv.refl m

theorem adv_meas (m : MSt) : Adv m (mMeas m).1 := by
  unfold mMeas
  simp only
  have h := (adv_reset m).trans (adv_tk m.reset measP measE)
  split
  · exact h.trans (adv_broke _)
  · have hc := adv_comma (m.reset.tk measP measE)
    rcases hm : mComma (m.reset.tk measP measE) with ⟨c, _ | f⟩ <;> rw [hm] at hc <;> simp only
    · exact (h.trans hc).trans (adv_to _ _)
    · exact h.trans hc

theorem adv_tag (m : MSt) : Adv m (mTag m).1 := by
  unfold mTag
  split
  · exact Adv.refl m
  split
  · exact (adv_skip m _).trans (adv_to _ _)
  simp only
  have h := adv_tk m tagKeyP tagE
  split
  · exact h.trans (adv_broke _)
  have h2 := (h.trans (adv_adv _ 1)).trans (adv_tk ((m.tk tagKeyP tagE).adv 1) tagValP tagE)
  split
  · exact h2.trans (adv_broke _)
  split
  · exact h2.trans (adv_to _ _)
  have hc := adv_comma (((m.tk tagKeyP tagE).adv 1).tk tagValP tagE)
  rcases hm : mComma (((m.tk tagKeyP tagE).adv 1).tk tagValP tagE) with ⟨c, _ | f⟩ <;> rw [hm] at hc <;> exact h2.trans hc

theorem adv_val (m : MSt) : Adv m (mVal m).1 := by
  unfold mVal
  split
  · simp only
    have h := (adv_adv m 1).trans (adv_tk (m.adv 1) strValP strE)
    split
    · exact h.trans (adv_broke _)
    split
    · exact h.trans (adv_broke _)
    · exact h.trans (adv_adv _ 1)
  split
  · exact adv_skip m _
  split
  · exact adv_skip m _
  · exact adv_broke m

theorem adv_behind (m : MSt) : Adv m (mBehind m).1 := by
  unfold mBehind
  split
  · exact adv_to _ _
  split
  · exact adv_adv _ _
  split
  · exact adv_broke _
  have h := (adv_skip m blankP).trans (adv_eol _)
  split <;> exact h.trans (adv_to _ _)

theorem adv_field (m : MSt) : Adv m (mField m).1 := by
  unfold mField
  split
  · exact Adv.refl m
  simp only
  have h := adv_tk m fieldKeyP tagE
  split
  · exact h.trans (adv_broke _)
  split
  · exact h.trans (adv_broke _)
  have h2 := h.trans (adv_adv _ 1)
  split
  · exact h2.trans (adv_broke _)
  have hv := adv_val ((m.tk fieldKeyP tagE).adv 1)
  rcases hm : mVal ((m.tk fieldKeyP tagE).adv 1) with ⟨c, f | x⟩ <;> rw [hm] at hv <;> simp only
  · exact h2.trans hv
  have hb := adv_behind c
  rcases hm2 : mBehind c with ⟨e, _ | f⟩ <;> rw [hm2] at hb <;> exact (h2.trans hv).trans hb

theorem adv_time (m : MSt) : Adv m (mTime m).1 := by
  unfold mTime
  split
  · exact Adv.refl m
  simp only
  have h : Adv m (if m.ran timeCP = [] then (m.skip timeCP).to 5 else m.skip timeCP) := by
    split
    · exact (adv_skip m _).trans (adv_to _ _)
    · exact adv_skip m _
  generalize (if m.ran timeCP = [] then (m.skip timeCP).to 5 else m.skip timeCP) = b at h
  split
  · exact h.trans (adv_to _ _)
  split
  · exact (h.trans (adv_skip _ _)).trans (adv_broke _)
  have h2 := h.trans (adv_skip b blankP)
  split
  · exact h2.trans (adv_to _ _)
  split
  · exact (h2.trans (adv_eol _)).trans (adv_to _ _)
  · exact (h2.trans (adv_skip _ _)).trans (adv_broke _)

theorem adv_line_nl (m : MSt) (h : m.at0 = 10) : Adv m { m.adv 1 with line := m.line + 1 } ∧ ({ m.adv 1 with line := m.line + 1 } : MSt).left < m.left := by
  have hl : m.r1 < m.t.length := by
    apply Nat.lt_of_not_le
    intro hn
    have : m.at0 = 0 := by simp [MSt.at0, List.getD, show m.t.length ≤ m.r1 by omega]
    rw [this] at h
    exact absurd h (by decide)
  refine ⟨⟨?_, ?_, ?_⟩, ?_⟩ <;> simp only [MSt.left, MSt.adv] <;> omega

theorem adv_mLine (m : MSt) : Adv m (mLine m) := by
  unfold mLine
  simp only
  refine Adv.trans ?_ ((adv_reset _).trans (adv_to _ _))
  split
  · rename_i h
    exact (adv_skip m notNlP).trans (adv_line_nl _ h).1
  · exact adv_skip m notNlP

/-- What rounds keep, their end has. -/
theorem iterR_keep {σ β : Type} {f : σ → σ ⊕ β} {z : β} (P : σ → Prop) (Q : β → Prop) (hz : Q z) (h1 : ∀ s s', P s → f s = .inl s' → P s') (h2 : ∀ s b, P s → f s = .inr b → Q b) (s : σ) (hs : P s) : Q (iterR f z s) := by
  by_cases hx : ∃ b, Iter f s b
  · obtain ⟨b, hb⟩ := hx
    rw [iterR_eq hb]
    clear hz
    induction hb with
    | done h => exact h2 _ _ hs h
    | more h _ ih => exact ih (h1 _ _ hs h)
  · unfold iterR
    rw [dif_neg hx]; exact hz

theorem tags_sec (m : MSt) (hm : m.sec = 1 ∨ m.sec = 2) : ((mTags m).2 = none → (mTags m).1.sec = 2 ∨ (mTags m).1.sec = 0) ∧ ((mTags m).2 ≠ none → 4 ≤ (mTags m).1.sec ∧ (mTags m).1.sec ≤ 5) := by
  have key : ∀ a : MSt, a.sec = 1 ∨ a.sec = 2 → (∀ c, mTag a = (c, .some) → c.sec = 1 ∨ c.sec = 2) ∧ (∀ c, mTag a = (c, .none) → c.sec = 2) ∧ (∀ c f, mTag a = (c, .err f) → 4 ≤ c.sec ∧ c.sec ≤ 5) := by
    intro a ha
    unfold mTag
    split
    · rename_i h
      refine ⟨fun c e => by simp at e, fun c e => by simp at e; subst e; omega, fun c f e => by simp at e⟩
    rename_i h1
    have h1' : a.sec = 1 := by omega
    split
    · exact ⟨fun c e => by simp at e, fun c e => by simp at e; subst e; rfl, fun c f e => by simp at e⟩
    simp only
    split
    · exact ⟨fun c e => by simp at e, fun c e => by simp at e, fun c f e => by simp at e; obtain ⟨rfl, _⟩ := e; exact broke_sec _⟩
    split
    · exact ⟨fun c e => by simp at e, fun c e => by simp at e, fun c f e => by simp at e; obtain ⟨rfl, _⟩ := e; exact broke_sec _⟩
    split
    · exact ⟨fun c e => by simp at e; subst e; exact .inr rfl, fun c e => by simp at e, fun c f e => by simp at e⟩
    have hc := mComma_sec (((a.tk tagKeyP tagE).adv 1).tk tagValP tagE)
    rcases hm : mComma (((a.tk tagKeyP tagE).adv 1).tk tagValP tagE) with ⟨c, _ | f⟩ <;> rw [hm] at hc <;> simp only
    · refine ⟨fun c e => by simp at e; subst e; left; rw [hc.2 rfl]; exact h1', fun c e => by simp at e, fun c f e => by simp at e⟩
    · refine ⟨fun c e => by simp at e, fun c e => by simp at e, fun c f e => by simp at e; obtain ⟨rfl, _⟩ := e; exact hc.1 (by simp)⟩
  unfold mTags
  refine iterR_keep (fun s : MSt => s.sec = 1 ∨ s.sec = 2) (fun (b : MSt × Option Flt) => (b.2 = none → b.1.sec = 2 ∨ b.1.sec = 0) ∧ (b.2 ≠ none → 4 ≤ b.1.sec ∧ b.1.sec ≤ 5)) ⟨fun _ => .inr rfl, fun h => absurd rfl h⟩ (fun s s' hs he => ?_) (fun s b hs he => ?_) m hm
  · unfold tagStep at he
    rcases hk : mTag s with ⟨c, f | _ | _⟩ <;> rw [hk] at he <;> simp at he
    subst he
    exact (key s hs).1 _ hk
  · unfold tagStep at he
    rcases hk : mTag s with ⟨c, f | _ | _⟩ <;> rw [hk] at he <;> simp at he <;> subst he
    · exact ⟨fun h => by simp at h, fun _ => (key s hs).2.2 _ _ hk⟩
    · exact ⟨fun _ => .inl ((key s hs).2.1 _ hk), fun h => absurd rfl h⟩

theorem behind_sec (m : MSt) (h : m.sec = 2) : ((mBehind m).2 ≠ none → 4 ≤ (mBehind m).1.sec ∧ (mBehind m).1.sec ≤ 5) ∧ ((mBehind m).2 = none → (mBehind m).1.sec = 2 ∨ (mBehind m).1.sec = 3 ∨ (mBehind m).1.sec = 5) := by
  unfold mBehind
  split
  · exact ⟨fun h => absurd rfl h, fun _ => .inr (.inr rfl)⟩
  split
  · exact ⟨fun h => absurd rfl h, fun _ => .inl h⟩
  split
  · exact ⟨fun _ => broke_sec _, fun h => by simp at h⟩
  split
  · exact ⟨fun h => absurd rfl h, fun _ => .inr (.inr rfl)⟩
  · exact ⟨fun h => absurd rfl h, fun _ => .inr (.inl rfl)⟩

theorem val_sec (m : MSt) : (∀ c f, mVal m = (c, .inl f) → 4 ≤ c.sec ∧ c.sec ≤ 5) ∧ (∀ c x, mVal m = (c, .inr x) → c.sec = m.sec) := by
  unfold mVal
  split
  · simp only
    split
    · exact ⟨fun c f e => by simp at e; obtain ⟨rfl, _⟩ := e; exact broke_sec _, fun c x e => by simp at e⟩
    split
    · exact ⟨fun c f e => by simp at e; obtain ⟨rfl, _⟩ := e; exact broke_sec _, fun c x e => by simp at e⟩
    · exact ⟨fun c f e => by simp at e, fun c x e => by simp at e; obtain ⟨rfl, _⟩ := e; rfl⟩
  split
  · exact ⟨fun c f e => by simp at e, fun c x e => by simp at e; obtain ⟨rfl, _⟩ := e; rfl⟩
  split
  · exact ⟨fun c f e => by simp at e, fun c x e => by simp at e; obtain ⟨rfl, _⟩ := e; rfl⟩
  · exact ⟨fun c f e => by simp at e; obtain ⟨rfl, _⟩ := e; exact broke_sec _, fun c x e => by simp at e⟩

theorem field_sec (a : MSt) : (∀ c d, mField a = (c, .some d) → c.sec = 2 ∨ c.sec = 3 ∨ c.sec = 5) ∧ (∀ c, mField a = (c, .none) → c = a ∧ a.sec ≠ 2) ∧ (∀ c f, mField a = (c, .err f) → 4 ≤ c.sec ∧ c.sec ≤ 5) := by
  unfold mField
  split
  · rename_i h
    exact ⟨fun c d e => by simp at e, fun c e => by simp at e; exact ⟨e.symm, h⟩, fun c f e => by simp at e⟩
  rename_i h1
  have h2 : a.sec = 2 := by omega
  simp only
  split
  · exact ⟨fun c d e => by simp at e, fun c e => by simp at e, fun c f e => by simp at e; obtain ⟨rfl, _⟩ := e; exact broke_sec _⟩
  split
  · exact ⟨fun c d e => by simp at e, fun c e => by simp at e, fun c f e => by simp at e; obtain ⟨rfl, _⟩ := e; exact broke_sec _⟩
  split
  · exact ⟨fun c d e => by simp at e, fun c e => by simp at e, fun c f e => by simp at e; obtain ⟨rfl, _⟩ := e; exact broke_sec _⟩
  have hv := val_sec ((a.tk fieldKeyP tagE).adv 1)
  rcases hm : mVal ((a.tk fieldKeyP tagE).adv 1) with ⟨c, f | x⟩ <;> simp only
  · exact ⟨fun c d e => by simp at e, fun c e => by simp at e, fun c' f' e => by simp at e; obtain ⟨rfl, _⟩ := e; exact hv.1 _ _ hm⟩
  have hc : c.sec = 2 := by rw [hv.2 _ _ hm]; exact h2
  have hb := behind_sec c hc
  rcases hm2 : mBehind c with ⟨e, _ | f⟩ <;> rw [hm2] at hb <;> simp only
  · exact ⟨fun c d e => by simp at e; obtain ⟨rfl, _⟩ := e; exact hb.2 rfl, fun c e => by simp at e, fun c' f' e => by simp at e⟩
  · exact ⟨fun c d e => by simp at e, fun c e => by simp at e, fun c' f' e => by simp at e; obtain ⟨rfl, _⟩ := e; exact hb.1 (by simp)⟩

theorem fields_sec (m : MSt) (hm : m.sec = 2 ∨ m.sec = 3 ∨ m.sec = 5 ∨ m.sec = 0) : ((mFields m).2 = none → (mFields m).1.sec = 3 ∨ (mFields m).1.sec = 5 ∨ (mFields m).1.sec = 0) ∧ ((mFields m).2 ≠ none → 4 ≤ (mFields m).1.sec ∧ (mFields m).1.sec ≤ 5) := by
  unfold mFields
  refine iterR_keep (fun s : MSt => s.sec = 2 ∨ s.sec = 3 ∨ s.sec = 5 ∨ s.sec = 0) (fun (b : MSt × Option Flt) => (b.2 = none → b.1.sec = 3 ∨ b.1.sec = 5 ∨ b.1.sec = 0) ∧ (b.2 ≠ none → 4 ≤ b.1.sec ∧ b.1.sec ≤ 5)) ⟨fun _ => .inr (.inr rfl), fun h => absurd rfl h⟩ (fun s s' hs he => ?_) (fun s b hs he => ?_) m hm
  · unfold fieldStep at he
    rcases hk : mField s with ⟨c, f | _ | d⟩ <;> rw [hk] at he <;> simp at he
    subst he
    have := (field_sec s).1 _ _ hk
    omega
  · unfold fieldStep at he
    rcases hk : mField s with ⟨c, f | _ | d⟩ <;> rw [hk] at he <;> simp at he <;> subst he
    · exact ⟨fun h => by simp at h, fun _ => (field_sec s).2.2 _ _ hk⟩
    · obtain ⟨rfl, h⟩ := (field_sec s).2.1 _ hk
      exact ⟨fun _ => by simp only; omega, fun h => absurd rfl h⟩

theorem time_sec (m : MSt) (h : m.sec = 3) : (mTime m).1.sec = 4 ∨ (mTime m).1.sec = 5 := by
  have hb : ∀ a : MSt, a.broke.sec = 4 ∨ a.broke.sec = 5 := fun a => by have := broke_sec a; omega
  unfold mTime
  rw [if_neg (by omega)]
  simp only
  repeat' split
  all_goals first | exact .inr rfl | exact hb _

theorem time_other (m : MSt) (h : m.sec ≠ 3) : mTime m = (m, .ok []) := by
  unfold mTime; rw [if_pos h]

theorem meas_sec (m : MSt) (hm : m.sec = 0) : ((mMeas m).2 = none → (mMeas m).1.sec = 1) ∧ ((mMeas m).2 ≠ none → (mMeas m).1.sec = 4) := by
  have hb : ∀ a : MSt, a.sec = 0 → a.broke.sec = 4 := fun a ha => by simp [MSt.broke, ha]
  have hr : m.reset.sec = 0 := by unfold MSt.reset; split <;> exact hm
  unfold mMeas
  simp only
  split
  · exact ⟨fun h => by simp at h, fun _ => hb _ hr⟩
  have hc : ∀ a : MSt, a.sec = 0 → (mComma a).2 ≠ none → (mComma a).1.sec = 4 := fun a ha => by
    unfold mComma
    split
    · split
      · exact fun _ => hb _ ha
      · exact fun h => absurd rfl h
    · exact fun h => absurd rfl h
  have h2 := hc (m.reset.tk measP measE) hr
  rcases hm2 : mComma (m.reset.tk measP measE) with ⟨c, _ | f⟩ <;> rw [hm2] at h2 <;> simp only
  · exact ⟨fun _ => rfl, fun h => absurd rfl h⟩
  · exact ⟨fun h => by simp at h, fun _ => h2 (by simp)⟩

end Go.Proofs.YtejlokdcocacaaaGreatDoor
