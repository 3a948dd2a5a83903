/- What the decoder does, in plain words: functions of what is left of the text. No program here. -/
import Derived.Test.YtejlokdcocacaaaGreatDoorU8
import Derived.Test.YtejlokdcocacaaaGreatDoorDecD
namespace Go.Proofs.YtejlokdcocacaaaGreatDoor
open Go.RowKit

/-- The decoder's plain state, but for the unescaped bytes. -/
structure MSt where
  t : List UInt8
  r0 : Nat
  r1 : Nat
  sec : Nat
  line : Int

/-- With unescaped bytes. -/
def MSt.d (m : MSt) (es : List UInt8) : DSt := ⟨m.t, m.r0, m.r1, m.sec, es, m.line⟩

namespace MSt
def rest (m : MSt) : List UInt8 := m.t.drop m.r1
def has (m : MSt) (n : Nat) : Bool := decide (m.r1 + n ≤ m.t.length)
def at0 (m : MSt) : UInt8 := m.t.getD (m.r1 + 0) 0
def run (m : MSt) (f : Nat → Bool) : Nat := (m.rest.takeWhile fun c => f c.toNat).length
def adv (m : MSt) (n : Nat) : MSt := { m with r1 := m.r1 + n }
def skip (m : MSt) (f : Nat → Bool) : MSt := m.adv (m.run f)
def ran (m : MSt) (f : Nat → Bool) : List UInt8 := (m.t.take (m.r1 + m.run f)).drop m.r1
def off (m : MSt) : Nat := m.r1 - m.r0
def to (m : MSt) (n : Nat) : MSt := { m with sec := n }
def flt (m : MSt) (off : Nat) : Flt := ⟨m.line - (cntB ((m.t.take m.r1).drop (m.r0 + off)) 10 : Int), colOf ((m.t.take (m.r0 + off)).drop m.r0)⟩
def broke (m : MSt) : MSt := { m with sec := if m.sec = 5 then 5 else 4 }
def tk (m : MSt) (f : Nat → Bool) (g : Nat → Int) : MSt :=
  { m with r1 := m.r1 + (tok f g m.rest).1, line := if f 10 = true then m.line + (cntB (m.rest.take (tok f g m.rest).1) 10 : Int) else m.line }
def reset (m : MSt) : MSt := if m.t.length = m.r1 then { m with t := [], r0 := 0, r1 := 0 } else { m with r0 := m.r1 }
def eol (m : MSt) : Bool × MSt :=
  if m.has 1 = false then (true, m)
  else if m.at0 = 10 then (true, { m with r1 := m.r1 + 1, line := m.line + 1 })
  else if m.at0 = 13 then
    if m.has 2 = false then (true, { m with r1 := m.r1 + 1 })
    else if m.t.getD (m.r1 + 1) 0 = 10 then (true, { m with r1 := m.r1 + 2, line := m.line + 1 })
    else (false, m)
  else (false, m)
end MSt

/-- The comma behind a measurement or a tag. -/
def mComma (m : MSt) : MSt × Option Flt :=
  if m.has 1 = true ∧ m.at0 = 44 then
    if (m.adv 1).has 1 = false ∨ whiteP (m.adv 1).at0.toNat = true then ((m.adv 1).broke, some ((m.adv 1).flt (m.adv 1).off)) else (m.adv 1, none)
  else (m, none)

/-- The measurement. -/
def mMeas (m : MSt) : MSt × Option Flt :=
  let a := m.reset
  let u := tok measP measE a.rest
  let b := a.tk measP measE
  if Lib.validD u.2 = false ∨ u.1 = 0 ∨ u.2.head? = some 35 then (b.broke, some (b.flt a.off))
  else match mComma b with
    | (c, some f) => (c, some f)
    | (c, none) => (c.to 1, none)

inductive TagR
  | err (f : Flt)
  | none
  | some

/-- The next tag. -/
def mTag (m : MSt) : MSt × TagR :=
  if m.sec ≠ 1 then (m, .none)
  else if m.has 1 = true ∧ blankP m.at0.toNat = true then ((m.skip blankP).to 2, .none)
  else
    let u := tok tagKeyP tagE m.rest
    let b := m.tk tagKeyP tagE
    if Lib.validD u.2 = false ∨ u.1 = 0 ∨ b.has 1 = false ∨ b.at0 ≠ 61 then (b.broke, .err (b.flt m.off))
    else
      let c := b.adv 1
      let v := tok tagValP tagE c.rest
      let d := c.tk tagValP tagE
      if Lib.validD v.2 = false ∨ v.1 = 0 then (d.broke, .err (d.flt c.off))
      else if d.has 1 = false then (d.to 2, .some)
      else match mComma d with
        | (e, some f) => (e, .err f)
        | (e, none) => (e, .some)

/-- A field: its key, its kind, its bytes. -/
structure FD where
  key : List UInt8
  kind : Nat
  raw : List UInt8

inductive FieldR
  | err (f : Flt)
  | none
  | some (d : FD)

/-- A number's kind and bytes. -/
def numOf (l : List UInt8) : Nat × List UInt8 :=
  if l.getLast? = some 105 then (2, l.dropLast) else if l.getLast? = some 117 then (3, l.dropLast) else (4, l)

/-- A field's value, from its first byte on. -/
def mVal (m : MSt) : MSt × (Flt ⊕ Nat × List UInt8) :=
  if m.at0 = 34 then
    let d := m.adv 1
    let v := tok strValP strE d.rest
    let e := d.tk strValP strE
    if Lib.validD v.2 = false then (e.broke, .inl (e.flt d.off))
    else if e.has 1 = false then (e.broke, .inl (e.flt (d.off - 1)))
    else (e.adv 1, .inr (1, v.2))
  else if m.at0 = 116 ∨ m.at0 = 84 ∨ m.at0 = 102 ∨ m.at0 = 70 then (m.skip fieldValP, .inr (5, m.ran fieldValP))
  else if m.at0 = 45 ∨ m.at0 = 46 ∨ (48 ≤ m.at0.toNat ∧ m.at0.toNat ≤ 57) then (m.skip fieldValP, .inr (numOf (m.ran fieldValP)))
  else (m.broke, .inl (m.flt m.off))

/-- Behind a field's value. -/
def mBehind (m : MSt) : MSt × Option Flt :=
  if m.has 1 = false then (m.to 5, none)
  else if m.at0 = 44 then (m.adv 1, none)
  else if whiteP m.at0.toNat = false then (m.broke, some (m.flt m.off))
  else if (m.skip blankP).eol.1 = true then ((m.skip blankP).eol.2.to 5, none) else ((m.skip blankP).eol.2.to 3, none)

/-- The next field. -/
def mField (m : MSt) : MSt × FieldR :=
  if m.sec ≠ 2 then (m, .none)
  else
    let u := tok fieldKeyP tagE m.rest
    let b := m.tk fieldKeyP tagE
    if Lib.validD u.2 = false ∨ u.1 = 0 then (b.broke, .err (b.flt m.off))
    else if b.has 1 = false ∨ b.at0 ≠ 61 then (b.broke, .err (b.flt b.off))
    else
      let c := b.adv 1
      if c.has 1 = false then (c.broke, .err (c.flt c.off))
      else match mVal c with
        | (d, .inl f) => (d, .err f)
        | (d, .inr x) => match mBehind d with
          | (e, some f) => (e, .err f)
          | (e, none) => (e, .some ⟨u.2, x.1, x.2⟩)

inductive TimeR
  | err (f : Flt)
  | ok (l : List UInt8)

/-- The time; [] where there is none. -/
def mTime (m : MSt) : MSt × TimeR :=
  if m.sec ≠ 3 then (m, .ok [])
  else
    let l := m.ran timeCP
    let b := if l = [] then (m.skip timeCP).to 5 else m.skip timeCP
    if b.has 1 = false then (b.to 5, .ok l)
    else if whiteP b.at0.toNat = false then ((b.skip notEolP).broke, .err ((b.skip notEolP).flt m.off))
    else
      let c := b.skip blankP
      if c.has 1 = false then (c.to 5, .ok l)
      else if c.eol.1 = true then (c.eol.2.to 5, .ok l)
      else ((c.skip notEolP).broke, .err ((c.skip notEolP).flt c.off))

/-- The rest of a line is gone by. -/
def mLine (m : MSt) : MSt :=
  let a := m.skip notNlP
  let b := if a.at0 = 10 then { a.adv 1 with line := a.line + 1 } else a
  b.reset.to 5

/-- One round of going by empty lines: on, or the end. -/
def skipStep (m : MSt) : MSt ⊕ MSt :=
  let a := m.skip blankP
  if a.at0 = 35 then
    let b := a.skip commentP
    if b.eol.1 = true then .inl b.eol.2 else .inr { b.eol.2 with r1 := b.r0 + m.off }
  else if a.at0 = 10 then .inl { a.adv 1 with line := a.line + 1 }
  else if a.at0 = 13 then (if a.eol.1 = true then .inl a.eol.2 else .inr a.eol.2)
  else .inr a

section
variable {σ β : Type}

/-- Rounds to the end. -/
inductive Iter (f : σ → σ ⊕ β) : σ → β → Prop
  | done {s : σ} {b : β} : f s = .inr b → Iter f s b
  | more {s s' : σ} {b : β} : f s = .inl s' → Iter f s' b → Iter f s b

theorem Iter.det {f : σ → σ ⊕ β} {s : σ} {b b' : β} (h : Iter f s b) : Iter f s b' → b = b' := by
  induction h with
  | done h1 =>
    intro h'
    cases h' with
    | done h2 => rw [h1] at h2; simpa using h2
    | more h2 _ => rw [h1] at h2; simp at h2
  | more h1 _ ih =>
    intro h'
    cases h' with
    | done h2 => rw [h1] at h2; simp at h2
    | more h2 h3 => rw [h1] at h2; simp at h2; subst h2; exact ih h3

open Classical in
/-- What the rounds end in; if they end. -/
noncomputable def iterR (f : σ → σ ⊕ β) (z : β) (s : σ) : β := if h : ∃ b, Iter f s b then h.choose else z

theorem iterR_eq {f : σ → σ ⊕ β} {z : β} {s : σ} {b : β} (h : Iter f s b) : iterR f z s = b := by
  unfold iterR
  have hx : ∃ b, Iter f s b := ⟨b, h⟩
  rw [dif_pos hx]
  exact hx.choose_spec.det h

theorem iterR_done {f : σ → σ ⊕ β} {z : β} {s : σ} {b : β} (h : f s = .inr b) : iterR f z s = b := iterR_eq (.done h)

theorem iterR_more {f : σ → σ ⊕ β} {z : β} {s s' : σ} (h : f s = .inl s') : iterR f z s = iterR f z s' := by
  by_cases hx : ∃ b, Iter f s' b
  · obtain ⟨b, hb⟩ := hx
    rw [iterR_eq hb, iterR_eq (.more h hb)]
  · have hy : ¬ ∃ b, Iter f s b := by
      rintro ⟨b, hb⟩
      cases hb with
      | done h2 => rw [h] at h2; simp at h2
      | more h2 h3 => rw [h] at h2; simp at h2; subst h2; exact hx ⟨b, h3⟩
    unfold iterR
    rw [dif_neg hx, dif_neg hy]
end

def m0 : MSt := ⟨[], 0, 0, 0, 0⟩

/-- Empty lines gone by. -/
noncomputable def mSkip (m : MSt) : MSt := iterR skipStep m0 m

def tagStep (m : MSt) : MSt ⊕ (MSt × Option Flt) :=
  match mTag m with
  | (a, .some) => .inl a
  | (a, .none) => .inr (a, none)
  | (a, .err f) => .inr (a, some f)

/-- All tags. -/
noncomputable def mTags (m : MSt) : MSt × Option Flt := iterR tagStep (m0, none) m

def fieldStep (m : MSt) : MSt ⊕ (MSt × Option Flt) :=
  match mField m with
  | (a, .some _) => .inl a
  | (a, .none) => .inr (a, none)
  | (a, .err f) => .inr (a, some f)

/-- All fields. -/
noncomputable def mFields (m : MSt) : MSt × Option Flt := iterR fieldStep (m0, none) m

/-- The measurement and the tags. -/
noncomputable def mHead (m : MSt) : MSt × Option Flt :=
  match mMeas m with
  | (a, some f) => (a, some f)
  | (a, none) => mTags a

/-- All ahead of the time. -/
noncomputable def mAhead (m : MSt) : MSt × Option Flt :=
  match mHead m with
  | (a, some f) => (a, some f)
  | (a, none) => mFields a

/-- An entry to its end: the time. -/
noncomputable def mEntry (m : MSt) : MSt × TimeR :=
  match mAhead m with
  | (a, some f) => (a, .err f)
  | (a, none) => mTime a

/-- An entry to its first field. -/
noncomputable def mFirst (m : MSt) : MSt × FieldR :=
  match mHead m with
  | (a, some f) => (a, .err f)
  | (a, none) => mField a

/-- What is left of an entry is gone by. -/
noncomputable def mLeft (m : MSt) : MSt :=
  let a := if m.sec = 2 then (mFields m).1 else m
  let b := if a.sec = 3 then (mTime a).1 else a
  if b.sec = 4 then mLine b else b

/-- On to the next entry. -/
noncomputable def mNext (m : MSt) : MSt := (mSkip (mLeft m)).to 0

/-! ### where the parts leave -/
theorem broke_sec (m : MSt) : 4 ≤ m.broke.sec ∧ m.broke.sec ≤ 5 := by unfold MSt.broke; simp only; split <;> omega

theorem mComma_sec (m : MSt) : ((mComma m).2 ≠ none → 4 ≤ (mComma m).1.sec ∧ (mComma m).1.sec ≤ 5) ∧ ((mComma m).2 = none → (mComma m).1.sec = m.sec) := by
  unfold mComma
  split
  · split
    · exact ⟨fun _ => broke_sec _, fun h => by simp at h⟩
    · exact ⟨fun h => absurd rfl h, fun _ => rfl⟩
  · exact ⟨fun h => absurd rfl h, fun _ => rfl⟩

end Go.Proofs.YtejlokdcocacaaaGreatDoor
