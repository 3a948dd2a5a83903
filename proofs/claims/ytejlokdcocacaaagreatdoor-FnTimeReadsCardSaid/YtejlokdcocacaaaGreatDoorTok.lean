/- A token with escapes: how many bytes it takes, and what it says. Plain: no program here. -/
import Derived.Test.YtejlokdcocacaaaGreatDoorBase
namespace Go.Proofs.YtejlokdcocacaaaGreatDoor
open Go.RowKit

/-- How many bytes a token takes, and what it says: f: the bytes that it may have; g: what a backslash and a byte stand for, or 0. -/
def tok (f : Nat → Bool) (g : Nat → Int) : List UInt8 → Nat × List UInt8
  | [] => (0, [])
  | [c] => if c.toNat = 92 then (1, [c]) else if f c.toNat = true then (1, [c]) else (0, [])
  | c :: d :: r =>
    if c.toNat = 92 then
      if g d.toNat = 0 then ((tok f g (d :: r)).1 + 1, c :: (tok f g (d :: r)).2)
      else ((tok f g r).1 + 2, UInt8.ofNat (g d.toNat).toNat :: (tok f g r).2)
    else if f c.toNat = true then ((tok f g (d :: r)).1 + 1, c :: (tok f g (d :: r)).2) else (0, [])

section
variable (f : Nat → Bool) (g : Nat → Int)

theorem tok_stop (c : UInt8) (r : List UInt8) (h : c.toNat ≠ 92) (hf : f c.toNat = false) : tok f g (c :: r) = (0, []) := by
  cases r <;> simp [tok, h, hf]
theorem tok_plain (c : UInt8) (r : List UInt8) (h : c.toNat ≠ 92) (hf : f c.toNat = true) : tok f g (c :: r) = ((tok f g r).1 + 1, c :: (tok f g r).2) := by
  cases r <;> simp [tok, h, hf]
theorem tok_keep (c d : UInt8) (r : List UInt8) (h : c.toNat = 92) (hg : g d.toNat = 0) : tok f g (c :: d :: r) = ((tok f g (d :: r)).1 + 1, c :: (tok f g (d :: r)).2) := by
  simp [tok, h, hg]
theorem tok_esc (c d : UInt8) (r : List UInt8) (h : c.toNat = 92) (hg : g d.toNat ≠ 0) : tok f g (c :: d :: r) = ((tok f g r).1 + 2, UInt8.ofNat (g d.toNat).toNat :: (tok f g r).2) := by
  simp [tok, h, hg]
theorem tok_last (c : UInt8) (h : c.toNat = 92) : tok f g [c] = (1, [c]) := by
  simp [tok, h]

/-- The bounds. -/
theorem tok_le : ∀ (k : Nat) (l : List UInt8), l.length ≤ k → (tok f g l).1 ≤ l.length ∧ (tok f g l).2.length ≤ (tok f g l).1
  | 0, l, h => by
    have : l = [] := List.eq_nil_of_length_eq_zero (by omega)
    subst this
    simp [tok]
  | k + 1, [], _ => by simp [tok]
  | k + 1, [c], _ => by
    unfold tok
    split
    · simp
    · split <;> simp
  | k + 1, c :: d :: r, h => by
    have h1 := tok_le k (d :: r) (by simp at h ⊢; omega)
    have h2 := tok_le k r (by simp at h ⊢; omega)
    unfold tok
    simp only [List.length_cons] at *
    split
    · split
      · simp only [List.length_cons]; omega
      · simp only [List.length_cons]; omega
    · split
      · simp only [List.length_cons]; omega
      · simp

/-- Where reading stands: i bytes are gone by, they say P. -/
def TokAt (l : List UInt8) (i : Nat) (P : List UInt8) : Prop :=
  i ≤ l.length ∧ tok f g l = (i + (tok f g (l.drop i)).1, P ++ (tok f g (l.drop i)).2)

variable {f g}
theorem TokAt.zero (l : List UInt8) : TokAt f g l 0 [] := ⟨Nat.zero_le _, by simp⟩

theorem drop_at (l : List UInt8) (i : Nat) (h : i < l.length) : l.drop i = l[i] :: l.drop (i + 1) := List.drop_eq_getElem_cons h

theorem TokAt.plain {l : List UInt8} {i : Nat} {P : List UInt8} (h : TokAt f g l i P) (hi : i < l.length) (h92 : (l[i]).toNat ≠ 92) (hf : f (l[i]).toNat = true) : TokAt f g l (i + 1) (P ++ [l[i]]) := by
  refine ⟨by omega, ?_⟩
  rw [h.2, drop_at l i hi, tok_plain f g _ _ h92 hf]
  simp; omega
theorem TokAt.held {l : List UInt8} {i : Nat} {P : List UInt8} (h : TokAt f g l i P) (hi : i + 1 < l.length) (h92 : (l[i]).toNat = 92) (hg : g (l[i + 1]).toNat = 0) : TokAt f g l (i + 1) (P ++ [l[i]]) := by
  refine ⟨by omega, ?_⟩
  rw [h.2, drop_at l i (by omega), drop_at l (i + 1) hi, tok_keep f g _ _ _ h92 hg]
  simp; omega
theorem TokAt.esc {l : List UInt8} {i : Nat} {P : List UInt8} (h : TokAt f g l i P) (hi : i + 1 < l.length) (h92 : (l[i]).toNat = 92) (hg : g (l[i + 1]).toNat ≠ 0) : TokAt f g l (i + 2) (P ++ [UInt8.ofNat (g (l[i + 1]).toNat).toNat]) := by
  refine ⟨by omega, ?_⟩
  rw [h.2, drop_at l i (by omega), drop_at l (i + 1) hi, tok_esc f g _ _ _ h92 hg, show i + 1 + 1 = i + 2 from rfl]
  simp; omega
theorem TokAt.stop {l : List UInt8} {i : Nat} {P : List UInt8} (h : TokAt f g l i P) (hi : i < l.length) (h92 : (l[i]).toNat ≠ 92) (hf : f (l[i]).toNat = false) : tok f g l = (i, P) := by
  rw [h.2, drop_at l i hi, tok_stop f g _ _ h92 hf]; simp
theorem TokAt.last {l : List UInt8} {i : Nat} {P : List UInt8} (h : TokAt f g l i P) (hi : i + 1 = l.length) (h92 : (l[i]).toNat = 92) : tok f g l = (i + 1, P ++ [l[i]]) := by
  rw [h.2, drop_at l i (by omega), show l.drop (i + 1) = [] by rw [hi]; simp, tok_last f g _ h92]
theorem TokAt.atLast {l : List UInt8} {i : Nat} {P : List UInt8} (h : TokAt f g l i P) (hi : i + 1 = l.length) (h92 : (l[i]).toNat = 92) : TokAt f g l (i + 1) (P ++ [l[i]]) := by
  refine ⟨by omega, ?_⟩
  rw [h.last hi h92, show l.drop (i + 1) = [] by rw [hi]; simp]
  simp [tok]
theorem TokAt.fin {l : List UInt8} {i : Nat} {P : List UInt8} (h : TokAt f g l i P) (hi : i = l.length) : tok f g l = (i, P) := by
  rw [h.2, hi]; simp [tok]
end

/-- What takeEsc's loop knows at byte i of l: the bytes say P; U is unescaped, up to byte k. -/
structure TS (f : Nat → Bool) (g : Nat → Int) (l : List UInt8) (sk : Bool) (i k : Nat) (P U : List UInt8) : Prop where
  tk : TokAt f g l i P
  ki : k ≤ i
  len : P.length ≤ i
  skU : sk = true → U = [] ∧ k = 0
  eq : sk = false → P = U ++ (l.take i).drop k
  none : U = [] → k = 0
  some : U ≠ [] → P.length < i
  ul : U.length ≤ P.length

section
variable {f : Nat → Bool} {g : Nat → Int} {l : List UInt8} {sk : Bool} {i k : Nat} {P U : List UInt8}

theorem TS.zero : TS f g l sk 0 0 [] [] :=
  ⟨TokAt.zero l, Nat.le_refl _, Nat.le_refl _, fun _ => ⟨rfl, rfl⟩, fun _ => by simp, fun _ => rfl, fun h => absurd rfl h, Nat.le_refl _⟩

theorem take_snoc (l : List UInt8) (i k : Nat) (hi : i < l.length) (hk : k ≤ i) : (l.take (i + 1)).drop k = (l.take i).drop k ++ [l[i]] := by
  rw [List.take_succ_eq_append_getElem hi, List.drop_append_of_le_length (by simp; omega)]

/-- A byte more, as it stands. -/
theorem TS.more (h : TS f g l sk i k P U) (hi : i < l.length) (ht : TokAt f g l (i + 1) (P ++ [l[i]])) : TS f g l sk (i + 1) k (P ++ [l[i]]) U :=
  ⟨ht, by have := h.ki; omega, by have := h.len; simp; omega, h.skU, fun hs => by rw [take_snoc l i k hi h.ki, ← List.append_assoc, ← h.eq hs], h.none, fun hu => by have := h.some hu; simp; omega, by have := h.ul; simp; omega⟩

/-- An escape gone by, where all is skipped. -/
theorem TS.skip (h : TS f g l true i k P U) (c : UInt8) (ht : TokAt f g l (i + 2) (P ++ [c])) : TS f g l true (i + 2) k (P ++ [c]) U :=
  ⟨ht, by have := h.ki; omega, by have := h.len; simp; omega, h.skU, fun hs => by simp at hs, h.none, fun hu => by have := h.some hu; simp; omega, by have := h.ul; simp; omega⟩

/-- An escape unescaped. -/
theorem TS.unesc (h : TS f g l false i k P U) (c : UInt8) (ht : TokAt f g l (i + 2) (P ++ [c])) (hi : i + 2 ≤ l.length) : TS f g l false (i + 2) (i + 2) (P ++ [c]) (U ++ (l.take i).drop k ++ [c]) :=
  ⟨ht, Nat.le_refl _, by have := h.len; simp; omega, fun hs => by simp at hs, fun _ => by
    have e : (l.take (i + 2)).drop (i + 2) = [] := List.drop_eq_nil_of_le (by simp; omega)
    rw [e, List.append_nil, ← h.eq rfl], fun hu => by simp at hu, fun _ => by have := h.len; simp; omega, by rw [← h.eq rfl]; exact Nat.le_refl _⟩

/-- At the end: what is skipped, or has no escape, is what stands there. -/
theorem TS.same (h : TS f g l sk i k P U) (hi : i ≤ l.length) (hU : U = []) : (sk = false → P = l.take i ∧ P.length = i) := fun hs => by
  have h2 := h.eq hs
  rw [hU, h.none hU] at h2
  simp at h2
  exact ⟨h2, by rw [h2]; simp; omega⟩
end

end Go.Proofs.YtejlokdcocacaaaGreatDoor
