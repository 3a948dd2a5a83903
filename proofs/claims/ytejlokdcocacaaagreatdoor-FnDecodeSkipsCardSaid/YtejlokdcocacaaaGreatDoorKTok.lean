/- A token with escapes: how many bytes it takes, and what it says. Plain: no program here. -/
import Derived.Test.YtejlokdcocacaaaGreatDoorKBase
import Derived.Lib.ValidLaws
namespace Go.Proofs.YtejlokdcocacaaaGreatDoor
open Go.RowKit

/-- How many bytes a token takes, and what it says: f: the bytes that it may have; g: what a backslash and a byte stand for, or 0. -/
def tok (f : Nat → Bool) (g : Nat → Int) : List UInt8 → Nat × List UInt8
  | [] => (0, [])
  | [c] => if c.toNat = 92 then (1, [c]) else if f c.toNat = true then (1, [c]) else (0, [])
  | c :: d :: r =>
    if c.toNat = 92 then
      if g d.toNat = 0 then ((tok f g (d :: r)).1 + 1, c :: (tok f g (d :: r)).2)
      else ((tok f g r).1 + 2, UInt8.ofNat (g d.toNat).toNat :: (tok f g r).2)
    else if f c.toNat = true then ((tok f g (d :: r)).1 + 1, c :: (tok f g (d :: r)).2) else (0, [])

section
variable (f : Nat → Bool) (g : Nat → Int)

theorem tok_stop (c : UInt8) (r : List UInt8) (h : c.toNat ≠ 92) (hf : f c.toNat = false) : tok f g (c :: r) = (0, []) := by
  cases r <;> simp [tok, h, hf]
theorem tok_plain (c : UInt8) (r : List UInt8) (h : c.toNat ≠ 92) (hf : f c.toNat = true) : tok f g (c :: r) = ((tok f g r).1 + 1, c :: (tok f g r).2) := by
  cases r <;> simp [tok, h, hf]
theorem tok_keep (c d : UInt8) (r : List UInt8) (h : c.toNat = 92) (hg : g d.toNat = 0) : tok f g (c :: d :: r) = ((tok f g (d :: r)).1 + 1, c :: (tok f g (d :: r)).2) := by
  simp [tok, h, hg]
theorem tok_esc (c d : UInt8) (r : List UInt8) (h : c.toNat = 92) (hg : g d.toNat ≠ 0) : tok f g (c :: d :: r) = ((tok f g r).1 + 2, UInt8.ofNat (g d.toNat).toNat :: (tok f g r).2) := by
  simp [tok, h, hg]
theorem tok_last (c : UInt8) (h : c.toNat = 92) : tok f g [c] = (1, [c]) := by
  simp [tok, h]

/-- The bounds. -/
theorem tok_le : ∀ (k : Nat) (l : List UInt8), l.length ≤ k → (tok f g l).1 ≤ l.length ∧ (tok f g l).2.length ≤ (tok f g l).1
  | 0, l, h => by
    have : l = [] := List.eq_nil_of_length_eq_zero (by omega)
    subst this
    simp [tok]
  | k + 1, [], _ => by simp [tok]
  | k + 1, [c], _ => by
    unfold tok
    split
    · simp
    · split <;> simp
  | k + 1, c :: d :: r, h => by
    have h1 := tok_le k (d :: r) (by simp at h ⊢; omega)
    have h2 := tok_le k r (by simp at h ⊢; omega)
    unfold tok
    simp only [List.length_cons] at *
    split
    · split
      · simp only [List.length_cons]; omega
      · simp only [List.length_cons]; omega
    · split
      · simp only [List.length_cons]; omega
      · simp

/-- Where reading stands: i bytes are gone by, they say P. -/
def TokAt (l : List UInt8) (i : Nat) (P : List UInt8) : Prop :=
  i ≤ l.length ∧ tok f g l = (i + (tok f g (l.drop i)).1, P ++ (tok f g (l.drop i)).2)

variable {f g}
theorem TokAt.zero (l : List UInt8) : TokAt f g l 0 [] := ⟨Nat.zero_le _, by simp⟩

theorem drop_at (l : List UInt8) (i : Nat) (h : i < l.length) : l.drop i = l[i] :: l.drop (i + 1) := List.drop_eq_getElem_cons h

theorem TokAt.plain {l : List UInt8} {i : Nat} {P : List UInt8} (h : TokAt f g l i P) (hi : i < l.length) (h92 : (l[i]).toNat ≠ 92) (hf : f (l[i]).toNat = true) : TokAt f g l (i + 1) (P ++ [l[i]]) := by
  refine ⟨by omega, ?_⟩
  rw [h.2, drop_at l i hi, tok_plain f g _ _ h92 hf]
  simp; omega
theorem TokAt.held {l : List UInt8} {i : Nat} {P : List UInt8} (h : TokAt f g l i P) (hi : i + 1 < l.length) (h92 : (l[i]).toNat = 92) (hg : g (l[i + 1]).toNat = 0) : TokAt f g l (i + 1) (P ++ [l[i]]) := by
  refine ⟨by omega, ?_⟩
  rw [h.2, drop_at l i (by omega), drop_at l (i + 1) hi, tok_keep f g _ _ _ h92 hg]
  simp; omega
theorem TokAt.esc {l : List UInt8} {i : Nat} {P : List UInt8} (h : TokAt f g l i P) (hi : i + 1 < l.length) (h92 : (l[i]).toNat = 92) (hg : g (l[i + 1]).toNat ≠ 0) : TokAt f g l (i + 2) (P ++ [UInt8.ofNat (g (l[i + 1]).toNat).toNat]) := by
  refine ⟨by omega, ?_⟩
  rw [h.2, drop_at l i (by omega), drop_at l (i + 1) hi, tok_esc f g _ _ _ h92 hg, show i + 1 + 1 = i + 2 from rfl]
  simp; omega
theorem TokAt.stop {l : List UInt8} {i : Nat} {P : List UInt8} (h : TokAt f g l i P) (hi : i < l.length) (h92 : (l[i]).toNat ≠ 92) (hf : f (l[i]).toNat = false) : tok f g l = (i, P) := by
  rw [h.2, drop_at l i hi, tok_stop f g _ _ h92 hf]; simp
theorem TokAt.last {l : List UInt8} {i : Nat} {P : List UInt8} (h : TokAt f g l i P) (hi : i + 1 = l.length) (h92 : (l[i]).toNat = 92) : tok f g l = (i + 1, P ++ [l[i]]) := by
  rw [h.2, drop_at l i (by omega), show l.drop (i + 1) = [] by rw [hi]; simp, tok_last f g _ h92]
theorem TokAt.atLast {l : List UInt8} {i : Nat} {P : List UInt8} (h : TokAt f g l i P) (hi : i + 1 = l.length) (h92 : (l[i]).toNat = 92) : TokAt f g l (i + 1) (P ++ [l[i]]) := by
  refine ⟨by omega, ?_⟩
  rw [h.last hi h92, show l.drop (i + 1) = [] by rw [hi]; simp]
  simp [tok]
theorem TokAt.fin {l : List UInt8} {i : Nat} {P : List UInt8} (h : TokAt f g l i P) (hi : i = l.length) : tok f g l = (i, P) := by
  rw [h.2, hi]; simp [tok]
end

/-- What takeEsc's loop knows at byte i of l: the bytes say P; U is unescaped, up to byte k. -/
structure TS (f : Nat → Bool) (g : Nat → Int) (l : List UInt8) (sk : Bool) (i k : Nat) (P U : List UInt8) : Prop where
  tk : TokAt f g l i P
  ki : k ≤ i
  len : P.length ≤ i
  skU : sk = true → U = [] ∧ k = 0
  eq : sk = false → P = U ++ (l.take i).drop k
  none : U = [] → k = 0
  some : U ≠ [] → P.length < i
  ul : U.length ≤ P.length

section
variable {f : Nat → Bool} {g : Nat → Int} {l : List UInt8} {sk : Bool} {i k : Nat} {P U : List UInt8}

theorem TS.zero : TS f g l sk 0 0 [] [] :=
  ⟨TokAt.zero l, Nat.le_refl _, Nat.le_refl _, fun _ => ⟨rfl, rfl⟩, fun _ => by simp, fun _ => rfl, fun h => absurd rfl h, Nat.le_refl _⟩

theorem take_snoc (l : List UInt8) (i k : Nat) (hi : i < l.length) (hk : k ≤ i) : (l.take (i + 1)).drop k = (l.take i).drop k ++ [l[i]] := by
  rw [List.take_succ_eq_append_getElem hi, List.drop_append_of_le_length (by simp; omega)]

/-- A byte more, as it stands. -/
theorem TS.more (h : TS f g l sk i k P U) (hi : i < l.length) (ht : TokAt f g l (i + 1) (P ++ [l[i]])) : TS f g l sk (i + 1) k (P ++ [l[i]]) U :=
  ⟨ht, by have := h.ki; omega, by have := h.len; simp; omega, h.skU, fun hs => by rw [take_snoc l i k hi h.ki, ← List.append_assoc, ← h.eq hs], h.none, fun hu => by have := h.some hu; simp; omega, by have := h.ul; simp; omega⟩

/-- An escape gone by, where all is skipped. -/
theorem TS.skip (h : TS f g l true i k P U) (c : UInt8) (ht : TokAt f g l (i + 2) (P ++ [c])) : TS f g l true (i + 2) k (P ++ [c]) U :=
  ⟨ht, by have := h.ki; omega, by have := h.len; simp; omega, h.skU, fun hs => by simp at hs, h.none, fun hu => by have := h.some hu; simp; omega, by have := h.ul; simp; omega⟩

/-- An escape unescaped. -/
theorem TS.unesc (h : TS f g l false i k P U) (c : UInt8) (ht : TokAt f g l (i + 2) (P ++ [c])) (hi : i + 2 ≤ l.length) : TS f g l false (i + 2) (i + 2) (P ++ [c]) (U ++ (l.take i).drop k ++ [c]) :=
  ⟨ht, Nat.le_refl _, by have := h.len; simp; omega, fun hs => by simp at hs, fun _ => by
    have e : (l.take (i + 2)).drop (i + 2) = [] := List.drop_eq_nil_of_le (by simp; omega)
    rw [e, List.append_nil, ← h.eq rfl], fun hu => by simp at hu, fun _ => by have := h.len; simp; omega, by rw [← h.eq rfl]; exact Nat.le_refl _⟩

/-- At the end: what is skipped, or has no escape, is what stands there. -/
theorem TS.same (h : TS f g l sk i k P U) (hi : i ≤ l.length) (hU : U = []) : (sk = false → P = l.take i ∧ P.length = i) := fun hs => by
  have h2 := h.eq hs
  rw [hU, h.none hU] at h2
  simp at h2
  exact ⟨h2, by rw [h2]; simp; omega⟩
end

end Go.Proofs.YtejlokdcocacaaaGreatDoor

/- UTF-8 byte by byte; a token's bytes and what they say are well formed alike. Plain: no program here. -/
namespace Go.Proofs.YtejlokdcocacaaaGreatDoor
open Go.RowKit

/-- Well formed UTF-8 where n bytes are still wanted, the next one from lo to hi. -/
def u8 : List UInt8 → Nat → Nat → Nat → Bool
  | [], n, _, _ => n == 0
  | c :: t, 0, _, _ => if c.toNat < 128 then u8 t 0 0 0 else if Lib.firstT c.toNat % 8 = 1 then false else u8 t (Lib.firstT c.toNat % 8 - 1) (Lib.accLo (Lib.firstT c.toNat / 16)) (Lib.accHi (Lib.firstT c.toNat / 16))
  | c :: t, n + 1, lo, hi => if lo ≤ c.toNat ∧ c.toNat ≤ hi then u8 t n 128 191 else false

theorem u8_zero (l : List UInt8) (a b c d : Nat) : u8 l 0 a b = u8 l 0 c d := by
  cases l <;> simp [u8]

theorem firstT_kinds (x : Nat) (h : 128 ≤ x) : Lib.firstT x % 8 = 1 ∨ Lib.firstT x % 8 = 2 ∨ Lib.firstT x % 8 = 3 ∨ Lib.firstT x % 8 = 4 := by
  unfold Lib.firstT
  repeat' split
  all_goals omega

theorem validD_u8 : ∀ (k : Nat) (l : List UInt8), l.length ≤ k → Lib.validD l = u8 l 0 0 0
  | 0, l, h => by
    have : l = [] := List.eq_nil_of_length_eq_zero (by omega)
    subst this; rfl
  | k + 1, [], _ => rfl
  | k + 1, c :: t, h => by
    have ih := validD_u8 k
    simp only [List.length_cons] at h
    by_cases h128 : c.toNat < 128
    · rw [Lib.validD_cons c t h128, ih t (by omega)]
      simp [u8, h128]
    · rw [Lib.validD_lead (c :: t) (by simp) (by simp; omega)]
      simp only [List.getD_cons_zero, List.length_cons]
      generalize hlo : Lib.accLo (Lib.firstT c.toNat / 16) = lo
      generalize hhi : Lib.accHi (Lib.firstT c.toNat / 16) = hi
      have hk := firstT_kinds c.toNat (by omega)
      generalize hsz : Lib.firstT c.toNat % 8 = sz at hk ⊢
      have hu : u8 (c :: t) 0 0 0 = if sz = 1 then false else u8 t (sz - 1) lo hi := by simp [u8, h128, hsz, hlo, hhi]
      rw [hu]
      clear hu hsz hlo hhi
      rcases hk with rfl | rfl | rfl | rfl
      · simp [Lib.checkN]
      · rcases t with _ | ⟨b1, r⟩
        · simp [Lib.checkN, u8]
        · have e := ih r (by simp at h; omega)
          simp only [List.length_cons, List.getD_cons_succ, List.getD_cons_zero]
          by_cases hb : lo ≤ b1.toNat ∧ b1.toNat ≤ hi
          · have ec : ∀ n x y, 2 ≤ n → Lib.checkN n b1.toNat x y 2 lo hi = some 2 := fun n x y hn => by simp [Lib.checkN]; omega
            rw [ec _ _ _ (by omega)]
            simp [u8, hb, u8_zero r 128 191 0 0, ← e]
          · have ec : ∀ n x y, Lib.checkN n b1.toNat x y 2 lo hi = none := fun n x y => by simp [Lib.checkN]; omega
            rw [ec]
            simp [u8, hb]
      · rcases t with _ | ⟨b1, _ | ⟨b2, r⟩⟩
        · simp [Lib.checkN, u8]
        · simp [Lib.checkN, u8]
        · have e := ih r (by simp at h; omega)
          simp only [List.length_cons, List.getD_cons_succ, List.getD_cons_zero]
          by_cases hb : lo ≤ b1.toNat ∧ b1.toNat ≤ hi
          · by_cases hb2 : 128 ≤ b2.toNat ∧ b2.toNat ≤ 191
            · have ec : ∀ n y, 3 ≤ n → Lib.checkN n b1.toNat b2.toNat y 3 lo hi = some 3 := fun n y hn => by simp [Lib.checkN]; omega
              rw [ec _ _ (by omega)]
              simp [u8, hb, hb2, u8_zero r 128 191 0 0, ← e]
            · have ec : ∀ n y, Lib.checkN n b1.toNat b2.toNat y 3 lo hi = none := fun n y => by simp [Lib.checkN]; omega
              rw [ec]
              simp [u8, hb, hb2]
          · have ec : ∀ n x y, Lib.checkN n b1.toNat x y 3 lo hi = none := fun n x y => by simp [Lib.checkN]; omega
            rw [ec]
            simp [u8, hb]
      · rcases t with _ | ⟨b1, _ | ⟨b2, _ | ⟨b3, r⟩⟩⟩
        · simp [Lib.checkN, u8]
        · simp [Lib.checkN, u8]
        · simp [Lib.checkN, u8]
        · have e := ih r (by simp at h; omega)
          simp only [List.length_cons, List.getD_cons_succ, List.getD_cons_zero]
          by_cases hb : lo ≤ b1.toNat ∧ b1.toNat ≤ hi
          · by_cases hb2 : 128 ≤ b2.toNat ∧ b2.toNat ≤ 191
            · by_cases hb3 : 128 ≤ b3.toNat ∧ b3.toNat ≤ 191
              · have ec : ∀ n, 4 ≤ n → Lib.checkN n b1.toNat b2.toNat b3.toNat 4 lo hi = some 4 := fun n hn => by simp [Lib.checkN]; omega
                rw [ec _ (by omega)]
                simp [u8, hb, hb2, hb3, u8_zero r 128 191 0 0, ← e]
              · have ec : ∀ n, Lib.checkN n b1.toNat b2.toNat b3.toNat 4 lo hi = none := fun n => by simp [Lib.checkN]; omega
                rw [ec]
                simp [u8, hb, hb2, hb3]
            · have ec : ∀ n y, Lib.checkN n b1.toNat b2.toNat y 4 lo hi = none := fun n y => by simp [Lib.checkN]; omega
              rw [ec]
              simp [u8, hb, hb2]
          · have ec : ∀ n x y, Lib.checkN n b1.toNat x y 4 lo hi = none := fun n x y => by simp [Lib.checkN]; omega
            rw [ec]
            simp [u8, hb]

theorem validD_is (l : List UInt8) : Lib.validD l = u8 l 0 0 0 := validD_u8 l.length l (Nat.le_refl _)

/-- A byte below 128 where more are wanted. -/
theorem u8_asc (c : UInt8) (t : List UInt8) (n lo hi : Nat) (hc : c.toNat < 128) (hlo : 128 ≤ lo) : u8 (c :: t) n lo hi = if n = 0 then u8 t 0 0 0 else false := by
  cases n with
  | zero => simp [u8, hc]
  | succ n => simp only [u8]; rw [if_neg (by omega), if_neg (by omega)]

theorem accLo_ge (i : Nat) (h : i < 5) : 128 ≤ Lib.accLo i := by
  unfold Lib.accLo
  repeat' split
  all_goals omega

theorem firstT_div (x : Nat) (h : 128 ≤ x) (h1 : Lib.firstT x % 8 ≠ 1) : Lib.firstT x / 16 < 5 := by
  unfold Lib.firstT at *
  repeat' split
  all_goals first | omega | (simp_all; done)

/-- One byte, whatever it is, ahead of two texts that go on alike. -/
theorem u8_cons (c : UInt8) (t t' : List UInt8) (h : ∀ n lo hi, 128 ≤ lo → u8 t n lo hi = u8 t' n lo hi) : ∀ n lo hi, 128 ≤ lo → u8 (c :: t) n lo hi = u8 (c :: t') n lo hi := by
  intro n lo hi hlo
  have h0 : u8 t 0 0 0 = u8 t' 0 0 0 := by rw [u8_zero t 0 0 128 0, u8_zero t' 0 0 128 0]; exact h 0 128 0 (Nat.le_refl _)
  cases n with
  | zero =>
    simp only [u8]
    by_cases hc : c.toNat < 128
    · rw [if_pos hc, if_pos hc, h0]
    · rw [if_neg hc, if_neg hc]
      by_cases h1 : Lib.firstT c.toNat % 8 = 1
      · rw [if_pos h1, if_pos h1]
      · rw [if_neg h1, if_neg h1, h _ _ _ (accLo_ge _ (firstT_div _ (by omega) h1))]
  | succ n =>
    simp only [u8]
    split
    · exact h _ _ _ (Nat.le_refl _)
    · rfl

/-- What a token's bytes are, and what they say: well formed alike. -/
theorem tok_u8 (f : Nat → Bool) (g : Nat → Int) (hg : ∀ c, c < 256 → g c ≠ 0 → c < 128 ∧ 0 ≤ g c ∧ g c < 128) : ∀ (k : Nat) (l : List UInt8), l.length ≤ k → ∀ n lo hi, 128 ≤ lo → u8 (l.take (tok f g l).1) n lo hi = u8 (tok f g l).2 n lo hi
  | _, [], _ => by simp [tok]
  | 0, _ :: _, h => by simp at h
  | k + 1, [c], _ => by
    intro n lo hi _
    by_cases h92 : c.toNat = 92
    · rw [tok_last f g c h92]; rfl
    · by_cases hf : f c.toNat = true
      · rw [tok_plain f g c [] h92 hf]; simp [tok]
      · rw [tok_stop f g c [] h92 (by simpa using hf)]; rfl
  | k + 1, c :: d :: r, h => by
    by_cases h92 : c.toNat = 92
    · by_cases hz : g d.toNat = 0
      · have ih := tok_u8 f g hg k (d :: r) (by simp at h ⊢; omega)
        rw [tok_keep f g c d r h92 hz]
        exact u8_cons c _ _ ih
      · have ih := tok_u8 f g hg k r (by simp at h; omega)
        have hgd := hg d.toNat d.toNat_lt hz
        rw [tok_esc f g c d r h92 hz]
        intro n lo hi hlo
        have e : (c :: d :: r).take ((tok f g r).1 + 2) = c :: d :: r.take (tok f g r).1 := rfl
        have hx : (UInt8.ofNat (g d.toNat).toNat).toNat < 128 := by
          rw [UInt8.toNat_ofNat']; omega
        simp only [e]
        rw [u8_asc c _ n lo hi (by omega) hlo, u8_asc _ _ n lo hi hx hlo]
        split
        · rw [u8_zero _ 0 0 128 0, u8_asc d _ 0 128 0 hgd.1 (Nat.le_refl _), if_pos rfl, u8_zero _ 0 0 128 0, ih 0 128 0 (Nat.le_refl _), u8_zero _ 128 0 0 0]
        · rfl
    · by_cases hf : f c.toNat = true
      · have ih := tok_u8 f g hg k (d :: r) (by simp at h ⊢; omega)
        rw [tok_plain f g c (d :: r) h92 hf]
        exact u8_cons c _ _ ih
      · rw [tok_stop f g c _ h92 (by simpa using hf)]
        intro n lo hi _; rfl

theorem tok_valid (f : Nat → Bool) (g : Nat → Int) (hg : ∀ c, c < 256 → g c ≠ 0 → c < 128 ∧ 0 ≤ g c ∧ g c < 128) (l : List UInt8) : Lib.validD (l.take (tok f g l).1) = Lib.validD (tok f g l).2 := by
  rw [validD_is, validD_is, u8_zero _ 0 0 128 0, tok_u8 f g hg l.length l (Nat.le_refl _) 0 128 0 (Nat.le_refl _), u8_zero _ 128 0 0 0]

/-- Nothing taken: nothing said. -/
theorem tok_nil (f : Nat → Bool) (g : Nat → Int) (l : List UInt8) : (tok f g l).2 = [] ↔ (tok f g l).1 = 0 := by
  match l with
  | [] => simp [tok]
  | [c] =>
    by_cases h92 : c.toNat = 92
    · rw [tok_last f g c h92]; simp
    · by_cases hf : f c.toNat = true
      · rw [tok_plain f g c [] h92 hf]; simp
      · rw [tok_stop f g c [] h92 (by simpa using hf)]; simp
  | c :: d :: r =>
    by_cases h92 : c.toNat = 92
    · by_cases hz : g d.toNat = 0
      · rw [tok_keep f g c d r h92 hz]; simp
      · rw [tok_esc f g c d r h92 hz]; simp
    · by_cases hf : f c.toNat = true
      · rw [tok_plain f g c _ h92 hf]; simp
      · rw [tok_stop f g c _ h92 (by simpa using hf)]; simp

/-- Behind a token stands a byte that it may not have, or nothing. -/
theorem tok_next (f : Nat → Bool) (g : Nat → Int) : ∀ (k : Nat) (l : List UInt8), l.length ≤ k → ∀ h : (tok f g l).1 < l.length, (l[(tok f g l).1]'h).toNat ≠ 92 ∧ f (l[(tok f g l).1]'h).toNat = false
  | _, [], _ => by simp
  | 0, _ :: _, h => by simp at h
  | k + 1, [c], _ => by
    intro h
    by_cases h92 : c.toNat = 92
    · simp [tok_last f g c h92] at h
    · by_cases hf : f c.toNat = true
      · rw [tok_plain f g c [] h92 hf] at h; simp at h
      · have e := tok_stop f g c [] h92 (by simpa using hf)
        simp only [e]
        exact ⟨h92, by simpa using hf⟩
  | k + 1, c :: d :: r, hk => by
    intro h
    by_cases h92 : c.toNat = 92
    · by_cases hz : g d.toNat = 0
      · have e := tok_keep f g c d r h92 hz
        simp only [e] at h ⊢
        have ih := tok_next f g k (d :: r) (by simp at hk ⊢; omega) (by simp only [List.length_cons] at h ⊢; omega)
        simpa using ih
      · have e := tok_esc f g c d r h92 hz
        simp only [e] at h ⊢
        have ih := tok_next f g k r (by simp at hk; omega) (by simp only [List.length_cons] at h; omega)
        simpa using ih
    · by_cases hf : f c.toNat = true
      · have e := tok_plain f g c (d :: r) h92 hf
        simp only [e] at h ⊢
        have ih := tok_next f g k (d :: r) (by simp at hk ⊢; omega) (by simp only [List.length_cons] at h ⊢; omega)
        simpa using ih
      · have e := tok_stop f g c (d :: r) h92 (by simpa using hf)
        simp only [e]
        exact ⟨h92, by simpa using hf⟩

/-- A token that begins with no backslash says that byte first. -/
theorem tok_head (f : Nat → Bool) (g : Nat → Int) (l : List UInt8) (h : (tok f g l).1 ≠ 0) (x : UInt8) (hx : x.toNat ≠ 92) (hgx : ∀ c, c < 256 → 0 ≤ g c ∧ g c < 256 ∧ g c ≠ (x.toNat : Int)) : (tok f g l).2.head? = some x ↔ l.head? = some x := by
  match l with
  | [] => simp [tok] at h
  | [c] =>
    by_cases h92 : c.toNat = 92
    · rw [tok_last f g c h92]
    · by_cases hf : f c.toNat = true
      · rw [tok_plain f g c [] h92 hf]; simp
      · rw [tok_stop f g c [] h92 (by simpa using hf)] at h; simp at h
  | c :: d :: r =>
    by_cases h92 : c.toNat = 92
    · by_cases hz : g d.toNat = 0
      · rw [tok_keep f g c d r h92 hz]; simp
      · rw [tok_esc f g c d r h92 hz]
        simp only [List.head?_cons, Option.some.injEq]
        constructor
        · intro e
          have h1 := hgx d.toNat d.toNat_lt
          have h2 : (UInt8.ofNat (g d.toNat).toNat).toNat = x.toNat := by rw [e]
          rw [UInt8.toNat_ofNat'] at h2
          omega
        · intro e; subst e; exact absurd h92 hx
    · by_cases hf : f c.toNat = true
      · rw [tok_plain f g c _ h92 hf]; simp
      · rw [tok_stop f g c _ h92 (by simpa using hf)] at h; simp at h

end Go.Proofs.YtejlokdcocacaaaGreatDoor
