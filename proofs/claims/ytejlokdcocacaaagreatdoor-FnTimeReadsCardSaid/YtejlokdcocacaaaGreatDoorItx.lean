/- A numeral is read as the number that it was written from. No program here. -/
import Derived.Lib.ParseIntBTie
import Derived.Lib.ItoaLen
import Derived.Test.YtejlokdcocacaaaGreatDoorSets2
namespace Go.Proofs.YtejlokdcocacaaaGreatDoor
open Go.Lib

theorem dig_nat (d : Nat) (h : d < 10) : (UInt8.ofNat (48 + d)).toNat = 48 + d := by
  simp only [UInt8.toNat_ofNat']
  omega

theorem uintM_append (M : Nat) : ∀ (l r : List UInt8) (acc u : Nat), parseUintM M acc l = .ok u → parseUintM M acc (l ++ r) = parseUintM M u r
  | [], r, acc, u, h => by
    simp only [parseUintM] at h
    injection h with h
    subst h; rfl
  | c :: l, r, acc, u, h => by
    rw [List.cons_append]
    simp only [parseUintM] at h ⊢
    split
    · rename_i h1
      rw [if_pos h1] at h
      split
      · rename_i h2
        rw [if_pos h2] at h; cases h
      · rename_i h2
        rw [if_neg h2] at h
        split
        · rename_i h3
          rw [if_pos h3] at h; cases h
        · rename_i h3
          rw [if_neg h3] at h
          exact uintM_append M l r _ u h
    · rename_i h1
      rw [if_neg h1] at h; cases h

theorem uintM_one (M acc d : Nat) (hd : d < 10) (ha : acc < 1844674407370955162) (hm : acc * 10 + d ≤ M) : parseUintM M acc [UInt8.ofNat (48 + d)] = .ok (acc * 10 + d) := by
  have e := dig_nat d hd
  simp only [parseUintM, e]
  rw [if_pos (by omega), if_neg (by omega), if_neg (by omega)]
  congr 1
  omega

theorem uintM_dec (M : Nat) (hM : M ≤ 18446744073709551615) (u : Nat) (hu : u ≤ M) : parseUintM M 0 (decDigits u) = .ok u := by
  induction u using Nat.strongRecOn with
  | _ u ih =>
    rw [decDigits]
    by_cases h : u < 10
    · rw [dif_pos h, uintM_one M 0 u h (by omega) (by omega)]
      congr 1; omega
    · rw [dif_neg h, uintM_append M _ _ 0 (u / 10) (ih (u / 10) (by omega) (by omega)), uintM_one M (u / 10) (u % 10) (by omega) (by omega) (by omega)]
      congr 1; omega

theorem dec_mem (u : Nat) : ∀ c ∈ decDigits u, 48 ≤ c.toNat ∧ c.toNat ≤ 57 := by
  induction u using Nat.strongRecOn with
  | _ u ih =>
    rw [decDigits]
    by_cases h : u < 10
    · rw [dif_pos h]
      intro c hc
      simp only [List.mem_singleton] at hc
      subst hc
      rw [dig_nat u h]; omega
    · rw [dif_neg h]
      intro c hc
      rcases List.mem_append.1 hc with hc | hc
      · exact ih (u / 10) (by omega) c hc
      · simp only [List.mem_singleton] at hc
        subst hc
        rw [dig_nat _ (by omega)]; omega

theorem dec_ne (u : Nat) : decDigits u ≠ [] := by
  intro e
  have := decDigits_length u
  rw [e] at this
  have h2 := nDigits_pos u
  simp at this; omega

theorem uintB_dec (u : Nat) (hu : u ≤ 18446744073709551615) : parseUintB 64 (decDigits u) = .ok u := by
  have e : (2 : Nat) ^ 64 - 1 = 18446744073709551615 := by decide
  unfold parseUintB
  rw [if_neg (dec_ne u), e]
  exact uintM_dec _ (Nat.le_refl _) u hu

theorem parse_itoa (x : Int) (h0 : -9223372036854775808 ≤ x) (h1 : x ≤ 9223372036854775807) : parseIntB 64 (itoa x) = .ok x := by
  have e : (2 : Nat) ^ (64 - 1) = 9223372036854775808 := by decide
  unfold itoa
  by_cases h : x < 0
  · rw [if_pos h, parseIntB_minus, uintB_dec _ (by omega), e]
    simp only [signedC]
    rw [if_neg (by omega)]
    congr 1
    omega
  · rw [if_neg h]
    have hd := dec_mem x.toNat
    have hp := uintB_dec x.toNat (by omega)
    rcases hl : decDigits x.toNat with _ | ⟨c, r⟩
    · exact absurd hl (dec_ne _)
    rw [hl] at hd hp
    have hc := hd c (by simp)
    rw [parseIntB_plain 64 c r (by omega) (by omega), hp, e]
    simp only [signlessC]
    rw [if_neg (by omega)]
    congr 1
    omega

theorem itoa_ne (x : Int) : itoa x ≠ [] := by
  unfold itoa
  split
  · simp
  · exact dec_ne _

theorem itoa_time (x : Int) : ∀ c ∈ itoa x, timeCP c.toNat = true := by
  unfold itoa
  intro c hc
  have key : ∀ u, c ∈ decDigits u → timeCP c.toNat = true := fun u h => by
    have := dec_mem u c h
    unfold timeCP
    simp only [Bool.or_eq_true, Bool.and_eq_true, decide_eq_true_eq]
    omega
  split at hc
  · rcases List.mem_cons.1 hc with rfl | hc
    · decide
    · exact key _ hc
  · exact key _ hc
end Go.Proofs.YtejlokdcocacaaaGreatDoor
