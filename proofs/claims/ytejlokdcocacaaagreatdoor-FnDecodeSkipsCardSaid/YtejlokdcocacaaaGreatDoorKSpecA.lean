/- The reference's sets of bytes: White, Odd, In. -/
import Derived.Test.YtejlokdcocacaaaGreatDoorKBase
import Derived.Outline
namespace Go.Proofs.YtejlokdcocacaaaGreatDoor
open Go.RowKit

/-- The reference's sets by number. -/
def inP (k : Nat) : Nat → Bool :=
  if k = 0 then blankP else if k = 1 then whiteP else if k = 2 ∨ k = 6 ∨ k = 7 then tagKeyP else if k = 3 then nonprintP else if k = 4 then eolP else if k = 5 then measP
  else if k = 8 then strValP else if k = 9 then fieldValP else if k = 10 then timeCP else if k = 11 then commentP else if k = 12 then notEolP else notNlP

/-- A byte: one of those that are named, or in one of the ranges between. -/
theorem byte_kinds (x : Nat) : x = 10 ∨ x = 13 ∨ x = 32 ∨ x = 34 ∨ x = 44 ∨ x = 45 ∨ x = 61 ∨ x = 127 ∨ (x < 32 ∧ x ≠ 10 ∧ x ≠ 13) ∨ (48 ≤ x ∧ x ≤ 57) ∨ (32 < x ∧ x ≠ 34 ∧ x ≠ 44 ∧ x ≠ 45 ∧ x ≠ 61 ∧ x ≠ 127 ∧ ¬ (48 ≤ x ∧ x ≤ 57)) := by omega

set_option maxHeartbeats 1000000 in
theorem white_spec (x : Nat) (w : World) : Calls Tryz.prog 130 #[.int .u8 (x : Int)] w fun e w' => e = .returned (.bool (whiteP x)) ∧ w' = w := by
  by_cases h1 : x = 32
  · subst h1
    go_enter Tryz.func130, Tryz.ntmps130
    go_wp2
    go_ret
    exact ⟨rfl, rfl⟩
  by_cases h2 : x = 13
  · subst h2
    go_enter Tryz.func130, Tryz.ntmps130
    go_wp2
    go_ret
    exact ⟨rfl, rfl⟩
  by_cases h3 : x = 10
  · subst h3
    go_enter Tryz.func130, Tryz.ntmps130
    go_wp2
    go_ret
    exact ⟨rfl, rfl⟩
  · have e1 : ((x : Int) == 32) = false := by rw [beq_eq_false_iff_ne]; omega
    have e2 : ((x : Int) == 13) = false := by rw [beq_eq_false_iff_ne]; omega
    have e3 : ((x : Int) == 10) = false := by rw [beq_eq_false_iff_ne]; omega
    have hw : whiteP x = false := by simp [whiteP, h1, h2, h3]
    rw [hw]
    clear h1 h2 h3 hw
    go_enter Tryz.func130, Tryz.ntmps130
    go_wp2
    go_ret
    exact ⟨rfl, rfl⟩

set_option maxHeartbeats 1000000 in
theorem odd_spec (x : Nat) (w : World) : Calls Tryz.prog 131 #[.int .u8 (x : Int)] w fun e w' => e = .returned (.bool (nonprintP x)) ∧ w' = w := by
  by_cases h1 : x < 32
  · have e1 : decide ((x : Int) < 32) = true := by simp; omega
    have hw : nonprintP x = true := by simp [nonprintP, h1]
    rw [hw]
    clear hw
    have h1' : (x : Int) < 32 := by omega
    clear h1
    go_enter Tryz.func131, Tryz.ntmps131
    go_wp2
    go_ret
    exact ⟨rfl, rfl⟩
  by_cases h2 : x = 127
  · subst h2
    go_enter Tryz.func131, Tryz.ntmps131
    go_wp2
    go_ret
    exact ⟨rfl, rfl⟩
  · have e2 : ((x : Int) == 127) = false := by rw [beq_eq_false_iff_ne]; omega
    have e1 : decide ((x : Int) < 32) = false := by simp; omega
    have h1' : ¬ (x : Int) < 32 := by omega
    have hw : nonprintP x = false := by simp [nonprintP, h1, h2]
    rw [hw]
    clear h1 h2 hw
    go_enter Tryz.func131, Tryz.ntmps131
    go_wp2
    go_ret
    exact ⟨rfl, rfl⟩
set_option maxHeartbeats 2000000 in
theorem in_0 (x : Nat) (w : World) : Calls Tryz.prog 92 #[.int .i64 0, .int .u8 (x : Int)] w fun e w' => e = .returned (.bool (blankP x)) ∧ w' = w := by
  have hw := white_spec x w
  have ho := odd_spec x w
  rcases byte_kinds x with rfl | rfl | rfl | rfl | rfl | rfl | rfl | rfl | h | h | h
  iterate 8
    · go_enter Tryz.func92, Tryz.ntmps92
      go_wp2_with (first | (go_at_call 130; refine hw.mono ?_; rintro e w' ⟨rfl, rfl⟩) | (go_at_call 131; refine ho.mono ?_; rintro e w' ⟨rfl, rfl⟩))
      go_ret
      exact ⟨rfl, rfl⟩
  · have a10 : ((x : Int) == 10) = false := by rw [beq_eq_false_iff_ne]; omega
    have b10 : ((x : Int) != 10) = true := by rw [bne_iff_ne]; omega
    have a13 : ((x : Int) == 13) = false := by rw [beq_eq_false_iff_ne]; omega
    have b13 : ((x : Int) != 13) = true := by rw [bne_iff_ne]; omega
    have a32 : ((x : Int) == 32) = false := by rw [beq_eq_false_iff_ne]; omega
    have b32 : ((x : Int) != 32) = true := by rw [bne_iff_ne]; omega
    have a34 : ((x : Int) == 34) = false := by rw [beq_eq_false_iff_ne]; omega
    have b34 : ((x : Int) != 34) = true := by rw [bne_iff_ne]; omega
    have a44 : ((x : Int) == 44) = false := by rw [beq_eq_false_iff_ne]; omega
    have b44 : ((x : Int) != 44) = true := by rw [bne_iff_ne]; omega
    have a45 : ((x : Int) == 45) = false := by rw [beq_eq_false_iff_ne]; omega
    have b45 : ((x : Int) != 45) = true := by rw [bne_iff_ne]; omega
    have a61 : ((x : Int) == 61) = false := by rw [beq_eq_false_iff_ne]; omega
    have b61 : ((x : Int) != 61) = true := by rw [bne_iff_ne]; omega
    have a127 : ((x : Int) == 127) = false := by rw [beq_eq_false_iff_ne]; omega
    have b127 : ((x : Int) != 127) = true := by rw [bne_iff_ne]; omega
    have r1 : ¬ (48 : Int) ≤ (x : Int) := by omega
    have d1 : decide ((48 : Int) ≤ (x : Int)) = false := by simp; omega
    have hv : blankP x = false := by simp [blankP]; omega
    have hnp : nonprintP x = true := by simp [nonprintP]; omega
    have hwp : whiteP x = false := by simp [whiteP]; omega
    rw [hnp] at ho
    rw [hwp] at hw
    rw [hv]
    clear hv hnp hwp h
    all_goals
      go_enter Tryz.func92, Tryz.ntmps92
      go_wp2_with (first | (go_at_call 130; refine hw.mono ?_; rintro e w' ⟨rfl, rfl⟩) | (go_at_call 131; refine ho.mono ?_; rintro e w' ⟨rfl, rfl⟩))
      go_ret
      exact ⟨rfl, rfl⟩
  · have a10 : ((x : Int) == 10) = false := by rw [beq_eq_false_iff_ne]; omega
    have b10 : ((x : Int) != 10) = true := by rw [bne_iff_ne]; omega
    have a13 : ((x : Int) == 13) = false := by rw [beq_eq_false_iff_ne]; omega
    have b13 : ((x : Int) != 13) = true := by rw [bne_iff_ne]; omega
    have a32 : ((x : Int) == 32) = false := by rw [beq_eq_false_iff_ne]; omega
    have b32 : ((x : Int) != 32) = true := by rw [bne_iff_ne]; omega
    have a34 : ((x : Int) == 34) = false := by rw [beq_eq_false_iff_ne]; omega
    have b34 : ((x : Int) != 34) = true := by rw [bne_iff_ne]; omega
    have a44 : ((x : Int) == 44) = false := by rw [beq_eq_false_iff_ne]; omega
    have b44 : ((x : Int) != 44) = true := by rw [bne_iff_ne]; omega
    have a45 : ((x : Int) == 45) = false := by rw [beq_eq_false_iff_ne]; omega
    have b45 : ((x : Int) != 45) = true := by rw [bne_iff_ne]; omega
    have a61 : ((x : Int) == 61) = false := by rw [beq_eq_false_iff_ne]; omega
    have b61 : ((x : Int) != 61) = true := by rw [bne_iff_ne]; omega
    have a127 : ((x : Int) == 127) = false := by rw [beq_eq_false_iff_ne]; omega
    have b127 : ((x : Int) != 127) = true := by rw [bne_iff_ne]; omega
    have r1 : (48 : Int) ≤ (x : Int) := by omega
    have r2 : (x : Int) ≤ 57 := by omega
    have d1 : decide ((48 : Int) ≤ (x : Int)) = true := by simp; omega
    have d2 : decide ((x : Int) ≤ 57) = true := by simp; omega
    have hv : blankP x = false := by simp [blankP]; omega
    have hnp : nonprintP x = false := by simp [nonprintP]; omega
    have hwp : whiteP x = false := by simp [whiteP]; omega
    rw [hnp] at ho
    rw [hwp] at hw
    rw [hv]
    clear hv hnp hwp h
    all_goals
      go_enter Tryz.func92, Tryz.ntmps92
      go_wp2_with (first | (go_at_call 130; refine hw.mono ?_; rintro e w' ⟨rfl, rfl⟩) | (go_at_call 131; refine ho.mono ?_; rintro e w' ⟨rfl, rfl⟩))
      go_ret
      exact ⟨rfl, rfl⟩
  · have a10 : ((x : Int) == 10) = false := by rw [beq_eq_false_iff_ne]; omega
    have b10 : ((x : Int) != 10) = true := by rw [bne_iff_ne]; omega
    have a13 : ((x : Int) == 13) = false := by rw [beq_eq_false_iff_ne]; omega
    have b13 : ((x : Int) != 13) = true := by rw [bne_iff_ne]; omega
    have a32 : ((x : Int) == 32) = false := by rw [beq_eq_false_iff_ne]; omega
    have b32 : ((x : Int) != 32) = true := by rw [bne_iff_ne]; omega
    have a34 : ((x : Int) == 34) = false := by rw [beq_eq_false_iff_ne]; omega
    have b34 : ((x : Int) != 34) = true := by rw [bne_iff_ne]; omega
    have a44 : ((x : Int) == 44) = false := by rw [beq_eq_false_iff_ne]; omega
    have b44 : ((x : Int) != 44) = true := by rw [bne_iff_ne]; omega
    have a45 : ((x : Int) == 45) = false := by rw [beq_eq_false_iff_ne]; omega
    have b45 : ((x : Int) != 45) = true := by rw [bne_iff_ne]; omega
    have a61 : ((x : Int) == 61) = false := by rw [beq_eq_false_iff_ne]; omega
    have b61 : ((x : Int) != 61) = true := by rw [bne_iff_ne]; omega
    have a127 : ((x : Int) == 127) = false := by rw [beq_eq_false_iff_ne]; omega
    have b127 : ((x : Int) != 127) = true := by rw [bne_iff_ne]; omega
    have hc : (48 : Int) ≤ (x : Int) ∧ ¬ (x : Int) ≤ 57 ∨ ¬ (48 : Int) ≤ (x : Int) := by omega
    have hv : blankP x = false := by simp [blankP]; omega
    have hnp : nonprintP x = false := by simp [nonprintP]; omega
    have hwp : whiteP x = false := by simp [whiteP]; omega
    rw [hnp] at ho
    rw [hwp] at hw
    rw [hv]
    clear hv hnp hwp h
    rcases hc with ⟨r1, r2⟩ | r1
    all_goals
      go_enter Tryz.func92, Tryz.ntmps92
      go_wp2_with (first | (go_at_call 130; refine hw.mono ?_; rintro e w' ⟨rfl, rfl⟩) | (go_at_call 131; refine ho.mono ?_; rintro e w' ⟨rfl, rfl⟩))
      go_ret
      exact ⟨rfl, rfl⟩

set_option maxHeartbeats 2000000 in
theorem in_1 (x : Nat) (w : World) : Calls Tryz.prog 92 #[.int .i64 1, .int .u8 (x : Int)] w fun e w' => e = .returned (.bool (whiteP x)) ∧ w' = w := by
  have hw := white_spec x w
  have ho := odd_spec x w
  rcases byte_kinds x with rfl | rfl | rfl | rfl | rfl | rfl | rfl | rfl | h | h | h
  iterate 8
    · go_enter Tryz.func92, Tryz.ntmps92
      go_wp2_with (first | (go_at_call 130; refine hw.mono ?_; rintro e w' ⟨rfl, rfl⟩) | (go_at_call 131; refine ho.mono ?_; rintro e w' ⟨rfl, rfl⟩))
      go_ret
      exact ⟨rfl, rfl⟩
  · have a10 : ((x : Int) == 10) = false := by rw [beq_eq_false_iff_ne]; omega
    have b10 : ((x : Int) != 10) = true := by rw [bne_iff_ne]; omega
    have a13 : ((x : Int) == 13) = false := by rw [beq_eq_false_iff_ne]; omega
    have b13 : ((x : Int) != 13) = true := by rw [bne_iff_ne]; omega
    have a32 : ((x : Int) == 32) = false := by rw [beq_eq_false_iff_ne]; omega
    have b32 : ((x : Int) != 32) = true := by rw [bne_iff_ne]; omega
    have a34 : ((x : Int) == 34) = false := by rw [beq_eq_false_iff_ne]; omega
    have b34 : ((x : Int) != 34) = true := by rw [bne_iff_ne]; omega
    have a44 : ((x : Int) == 44) = false := by rw [beq_eq_false_iff_ne]; omega
    have b44 : ((x : Int) != 44) = true := by rw [bne_iff_ne]; omega
    have a45 : ((x : Int) == 45) = false := by rw [beq_eq_false_iff_ne]; omega
    have b45 : ((x : Int) != 45) = true := by rw [bne_iff_ne]; omega
    have a61 : ((x : Int) == 61) = false := by rw [beq_eq_false_iff_ne]; omega
    have b61 : ((x : Int) != 61) = true := by rw [bne_iff_ne]; omega
    have a127 : ((x : Int) == 127) = false := by rw [beq_eq_false_iff_ne]; omega
    have b127 : ((x : Int) != 127) = true := by rw [bne_iff_ne]; omega
    have r1 : ¬ (48 : Int) ≤ (x : Int) := by omega
    have d1 : decide ((48 : Int) ≤ (x : Int)) = false := by simp; omega
    have hv : whiteP x = false := by simp [whiteP]; omega
    have hnp : nonprintP x = true := by simp [nonprintP]; omega
    have hwp : whiteP x = false := by simp [whiteP]; omega
    rw [hnp] at ho
    rw [hwp] at hw
    rw [hv]
    clear hv hnp hwp h
    all_goals
      go_enter Tryz.func92, Tryz.ntmps92
      go_wp2_with (first | (go_at_call 130; refine hw.mono ?_; rintro e w' ⟨rfl, rfl⟩) | (go_at_call 131; refine ho.mono ?_; rintro e w' ⟨rfl, rfl⟩))
      go_ret
      exact ⟨rfl, rfl⟩
  · have a10 : ((x : Int) == 10) = false := by rw [beq_eq_false_iff_ne]; omega
    have b10 : ((x : Int) != 10) = true := by rw [bne_iff_ne]; omega
    have a13 : ((x : Int) == 13) = false := by rw [beq_eq_false_iff_ne]; omega
    have b13 : ((x : Int) != 13) = true := by rw [bne_iff_ne]; omega
    have a32 : ((x : Int) == 32) = false := by rw [beq_eq_false_iff_ne]; omega
    have b32 : ((x : Int) != 32) = true := by rw [bne_iff_ne]; omega
    have a34 : ((x : Int) == 34) = false := by rw [beq_eq_false_iff_ne]; omega
    have b34 : ((x : Int) != 34) = true := by rw [bne_iff_ne]; omega
    have a44 : ((x : Int) == 44) = false := by rw [beq_eq_false_iff_ne]; omega
    have b44 : ((x : Int) != 44) = true := by rw [bne_iff_ne]; omega
    have a45 : ((x : Int) == 45) = false := by rw [beq_eq_false_iff_ne]; omega
    have b45 : ((x : Int) != 45) = true := by rw [bne_iff_ne]; omega
    have a61 : ((x : Int) == 61) = false := by rw [beq_eq_false_iff_ne]; omega
    have b61 : ((x : Int) != 61) = true := by rw [bne_iff_ne]; omega
    have a127 : ((x : Int) == 127) = false := by rw [beq_eq_false_iff_ne]; omega
    have b127 : ((x : Int) != 127) = true := by rw [bne_iff_ne]; omega
    have r1 : (48 : Int) ≤ (x : Int) := by omega
    have r2 : (x : Int) ≤ 57 := by omega
    have d1 : decide ((48 : Int) ≤ (x : Int)) = true := by simp; omega
    have d2 : decide ((x : Int) ≤ 57) = true := by simp; omega
    have hv : whiteP x = false := by simp [whiteP]; omega
    have hnp : nonprintP x = false := by simp [nonprintP]; omega
    have hwp : whiteP x = false := by simp [whiteP]; omega
    rw [hnp] at ho
    rw [hwp] at hw
    rw [hv]
    clear hv hnp hwp h
    all_goals
      go_enter Tryz.func92, Tryz.ntmps92
      go_wp2_with (first | (go_at_call 130; refine hw.mono ?_; rintro e w' ⟨rfl, rfl⟩) | (go_at_call 131; refine ho.mono ?_; rintro e w' ⟨rfl, rfl⟩))
      go_ret
      exact ⟨rfl, rfl⟩
  · have a10 : ((x : Int) == 10) = false := by rw [beq_eq_false_iff_ne]; omega
    have b10 : ((x : Int) != 10) = true := by rw [bne_iff_ne]; omega
    have a13 : ((x : Int) == 13) = false := by rw [beq_eq_false_iff_ne]; omega
    have b13 : ((x : Int) != 13) = true := by rw [bne_iff_ne]; omega
    have a32 : ((x : Int) == 32) = false := by rw [beq_eq_false_iff_ne]; omega
    have b32 : ((x : Int) != 32) = true := by rw [bne_iff_ne]; omega
    have a34 : ((x : Int) == 34) = false := by rw [beq_eq_false_iff_ne]; omega
    have b34 : ((x : Int) != 34) = true := by rw [bne_iff_ne]; omega
    have a44 : ((x : Int) == 44) = false := by rw [beq_eq_false_iff_ne]; omega
    have b44 : ((x : Int) != 44) = true := by rw [bne_iff_ne]; omega
    have a45 : ((x : Int) == 45) = false := by rw [beq_eq_false_iff_ne]; omega
    have b45 : ((x : Int) != 45) = true := by rw [bne_iff_ne]; omega
    have a61 : ((x : Int) == 61) = false := by rw [beq_eq_false_iff_ne]; omega
    have b61 : ((x : Int) != 61) = true := by rw [bne_iff_ne]; omega
    have a127 : ((x : Int) == 127) = false := by rw [beq_eq_false_iff_ne]; omega
    have b127 : ((x : Int) != 127) = true := by rw [bne_iff_ne]; omega
    have hc : (48 : Int) ≤ (x : Int) ∧ ¬ (x : Int) ≤ 57 ∨ ¬ (48 : Int) ≤ (x : Int) := by omega
    have hv : whiteP x = false := by simp [whiteP]; omega
    have hnp : nonprintP x = false := by simp [nonprintP]; omega
    have hwp : whiteP x = false := by simp [whiteP]; omega
    rw [hnp] at ho
    rw [hwp] at hw
    rw [hv]
    clear hv hnp hwp h
    rcases hc with ⟨r1, r2⟩ | r1
    all_goals
      go_enter Tryz.func92, Tryz.ntmps92
      go_wp2_with (first | (go_at_call 130; refine hw.mono ?_; rintro e w' ⟨rfl, rfl⟩) | (go_at_call 131; refine ho.mono ?_; rintro e w' ⟨rfl, rfl⟩))
      go_ret
      exact ⟨rfl, rfl⟩

set_option maxHeartbeats 2000000 in
theorem in_2 (x : Nat) (w : World) : Calls Tryz.prog 92 #[.int .i64 2, .int .u8 (x : Int)] w fun e w' => e = .returned (.bool (tagKeyP x)) ∧ w' = w := by
  have hw := white_spec x w
  have ho := odd_spec x w
  rcases byte_kinds x with rfl | rfl | rfl | rfl | rfl | rfl | rfl | rfl | h | h | h
  iterate 8
    · go_enter Tryz.func92, Tryz.ntmps92
      go_wp2_with (first | (go_at_call 130; refine hw.mono ?_; rintro e w' ⟨rfl, rfl⟩) | (go_at_call 131; refine ho.mono ?_; rintro e w' ⟨rfl, rfl⟩))
      go_ret
      exact ⟨rfl, rfl⟩
  · have a10 : ((x : Int) == 10) = false := by rw [beq_eq_false_iff_ne]; omega
    have b10 : ((x : Int) != 10) = true := by rw [bne_iff_ne]; omega
    have a13 : ((x : Int) == 13) = false := by rw [beq_eq_false_iff_ne]; omega
    have b13 : ((x : Int) != 13) = true := by rw [bne_iff_ne]; omega
    have a32 : ((x : Int) == 32) = false := by rw [beq_eq_false_iff_ne]; omega
    have b32 : ((x : Int) != 32) = true := by rw [bne_iff_ne]; omega
    have a34 : ((x : Int) == 34) = false := by rw [beq_eq_false_iff_ne]; omega
    have b34 : ((x : Int) != 34) = true := by rw [bne_iff_ne]; omega
    have a44 : ((x : Int) == 44) = false := by rw [beq_eq_false_iff_ne]; omega
    have b44 : ((x : Int) != 44) = true := by rw [bne_iff_ne]; omega
    have a45 : ((x : Int) == 45) = false := by rw [beq_eq_false_iff_ne]; omega
    have b45 : ((x : Int) != 45) = true := by rw [bne_iff_ne]; omega
    have a61 : ((x : Int) == 61) = false := by rw [beq_eq_false_iff_ne]; omega
    have b61 : ((x : Int) != 61) = true := by rw [bne_iff_ne]; omega
    have a127 : ((x : Int) == 127) = false := by rw [beq_eq_false_iff_ne]; omega
    have b127 : ((x : Int) != 127) = true := by rw [bne_iff_ne]; omega
    have r1 : ¬ (48 : Int) ≤ (x : Int) := by omega
    have d1 : decide ((48 : Int) ≤ (x : Int)) = false := by simp; omega
    have hv : tagKeyP x = false := by simp [tagKeyP]; omega
    have hnp : nonprintP x = true := by simp [nonprintP]; omega
    have hwp : whiteP x = false := by simp [whiteP]; omega
    rw [hnp] at ho
    rw [hwp] at hw
    rw [hv]
    clear hv hnp hwp h
    all_goals
      go_enter Tryz.func92, Tryz.ntmps92
      go_wp2_with (first | (go_at_call 130; refine hw.mono ?_; rintro e w' ⟨rfl, rfl⟩) | (go_at_call 131; refine ho.mono ?_; rintro e w' ⟨rfl, rfl⟩))
      go_ret
      exact ⟨rfl, rfl⟩
  · have a10 : ((x : Int) == 10) = false := by rw [beq_eq_false_iff_ne]; omega
    have b10 : ((x : Int) != 10) = true := by rw [bne_iff_ne]; omega
    have a13 : ((x : Int) == 13) = false := by rw [beq_eq_false_iff_ne]; omega
    have b13 : ((x : Int) != 13) = true := by rw [bne_iff_ne]; omega
    have a32 : ((x : Int) == 32) = false := by rw [beq_eq_false_iff_ne]; omega
    have b32 : ((x : Int) != 32) = true := by rw [bne_iff_ne]; omega
    have a34 : ((x : Int) == 34) = false := by rw [beq_eq_false_iff_ne]; omega
    have b34 : ((x : Int) != 34) = true := by rw [bne_iff_ne]; omega
    have a44 : ((x : Int) == 44) = false := by rw [beq_eq_false_iff_ne]; omega
    have b44 : ((x : Int) != 44) = true := by rw [bne_iff_ne]; omega
    have a45 : ((x : Int) == 45) = false := by rw [beq_eq_false_iff_ne]; omega
    have b45 : ((x : Int) != 45) = true := by rw [bne_iff_ne]; omega
    have a61 : ((x : Int) == 61) = false := by rw [beq_eq_false_iff_ne]; omega
    have b61 : ((x : Int) != 61) = true := by rw [bne_iff_ne]; omega
    have a127 : ((x : Int) == 127) = false := by rw [beq_eq_false_iff_ne]; omega
    have b127 : ((x : Int) != 127) = true := by rw [bne_iff_ne]; omega
    have r1 : (48 : Int) ≤ (x : Int) := by omega
    have r2 : (x : Int) ≤ 57 := by omega
    have d1 : decide ((48 : Int) ≤ (x : Int)) = true := by simp; omega
    have d2 : decide ((x : Int) ≤ 57) = true := by simp; omega
    have hv : tagKeyP x = true := by simp [tagKeyP]; omega
    have hnp : nonprintP x = false := by simp [nonprintP]; omega
    have hwp : whiteP x = false := by simp [whiteP]; omega
    rw [hnp] at ho
    rw [hwp] at hw
    rw [hv]
    clear hv hnp hwp h
    all_goals
      go_enter Tryz.func92, Tryz.ntmps92
      go_wp2_with (first | (go_at_call 130; refine hw.mono ?_; rintro e w' ⟨rfl, rfl⟩) | (go_at_call 131; refine ho.mono ?_; rintro e w' ⟨rfl, rfl⟩))
      go_ret
      exact ⟨rfl, rfl⟩
  · have a10 : ((x : Int) == 10) = false := by rw [beq_eq_false_iff_ne]; omega
    have b10 : ((x : Int) != 10) = true := by rw [bne_iff_ne]; omega
    have a13 : ((x : Int) == 13) = false := by rw [beq_eq_false_iff_ne]; omega
    have b13 : ((x : Int) != 13) = true := by rw [bne_iff_ne]; omega
    have a32 : ((x : Int) == 32) = false := by rw [beq_eq_false_iff_ne]; omega
    have b32 : ((x : Int) != 32) = true := by rw [bne_iff_ne]; omega
    have a34 : ((x : Int) == 34) = false := by rw [beq_eq_false_iff_ne]; omega
    have b34 : ((x : Int) != 34) = true := by rw [bne_iff_ne]; omega
    have a44 : ((x : Int) == 44) = false := by rw [beq_eq_false_iff_ne]; omega
    have b44 : ((x : Int) != 44) = true := by rw [bne_iff_ne]; omega
    have a45 : ((x : Int) == 45) = false := by rw [beq_eq_false_iff_ne]; omega
    have b45 : ((x : Int) != 45) = true := by rw [bne_iff_ne]; omega
    have a61 : ((x : Int) == 61) = false := by rw [beq_eq_false_iff_ne]; omega
    have b61 : ((x : Int) != 61) = true := by rw [bne_iff_ne]; omega
    have a127 : ((x : Int) == 127) = false := by rw [beq_eq_false_iff_ne]; omega
    have b127 : ((x : Int) != 127) = true := by rw [bne_iff_ne]; omega
    have hc : (48 : Int) ≤ (x : Int) ∧ ¬ (x : Int) ≤ 57 ∨ ¬ (48 : Int) ≤ (x : Int) := by omega
    have hv : tagKeyP x = true := by simp [tagKeyP]; omega
    have hnp : nonprintP x = false := by simp [nonprintP]; omega
    have hwp : whiteP x = false := by simp [whiteP]; omega
    rw [hnp] at ho
    rw [hwp] at hw
    rw [hv]
    clear hv hnp hwp h
    rcases hc with ⟨r1, r2⟩ | r1
    all_goals
      go_enter Tryz.func92, Tryz.ntmps92
      go_wp2_with (first | (go_at_call 130; refine hw.mono ?_; rintro e w' ⟨rfl, rfl⟩) | (go_at_call 131; refine ho.mono ?_; rintro e w' ⟨rfl, rfl⟩))
      go_ret
      exact ⟨rfl, rfl⟩

set_option maxHeartbeats 2000000 in
theorem in_3 (x : Nat) (w : World) : Calls Tryz.prog 92 #[.int .i64 3, .int .u8 (x : Int)] w fun e w' => e = .returned (.bool (nonprintP x)) ∧ w' = w := by
  have hw := white_spec x w
  have ho := odd_spec x w
  rcases byte_kinds x with rfl | rfl | rfl | rfl | rfl | rfl | rfl | rfl | h | h | h
  iterate 8
    · go_enter Tryz.func92, Tryz.ntmps92
      go_wp2_with (first | (go_at_call 130; refine hw.mono ?_; rintro e w' ⟨rfl, rfl⟩) | (go_at_call 131; refine ho.mono ?_; rintro e w' ⟨rfl, rfl⟩))
      go_ret
      exact ⟨rfl, rfl⟩
  · have a10 : ((x : Int) == 10) = false := by rw [beq_eq_false_iff_ne]; omega
    have b10 : ((x : Int) != 10) = true := by rw [bne_iff_ne]; omega
    have a13 : ((x : Int) == 13) = false := by rw [beq_eq_false_iff_ne]; omega
    have b13 : ((x : Int) != 13) = true := by rw [bne_iff_ne]; omega
    have a32 : ((x : Int) == 32) = false := by rw [beq_eq_false_iff_ne]; omega
    have b32 : ((x : Int) != 32) = true := by rw [bne_iff_ne]; omega
    have a34 : ((x : Int) == 34) = false := by rw [beq_eq_false_iff_ne]; omega
    have b34 : ((x : Int) != 34) = true := by rw [bne_iff_ne]; omega
    have a44 : ((x : Int) == 44) = false := by rw [beq_eq_false_iff_ne]; omega
    have b44 : ((x : Int) != 44) = true := by rw [bne_iff_ne]; omega
    have a45 : ((x : Int) == 45) = false := by rw [beq_eq_false_iff_ne]; omega
    have b45 : ((x : Int) != 45) = true := by rw [bne_iff_ne]; omega
    have a61 : ((x : Int) == 61) = false := by rw [beq_eq_false_iff_ne]; omega
    have b61 : ((x : Int) != 61) = true := by rw [bne_iff_ne]; omega
    have a127 : ((x : Int) == 127) = false := by rw [beq_eq_false_iff_ne]; omega
    have b127 : ((x : Int) != 127) = true := by rw [bne_iff_ne]; omega
    have r1 : ¬ (48 : Int) ≤ (x : Int) := by omega
    have d1 : decide ((48 : Int) ≤ (x : Int)) = false := by simp; omega
    have hv : nonprintP x = true := by simp [nonprintP]; omega
    have hnp : nonprintP x = true := by simp [nonprintP]; omega
    have hwp : whiteP x = false := by simp [whiteP]; omega
    rw [hnp] at ho
    rw [hwp] at hw
    rw [hv]
    clear hv hnp hwp h
    all_goals
      go_enter Tryz.func92, Tryz.ntmps92
      go_wp2_with (first | (go_at_call 130; refine hw.mono ?_; rintro e w' ⟨rfl, rfl⟩) | (go_at_call 131; refine ho.mono ?_; rintro e w' ⟨rfl, rfl⟩))
      go_ret
      exact ⟨rfl, rfl⟩
  · have a10 : ((x : Int) == 10) = false := by rw [beq_eq_false_iff_ne]; omega
    have b10 : ((x : Int) != 10) = true := by rw [bne_iff_ne]; omega
    have a13 : ((x : Int) == 13) = false := by rw [beq_eq_false_iff_ne]; omega
    have b13 : ((x : Int) != 13) = true := by rw [bne_iff_ne]; omega
    have a32 : ((x : Int) == 32) = false := by rw [beq_eq_false_iff_ne]; omega
    have b32 : ((x : Int) != 32) = true := by rw [bne_iff_ne]; omega
    have a34 : ((x : Int) == 34) = false := by rw [beq_eq_false_iff_ne]; omega
    have b34 : ((x : Int) != 34) = true := by rw [bne_iff_ne]; omega
    have a44 : ((x : Int) == 44) = false := by rw [beq_eq_false_iff_ne]; omega
    have b44 : ((x : Int) != 44) = true := by rw [bne_iff_ne]; omega
    have a45 : ((x : Int) == 45) = false := by rw [beq_eq_false_iff_ne]; omega
    have b45 : ((x : Int) != 45) = true := by rw [bne_iff_ne]; omega
    have a61 : ((x : Int) == 61) = false := by rw [beq_eq_false_iff_ne]; omega
    have b61 : ((x : Int) != 61) = true := by rw [bne_iff_ne]; omega
    have a127 : ((x : Int) == 127) = false := by rw [beq_eq_false_iff_ne]; omega
    have b127 : ((x : Int) != 127) = true := by rw [bne_iff_ne]; omega
    have r1 : (48 : Int) ≤ (x : Int) := by omega
    have r2 : (x : Int) ≤ 57 := by omega
    have d1 : decide ((48 : Int) ≤ (x : Int)) = true := by simp; omega
    have d2 : decide ((x : Int) ≤ 57) = true := by simp; omega
    have hv : nonprintP x = false := by simp [nonprintP]; omega
    have hnp : nonprintP x = false := by simp [nonprintP]; omega
    have hwp : whiteP x = false := by simp [whiteP]; omega
    rw [hnp] at ho
    rw [hwp] at hw
    rw [hv]
    clear hv hnp hwp h
    all_goals
      go_enter Tryz.func92, Tryz.ntmps92
      go_wp2_with (first | (go_at_call 130; refine hw.mono ?_; rintro e w' ⟨rfl, rfl⟩) | (go_at_call 131; refine ho.mono ?_; rintro e w' ⟨rfl, rfl⟩))
      go_ret
      exact ⟨rfl, rfl⟩
  · have a10 : ((x : Int) == 10) = false := by rw [beq_eq_false_iff_ne]; omega
    have b10 : ((x : Int) != 10) = true := by rw [bne_iff_ne]; omega
    have a13 : ((x : Int) == 13) = false := by rw [beq_eq_false_iff_ne]; omega
    have b13 : ((x : Int) != 13) = true := by rw [bne_iff_ne]; omega
    have a32 : ((x : Int) == 32) = false := by rw [beq_eq_false_iff_ne]; omega
    have b32 : ((x : Int) != 32) = true := by rw [bne_iff_ne]; omega
    have a34 : ((x : Int) == 34) = false := by rw [beq_eq_false_iff_ne]; omega
    have b34 : ((x : Int) != 34) = true := by rw [bne_iff_ne]; omega
    have a44 : ((x : Int) == 44) = false := by rw [beq_eq_false_iff_ne]; omega
    have b44 : ((x : Int) != 44) = true := by rw [bne_iff_ne]; omega
    have a45 : ((x : Int) == 45) = false := by rw [beq_eq_false_iff_ne]; omega
    have b45 : ((x : Int) != 45) = true := by rw [bne_iff_ne]; omega
    have a61 : ((x : Int) == 61) = false := by rw [beq_eq_false_iff_ne]; omega
    have b61 : ((x : Int) != 61) = true := by rw [bne_iff_ne]; omega
    have a127 : ((x : Int) == 127) = false := by rw [beq_eq_false_iff_ne]; omega
    have b127 : ((x : Int) != 127) = true := by rw [bne_iff_ne]; omega
    have hc : (48 : Int) ≤ (x : Int) ∧ ¬ (x : Int) ≤ 57 ∨ ¬ (48 : Int) ≤ (x : Int) := by omega
    have hv : nonprintP x = false := by simp [nonprintP]; omega
    have hnp : nonprintP x = false := by simp [nonprintP]; omega
    have hwp : whiteP x = false := by simp [whiteP]; omega
    rw [hnp] at ho
    rw [hwp] at hw
    rw [hv]
    clear hv hnp hwp h
    rcases hc with ⟨r1, r2⟩ | r1
    all_goals
      go_enter Tryz.func92, Tryz.ntmps92
      go_wp2_with (first | (go_at_call 130; refine hw.mono ?_; rintro e w' ⟨rfl, rfl⟩) | (go_at_call 131; refine ho.mono ?_; rintro e w' ⟨rfl, rfl⟩))
      go_ret
      exact ⟨rfl, rfl⟩

set_option maxHeartbeats 2000000 in
theorem in_4 (x : Nat) (w : World) : Calls Tryz.prog 92 #[.int .i64 4, .int .u8 (x : Int)] w fun e w' => e = .returned (.bool (eolP x)) ∧ w' = w := by
  have hw := white_spec x w
  have ho := odd_spec x w
  rcases byte_kinds x with rfl | rfl | rfl | rfl | rfl | rfl | rfl | rfl | h | h | h
  iterate 8
    · go_enter Tryz.func92, Tryz.ntmps92
      go_wp2_with (first | (go_at_call 130; refine hw.mono ?_; rintro e w' ⟨rfl, rfl⟩) | (go_at_call 131; refine ho.mono ?_; rintro e w' ⟨rfl, rfl⟩))
      go_ret
      exact ⟨rfl, rfl⟩
  · have a10 : ((x : Int) == 10) = false := by rw [beq_eq_false_iff_ne]; omega
    have b10 : ((x : Int) != 10) = true := by rw [bne_iff_ne]; omega
    have a13 : ((x : Int) == 13) = false := by rw [beq_eq_false_iff_ne]; omega
    have b13 : ((x : Int) != 13) = true := by rw [bne_iff_ne]; omega
    have a32 : ((x : Int) == 32) = false := by rw [beq_eq_false_iff_ne]; omega
    have b32 : ((x : Int) != 32) = true := by rw [bne_iff_ne]; omega
    have a34 : ((x : Int) == 34) = false := by rw [beq_eq_false_iff_ne]; omega
    have b34 : ((x : Int) != 34) = true := by rw [bne_iff_ne]; omega
    have a44 : ((x : Int) == 44) = false := by rw [beq_eq_false_iff_ne]; omega
    have b44 : ((x : Int) != 44) = true := by rw [bne_iff_ne]; omega
    have a45 : ((x : Int) == 45) = false := by rw [beq_eq_false_iff_ne]; omega
    have b45 : ((x : Int) != 45) = true := by rw [bne_iff_ne]; omega
    have a61 : ((x : Int) == 61) = false := by rw [beq_eq_false_iff_ne]; omega
    have b61 : ((x : Int) != 61) = true := by rw [bne_iff_ne]; omega
    have a127 : ((x : Int) == 127) = false := by rw [beq_eq_false_iff_ne]; omega
    have b127 : ((x : Int) != 127) = true := by rw [bne_iff_ne]; omega
    have r1 : ¬ (48 : Int) ≤ (x : Int) := by omega
    have d1 : decide ((48 : Int) ≤ (x : Int)) = false := by simp; omega
    have hv : eolP x = false := by simp [eolP]; omega
    have hnp : nonprintP x = true := by simp [nonprintP]; omega
    have hwp : whiteP x = false := by simp [whiteP]; omega
    rw [hnp] at ho
    rw [hwp] at hw
    rw [hv]
    clear hv hnp hwp h
    all_goals
      go_enter Tryz.func92, Tryz.ntmps92
      go_wp2_with (first | (go_at_call 130; refine hw.mono ?_; rintro e w' ⟨rfl, rfl⟩) | (go_at_call 131; refine ho.mono ?_; rintro e w' ⟨rfl, rfl⟩))
      go_ret
      exact ⟨rfl, rfl⟩
  · have a10 : ((x : Int) == 10) = false := by rw [beq_eq_false_iff_ne]; omega
    have b10 : ((x : Int) != 10) = true := by rw [bne_iff_ne]; omega
    have a13 : ((x : Int) == 13) = false := by rw [beq_eq_false_iff_ne]; omega
    have b13 : ((x : Int) != 13) = true := by rw [bne_iff_ne]; omega
    have a32 : ((x : Int) == 32) = false := by rw [beq_eq_false_iff_ne]; omega
    have b32 : ((x : Int) != 32) = true := by rw [bne_iff_ne]; omega
    have a34 : ((x : Int) == 34) = false := by rw [beq_eq_false_iff_ne]; omega
    have b34 : ((x : Int) != 34) = true := by rw [bne_iff_ne]; omega
    have a44 : ((x : Int) == 44) = false := by rw [beq_eq_false_iff_ne]; omega
    have b44 : ((x : Int) != 44) = true := by rw [bne_iff_ne]; omega
    have a45 : ((x : Int) == 45) = false := by rw [beq_eq_false_iff_ne]; omega
    have b45 : ((x : Int) != 45) = true := by rw [bne_iff_ne]; omega
    have a61 : ((x : Int) == 61) = false := by rw [beq_eq_false_iff_ne]; omega
    have b61 : ((x : Int) != 61) = true := by rw [bne_iff_ne]; omega
    have a127 : ((x : Int) == 127) = false := by rw [beq_eq_false_iff_ne]; omega
    have b127 : ((x : Int) != 127) = true := by rw [bne_iff_ne]; omega
    have r1 : (48 : Int) ≤ (x : Int) := by omega
    have r2 : (x : Int) ≤ 57 := by omega
    have d1 : decide ((48 : Int) ≤ (x : Int)) = true := by simp; omega
    have d2 : decide ((x : Int) ≤ 57) = true := by simp; omega
    have hv : eolP x = false := by simp [eolP]; omega
    have hnp : nonprintP x = false := by simp [nonprintP]; omega
    have hwp : whiteP x = false := by simp [whiteP]; omega
    rw [hnp] at ho
    rw [hwp] at hw
    rw [hv]
    clear hv hnp hwp h
    all_goals
      go_enter Tryz.func92, Tryz.ntmps92
      go_wp2_with (first | (go_at_call 130; refine hw.mono ?_; rintro e w' ⟨rfl, rfl⟩) | (go_at_call 131; refine ho.mono ?_; rintro e w' ⟨rfl, rfl⟩))
      go_ret
      exact ⟨rfl, rfl⟩
  · have a10 : ((x : Int) == 10) = false := by rw [beq_eq_false_iff_ne]; omega
    have b10 : ((x : Int) != 10) = true := by rw [bne_iff_ne]; omega
    have a13 : ((x : Int) == 13) = false := by rw [beq_eq_false_iff_ne]; omega
    have b13 : ((x : Int) != 13) = true := by rw [bne_iff_ne]; omega
    have a32 : ((x : Int) == 32) = false := by rw [beq_eq_false_iff_ne]; omega
    have b32 : ((x : Int) != 32) = true := by rw [bne_iff_ne]; omega
    have a34 : ((x : Int) == 34) = false := by rw [beq_eq_false_iff_ne]; omega
    have b34 : ((x : Int) != 34) = true := by rw [bne_iff_ne]; omega
    have a44 : ((x : Int) == 44) = false := by rw [beq_eq_false_iff_ne]; omega
    have b44 : ((x : Int) != 44) = true := by rw [bne_iff_ne]; omega
    have a45 : ((x : Int) == 45) = false := by rw [beq_eq_false_iff_ne]; omega
    have b45 : ((x : Int) != 45) = true := by rw [bne_iff_ne]; omega
    have a61 : ((x : Int) == 61) = false := by rw [beq_eq_false_iff_ne]; omega
    have b61 : ((x : Int) != 61) = true := by rw [bne_iff_ne]; omega
    have a127 : ((x : Int) == 127) = false := by rw [beq_eq_false_iff_ne]; omega
    have b127 : ((x : Int) != 127) = true := by rw [bne_iff_ne]; omega
    have hc : (48 : Int) ≤ (x : Int) ∧ ¬ (x : Int) ≤ 57 ∨ ¬ (48 : Int) ≤ (x : Int) := by omega
    have hv : eolP x = false := by simp [eolP]; omega
    have hnp : nonprintP x = false := by simp [nonprintP]; omega
    have hwp : whiteP x = false := by simp [whiteP]; omega
    rw [hnp] at ho
    rw [hwp] at hw
    rw [hv]
    clear hv hnp hwp h
    rcases hc with ⟨r1, r2⟩ | r1
    all_goals
      go_enter Tryz.func92, Tryz.ntmps92
      go_wp2_with (first | (go_at_call 130; refine hw.mono ?_; rintro e w' ⟨rfl, rfl⟩) | (go_at_call 131; refine ho.mono ?_; rintro e w' ⟨rfl, rfl⟩))
      go_ret
      exact ⟨rfl, rfl⟩

set_option maxHeartbeats 2000000 in
theorem in_5 (x : Nat) (w : World) : Calls Tryz.prog 92 #[.int .i64 5, .int .u8 (x : Int)] w fun e w' => e = .returned (.bool (measP x)) ∧ w' = w := by
  have hw := white_spec x w
  have ho := odd_spec x w
  rcases byte_kinds x with rfl | rfl | rfl | rfl | rfl | rfl | rfl | rfl | h | h | h
  iterate 8
    · go_enter Tryz.func92, Tryz.ntmps92
      go_wp2_with (first | (go_at_call 130; refine hw.mono ?_; rintro e w' ⟨rfl, rfl⟩) | (go_at_call 131; refine ho.mono ?_; rintro e w' ⟨rfl, rfl⟩))
      go_ret
      exact ⟨rfl, rfl⟩
  · have a10 : ((x : Int) == 10) = false := by rw [beq_eq_false_iff_ne]; omega
    have b10 : ((x : Int) != 10) = true := by rw [bne_iff_ne]; omega
    have a13 : ((x : Int) == 13) = false := by rw [beq_eq_false_iff_ne]; omega
    have b13 : ((x : Int) != 13) = true := by rw [bne_iff_ne]; omega
    have a32 : ((x : Int) == 32) = false := by rw [beq_eq_false_iff_ne]; omega
    have b32 : ((x : Int) != 32) = true := by rw [bne_iff_ne]; omega
    have a34 : ((x : Int) == 34) = false := by rw [beq_eq_false_iff_ne]; omega
    have b34 : ((x : Int) != 34) = true := by rw [bne_iff_ne]; omega
    have a44 : ((x : Int) == 44) = false := by rw [beq_eq_false_iff_ne]; omega
    have b44 : ((x : Int) != 44) = true := by rw [bne_iff_ne]; omega
    have a45 : ((x : Int) == 45) = false := by rw [beq_eq_false_iff_ne]; omega
    have b45 : ((x : Int) != 45) = true := by rw [bne_iff_ne]; omega
    have a61 : ((x : Int) == 61) = false := by rw [beq_eq_false_iff_ne]; omega
    have b61 : ((x : Int) != 61) = true := by rw [bne_iff_ne]; omega
    have a127 : ((x : Int) == 127) = false := by rw [beq_eq_false_iff_ne]; omega
    have b127 : ((x : Int) != 127) = true := by rw [bne_iff_ne]; omega
    have r1 : ¬ (48 : Int) ≤ (x : Int) := by omega
    have d1 : decide ((48 : Int) ≤ (x : Int)) = false := by simp; omega
    have hv : measP x = false := by simp [measP]; omega
    have hnp : nonprintP x = true := by simp [nonprintP]; omega
    have hwp : whiteP x = false := by simp [whiteP]; omega
    rw [hnp] at ho
    rw [hwp] at hw
    rw [hv]
    clear hv hnp hwp h
    all_goals
      go_enter Tryz.func92, Tryz.ntmps92
      go_wp2_with (first | (go_at_call 130; refine hw.mono ?_; rintro e w' ⟨rfl, rfl⟩) | (go_at_call 131; refine ho.mono ?_; rintro e w' ⟨rfl, rfl⟩))
      go_ret
      exact ⟨rfl, rfl⟩
  · have a10 : ((x : Int) == 10) = false := by rw [beq_eq_false_iff_ne]; omega
    have b10 : ((x : Int) != 10) = true := by rw [bne_iff_ne]; omega
    have a13 : ((x : Int) == 13) = false := by rw [beq_eq_false_iff_ne]; omega
    have b13 : ((x : Int) != 13) = true := by rw [bne_iff_ne]; omega
    have a32 : ((x : Int) == 32) = false := by rw [beq_eq_false_iff_ne]; omega
    have b32 : ((x : Int) != 32) = true := by rw [bne_iff_ne]; omega
    have a34 : ((x : Int) == 34) = false := by rw [beq_eq_false_iff_ne]; omega
    have b34 : ((x : Int) != 34) = true := by rw [bne_iff_ne]; omega
    have a44 : ((x : Int) == 44) = false := by rw [beq_eq_false_iff_ne]; omega
    have b44 : ((x : Int) != 44) = true := by rw [bne_iff_ne]; omega
    have a45 : ((x : Int) == 45) = false := by rw [beq_eq_false_iff_ne]; omega
    have b45 : ((x : Int) != 45) = true := by rw [bne_iff_ne]; omega
    have a61 : ((x : Int) == 61) = false := by rw [beq_eq_false_iff_ne]; omega
    have b61 : ((x : Int) != 61) = true := by rw [bne_iff_ne]; omega
    have a127 : ((x : Int) == 127) = false := by rw [beq_eq_false_iff_ne]; omega
    have b127 : ((x : Int) != 127) = true := by rw [bne_iff_ne]; omega
    have r1 : (48 : Int) ≤ (x : Int) := by omega
    have r2 : (x : Int) ≤ 57 := by omega
    have d1 : decide ((48 : Int) ≤ (x : Int)) = true := by simp; omega
    have d2 : decide ((x : Int) ≤ 57) = true := by simp; omega
    have hv : measP x = true := by simp [measP]; omega
    have hnp : nonprintP x = false := by simp [nonprintP]; omega
    have hwp : whiteP x = false := by simp [whiteP]; omega
    rw [hnp] at ho
    rw [hwp] at hw
    rw [hv]
    clear hv hnp hwp h
    all_goals
      go_enter Tryz.func92, Tryz.ntmps92
      go_wp2_with (first | (go_at_call 130; refine hw.mono ?_; rintro e w' ⟨rfl, rfl⟩) | (go_at_call 131; refine ho.mono ?_; rintro e w' ⟨rfl, rfl⟩))
      go_ret
      exact ⟨rfl, rfl⟩
  · have a10 : ((x : Int) == 10) = false := by rw [beq_eq_false_iff_ne]; omega
    have b10 : ((x : Int) != 10) = true := by rw [bne_iff_ne]; omega
    have a13 : ((x : Int) == 13) = false := by rw [beq_eq_false_iff_ne]; omega
    have b13 : ((x : Int) != 13) = true := by rw [bne_iff_ne]; omega
    have a32 : ((x : Int) == 32) = false := by rw [beq_eq_false_iff_ne]; omega
    have b32 : ((x : Int) != 32) = true := by rw [bne_iff_ne]; omega
    have a34 : ((x : Int) == 34) = false := by rw [beq_eq_false_iff_ne]; omega
    have b34 : ((x : Int) != 34) = true := by rw [bne_iff_ne]; omega
    have a44 : ((x : Int) == 44) = false := by rw [beq_eq_false_iff_ne]; omega
    have b44 : ((x : Int) != 44) = true := by rw [bne_iff_ne]; omega
    have a45 : ((x : Int) == 45) = false := by rw [beq_eq_false_iff_ne]; omega
    have b45 : ((x : Int) != 45) = true := by rw [bne_iff_ne]; omega
    have a61 : ((x : Int) == 61) = false := by rw [beq_eq_false_iff_ne]; omega
    have b61 : ((x : Int) != 61) = true := by rw [bne_iff_ne]; omega
    have a127 : ((x : Int) == 127) = false := by rw [beq_eq_false_iff_ne]; omega
    have b127 : ((x : Int) != 127) = true := by rw [bne_iff_ne]; omega
    have hc : (48 : Int) ≤ (x : Int) ∧ ¬ (x : Int) ≤ 57 ∨ ¬ (48 : Int) ≤ (x : Int) := by omega
    have hv : measP x = true := by simp [measP]; omega
    have hnp : nonprintP x = false := by simp [nonprintP]; omega
    have hwp : whiteP x = false := by simp [whiteP]; omega
    rw [hnp] at ho
    rw [hwp] at hw
    rw [hv]
    clear hv hnp hwp h
    rcases hc with ⟨r1, r2⟩ | r1
    all_goals
      go_enter Tryz.func92, Tryz.ntmps92
      go_wp2_with (first | (go_at_call 130; refine hw.mono ?_; rintro e w' ⟨rfl, rfl⟩) | (go_at_call 131; refine ho.mono ?_; rintro e w' ⟨rfl, rfl⟩))
      go_ret
      exact ⟨rfl, rfl⟩

set_option maxHeartbeats 2000000 in
theorem in_6 (x : Nat) (w : World) : Calls Tryz.prog 92 #[.int .i64 6, .int .u8 (x : Int)] w fun e w' => e = .returned (.bool (tagKeyP x)) ∧ w' = w := by
  have hw := white_spec x w
  have ho := odd_spec x w
  rcases byte_kinds x with rfl | rfl | rfl | rfl | rfl | rfl | rfl | rfl | h | h | h
  iterate 8
    · go_enter Tryz.func92, Tryz.ntmps92
      go_wp2_with (first | (go_at_call 130; refine hw.mono ?_; rintro e w' ⟨rfl, rfl⟩) | (go_at_call 131; refine ho.mono ?_; rintro e w' ⟨rfl, rfl⟩))
      go_ret
      exact ⟨rfl, rfl⟩
  · have a10 : ((x : Int) == 10) = false := by rw [beq_eq_false_iff_ne]; omega
    have b10 : ((x : Int) != 10) = true := by rw [bne_iff_ne]; omega
    have a13 : ((x : Int) == 13) = false := by rw [beq_eq_false_iff_ne]; omega
    have b13 : ((x : Int) != 13) = true := by rw [bne_iff_ne]; omega
    have a32 : ((x : Int) == 32) = false := by rw [beq_eq_false_iff_ne]; omega
    have b32 : ((x : Int) != 32) = true := by rw [bne_iff_ne]; omega
    have a34 : ((x : Int) == 34) = false := by rw [beq_eq_false_iff_ne]; omega
    have b34 : ((x : Int) != 34) = true := by rw [bne_iff_ne]; omega
    have a44 : ((x : Int) == 44) = false := by rw [beq_eq_false_iff_ne]; omega
    have b44 : ((x : Int) != 44) = true := by rw [bne_iff_ne]; omega
    have a45 : ((x : Int) == 45) = false := by rw [beq_eq_false_iff_ne]; omega
    have b45 : ((x : Int) != 45) = true := by rw [bne_iff_ne]; omega
    have a61 : ((x : Int) == 61) = false := by rw [beq_eq_false_iff_ne]; omega
    have b61 : ((x : Int) != 61) = true := by rw [bne_iff_ne]; omega
    have a127 : ((x : Int) == 127) = false := by rw [beq_eq_false_iff_ne]; omega
    have b127 : ((x : Int) != 127) = true := by rw [bne_iff_ne]; omega
    have r1 : ¬ (48 : Int) ≤ (x : Int) := by omega
    have d1 : decide ((48 : Int) ≤ (x : Int)) = false := by simp; omega
    have hv : tagKeyP x = false := by simp [tagKeyP]; omega
    have hnp : nonprintP x = true := by simp [nonprintP]; omega
    have hwp : whiteP x = false := by simp [whiteP]; omega
    rw [hnp] at ho
    rw [hwp] at hw
    rw [hv]
    clear hv hnp hwp h
    all_goals
      go_enter Tryz.func92, Tryz.ntmps92
      go_wp2_with (first | (go_at_call 130; refine hw.mono ?_; rintro e w' ⟨rfl, rfl⟩) | (go_at_call 131; refine ho.mono ?_; rintro e w' ⟨rfl, rfl⟩))
      go_ret
      exact ⟨rfl, rfl⟩
  · have a10 : ((x : Int) == 10) = false := by rw [beq_eq_false_iff_ne]; omega
    have b10 : ((x : Int) != 10) = true := by rw [bne_iff_ne]; omega
    have a13 : ((x : Int) == 13) = false := by rw [beq_eq_false_iff_ne]; omega
    have b13 : ((x : Int) != 13) = true := by rw [bne_iff_ne]; omega
    have a32 : ((x : Int) == 32) = false := by rw [beq_eq_false_iff_ne]; omega
    have b32 : ((x : Int) != 32) = true := by rw [bne_iff_ne]; omega
    have a34 : ((x : Int) == 34) = false := by rw [beq_eq_false_iff_ne]; omega
    have b34 : ((x : Int) != 34) = true := by rw [bne_iff_ne]; omega
    have a44 : ((x : Int) == 44) = false := by rw [beq_eq_false_iff_ne]; omega
    have b44 : ((x : Int) != 44) = true := by rw [bne_iff_ne]; omega
    have a45 : ((x : Int) == 45) = false := by rw [beq_eq_false_iff_ne]; omega
    have b45 : ((x : Int) != 45) = true := by rw [bne_iff_ne]; omega
    have a61 : ((x : Int) == 61) = false := by rw [beq_eq_false_iff_ne]; omega
    have b61 : ((x : Int) != 61) = true := by rw [bne_iff_ne]; omega
    have a127 : ((x : Int) == 127) = false := by rw [beq_eq_false_iff_ne]; omega
    have b127 : ((x : Int) != 127) = true := by rw [bne_iff_ne]; omega
    have r1 : (48 : Int) ≤ (x : Int) := by omega
    have r2 : (x : Int) ≤ 57 := by omega
    have d1 : decide ((48 : Int) ≤ (x : Int)) = true := by simp; omega
    have d2 : decide ((x : Int) ≤ 57) = true := by simp; omega
    have hv : tagKeyP x = true := by simp [tagKeyP]; omega
    have hnp : nonprintP x = false := by simp [nonprintP]; omega
    have hwp : whiteP x = false := by simp [whiteP]; omega
    rw [hnp] at ho
    rw [hwp] at hw
    rw [hv]
    clear hv hnp hwp h
    all_goals
      go_enter Tryz.func92, Tryz.ntmps92
      go_wp2_with (first | (go_at_call 130; refine hw.mono ?_; rintro e w' ⟨rfl, rfl⟩) | (go_at_call 131; refine ho.mono ?_; rintro e w' ⟨rfl, rfl⟩))
      go_ret
      exact ⟨rfl, rfl⟩
  · have a10 : ((x : Int) == 10) = false := by rw [beq_eq_false_iff_ne]; omega
    have b10 : ((x : Int) != 10) = true := by rw [bne_iff_ne]; omega
    have a13 : ((x : Int) == 13) = false := by rw [beq_eq_false_iff_ne]; omega
    have b13 : ((x : Int) != 13) = true := by rw [bne_iff_ne]; omega
    have a32 : ((x : Int) == 32) = false := by rw [beq_eq_false_iff_ne]; omega
    have b32 : ((x : Int) != 32) = true := by rw [bne_iff_ne]; omega
    have a34 : ((x : Int) == 34) = false := by rw [beq_eq_false_iff_ne]; omega
    have b34 : ((x : Int) != 34) = true := by rw [bne_iff_ne]; omega
    have a44 : ((x : Int) == 44) = false := by rw [beq_eq_false_iff_ne]; omega
    have b44 : ((x : Int) != 44) = true := by rw [bne_iff_ne]; omega
    have a45 : ((x : Int) == 45) = false := by rw [beq_eq_false_iff_ne]; omega
    have b45 : ((x : Int) != 45) = true := by rw [bne_iff_ne]; omega
    have a61 : ((x : Int) == 61) = false := by rw [beq_eq_false_iff_ne]; omega
    have b61 : ((x : Int) != 61) = true := by rw [bne_iff_ne]; omega
    have a127 : ((x : Int) == 127) = false := by rw [beq_eq_false_iff_ne]; omega
    have b127 : ((x : Int) != 127) = true := by rw [bne_iff_ne]; omega
    have hc : (48 : Int) ≤ (x : Int) ∧ ¬ (x : Int) ≤ 57 ∨ ¬ (48 : Int) ≤ (x : Int) := by omega
    have hv : tagKeyP x = true := by simp [tagKeyP]; omega
    have hnp : nonprintP x = false := by simp [nonprintP]; omega
    have hwp : whiteP x = false := by simp [whiteP]; omega
    rw [hnp] at ho
    rw [hwp] at hw
    rw [hv]
    clear hv hnp hwp h
    rcases hc with ⟨r1, r2⟩ | r1
    all_goals
      go_enter Tryz.func92, Tryz.ntmps92
      go_wp2_with (first | (go_at_call 130; refine hw.mono ?_; rintro e w' ⟨rfl, rfl⟩) | (go_at_call 131; refine ho.mono ?_; rintro e w' ⟨rfl, rfl⟩))
      go_ret
      exact ⟨rfl, rfl⟩

set_option maxHeartbeats 2000000 in
theorem in_7 (x : Nat) (w : World) : Calls Tryz.prog 92 #[.int .i64 7, .int .u8 (x : Int)] w fun e w' => e = .returned (.bool (tagKeyP x)) ∧ w' = w := by
  have hw := white_spec x w
  have ho := odd_spec x w
  rcases byte_kinds x with rfl | rfl | rfl | rfl | rfl | rfl | rfl | rfl | h | h | h
  iterate 8
    · go_enter Tryz.func92, Tryz.ntmps92
      go_wp2_with (first | (go_at_call 130; refine hw.mono ?_; rintro e w' ⟨rfl, rfl⟩) | (go_at_call 131; refine ho.mono ?_; rintro e w' ⟨rfl, rfl⟩))
      go_ret
      exact ⟨rfl, rfl⟩
  · have a10 : ((x : Int) == 10) = false := by rw [beq_eq_false_iff_ne]; omega
    have b10 : ((x : Int) != 10) = true := by rw [bne_iff_ne]; omega
    have a13 : ((x : Int) == 13) = false := by rw [beq_eq_false_iff_ne]; omega
    have b13 : ((x : Int) != 13) = true := by rw [bne_iff_ne]; omega
    have a32 : ((x : Int) == 32) = false := by rw [beq_eq_false_iff_ne]; omega
    have b32 : ((x : Int) != 32) = true := by rw [bne_iff_ne]; omega
    have a34 : ((x : Int) == 34) = false := by rw [beq_eq_false_iff_ne]; omega
    have b34 : ((x : Int) != 34) = true := by rw [bne_iff_ne]; omega
    have a44 : ((x : Int) == 44) = false := by rw [beq_eq_false_iff_ne]; omega
    have b44 : ((x : Int) != 44) = true := by rw [bne_iff_ne]; omega
    have a45 : ((x : Int) == 45) = false := by rw [beq_eq_false_iff_ne]; omega
    have b45 : ((x : Int) != 45) = true := by rw [bne_iff_ne]; omega
    have a61 : ((x : Int) == 61) = false := by rw [beq_eq_false_iff_ne]; omega
    have b61 : ((x : Int) != 61) = true := by rw [bne_iff_ne]; omega
    have a127 : ((x : Int) == 127) = false := by rw [beq_eq_false_iff_ne]; omega
    have b127 : ((x : Int) != 127) = true := by rw [bne_iff_ne]; omega
    have r1 : ¬ (48 : Int) ≤ (x : Int) := by omega
    have d1 : decide ((48 : Int) ≤ (x : Int)) = false := by simp; omega
    have hv : tagKeyP x = false := by simp [tagKeyP]; omega
    have hnp : nonprintP x = true := by simp [nonprintP]; omega
    have hwp : whiteP x = false := by simp [whiteP]; omega
    rw [hnp] at ho
    rw [hwp] at hw
    rw [hv]
    clear hv hnp hwp h
    all_goals
      go_enter Tryz.func92, Tryz.ntmps92
      go_wp2_with (first | (go_at_call 130; refine hw.mono ?_; rintro e w' ⟨rfl, rfl⟩) | (go_at_call 131; refine ho.mono ?_; rintro e w' ⟨rfl, rfl⟩))
      go_ret
      exact ⟨rfl, rfl⟩
  · have a10 : ((x : Int) == 10) = false := by rw [beq_eq_false_iff_ne]; omega
    have b10 : ((x : Int) != 10) = true := by rw [bne_iff_ne]; omega
    have a13 : ((x : Int) == 13) = false := by rw [beq_eq_false_iff_ne]; omega
    have b13 : ((x : Int) != 13) = true := by rw [bne_iff_ne]; omega
    have a32 : ((x : Int) == 32) = false := by rw [beq_eq_false_iff_ne]; omega
    have b32 : ((x : Int) != 32) = true := by rw [bne_iff_ne]; omega
    have a34 : ((x : Int) == 34) = false := by rw [beq_eq_false_iff_ne]; omega
    have b34 : ((x : Int) != 34) = true := by rw [bne_iff_ne]; omega
    have a44 : ((x : Int) == 44) = false := by rw [beq_eq_false_iff_ne]; omega
    have b44 : ((x : Int) != 44) = true := by rw [bne_iff_ne]; omega
    have a45 : ((x : Int) == 45) = false := by rw [beq_eq_false_iff_ne]; omega
    have b45 : ((x : Int) != 45) = true := by rw [bne_iff_ne]; omega
    have a61 : ((x : Int) == 61) = false := by rw [beq_eq_false_iff_ne]; omega
    have b61 : ((x : Int) != 61) = true := by rw [bne_iff_ne]; omega
    have a127 : ((x : Int) == 127) = false := by rw [beq_eq_false_iff_ne]; omega
    have b127 : ((x : Int) != 127) = true := by rw [bne_iff_ne]; omega
    have r1 : (48 : Int) ≤ (x : Int) := by omega
    have r2 : (x : Int) ≤ 57 := by omega
    have d1 : decide ((48 : Int) ≤ (x : Int)) = true := by simp; omega
    have d2 : decide ((x : Int) ≤ 57) = true := by simp; omega
    have hv : tagKeyP x = true := by simp [tagKeyP]; omega
    have hnp : nonprintP x = false := by simp [nonprintP]; omega
    have hwp : whiteP x = false := by simp [whiteP]; omega
    rw [hnp] at ho
    rw [hwp] at hw
    rw [hv]
    clear hv hnp hwp h
    all_goals
      go_enter Tryz.func92, Tryz.ntmps92
      go_wp2_with (first | (go_at_call 130; refine hw.mono ?_; rintro e w' ⟨rfl, rfl⟩) | (go_at_call 131; refine ho.mono ?_; rintro e w' ⟨rfl, rfl⟩))
      go_ret
      exact ⟨rfl, rfl⟩
  · have a10 : ((x : Int) == 10) = false := by rw [beq_eq_false_iff_ne]; omega
    have b10 : ((x : Int) != 10) = true := by rw [bne_iff_ne]; omega
    have a13 : ((x : Int) == 13) = false := by rw [beq_eq_false_iff_ne]; omega
    have b13 : ((x : Int) != 13) = true := by rw [bne_iff_ne]; omega
    have a32 : ((x : Int) == 32) = false := by rw [beq_eq_false_iff_ne]; omega
    have b32 : ((x : Int) != 32) = true := by rw [bne_iff_ne]; omega
    have a34 : ((x : Int) == 34) = false := by rw [beq_eq_false_iff_ne]; omega
    have b34 : ((x : Int) != 34) = true := by rw [bne_iff_ne]; omega
    have a44 : ((x : Int) == 44) = false := by rw [beq_eq_false_iff_ne]; omega
    have b44 : ((x : Int) != 44) = true := by rw [bne_iff_ne]; omega
    have a45 : ((x : Int) == 45) = false := by rw [beq_eq_false_iff_ne]; omega
    have b45 : ((x : Int) != 45) = true := by rw [bne_iff_ne]; omega
    have a61 : ((x : Int) == 61) = false := by rw [beq_eq_false_iff_ne]; omega
    have b61 : ((x : Int) != 61) = true := by rw [bne_iff_ne]; omega
    have a127 : ((x : Int) == 127) = false := by rw [beq_eq_false_iff_ne]; omega
    have b127 : ((x : Int) != 127) = true := by rw [bne_iff_ne]; omega
    have hc : (48 : Int) ≤ (x : Int) ∧ ¬ (x : Int) ≤ 57 ∨ ¬ (48 : Int) ≤ (x : Int) := by omega
    have hv : tagKeyP x = true := by simp [tagKeyP]; omega
    have hnp : nonprintP x = false := by simp [nonprintP]; omega
    have hwp : whiteP x = false := by simp [whiteP]; omega
    rw [hnp] at ho
    rw [hwp] at hw
    rw [hv]
    clear hv hnp hwp h
    rcases hc with ⟨r1, r2⟩ | r1
    all_goals
      go_enter Tryz.func92, Tryz.ntmps92
      go_wp2_with (first | (go_at_call 130; refine hw.mono ?_; rintro e w' ⟨rfl, rfl⟩) | (go_at_call 131; refine ho.mono ?_; rintro e w' ⟨rfl, rfl⟩))
      go_ret
      exact ⟨rfl, rfl⟩

set_option maxHeartbeats 2000000 in
theorem in_8 (x : Nat) (w : World) : Calls Tryz.prog 92 #[.int .i64 8, .int .u8 (x : Int)] w fun e w' => e = .returned (.bool (strValP x)) ∧ w' = w := by
  have hw := white_spec x w
  have ho := odd_spec x w
  rcases byte_kinds x with rfl | rfl | rfl | rfl | rfl | rfl | rfl | rfl | h | h | h
  iterate 8
    · go_enter Tryz.func92, Tryz.ntmps92
      go_wp2_with (first | (go_at_call 130; refine hw.mono ?_; rintro e w' ⟨rfl, rfl⟩) | (go_at_call 131; refine ho.mono ?_; rintro e w' ⟨rfl, rfl⟩))
      go_ret
      exact ⟨rfl, rfl⟩
  · have a10 : ((x : Int) == 10) = false := by rw [beq_eq_false_iff_ne]; omega
    have b10 : ((x : Int) != 10) = true := by rw [bne_iff_ne]; omega
    have a13 : ((x : Int) == 13) = false := by rw [beq_eq_false_iff_ne]; omega
    have b13 : ((x : Int) != 13) = true := by rw [bne_iff_ne]; omega
    have a32 : ((x : Int) == 32) = false := by rw [beq_eq_false_iff_ne]; omega
    have b32 : ((x : Int) != 32) = true := by rw [bne_iff_ne]; omega
    have a34 : ((x : Int) == 34) = false := by rw [beq_eq_false_iff_ne]; omega
    have b34 : ((x : Int) != 34) = true := by rw [bne_iff_ne]; omega
    have a44 : ((x : Int) == 44) = false := by rw [beq_eq_false_iff_ne]; omega
    have b44 : ((x : Int) != 44) = true := by rw [bne_iff_ne]; omega
    have a45 : ((x : Int) == 45) = false := by rw [beq_eq_false_iff_ne]; omega
    have b45 : ((x : Int) != 45) = true := by rw [bne_iff_ne]; omega
    have a61 : ((x : Int) == 61) = false := by rw [beq_eq_false_iff_ne]; omega
    have b61 : ((x : Int) != 61) = true := by rw [bne_iff_ne]; omega
    have a127 : ((x : Int) == 127) = false := by rw [beq_eq_false_iff_ne]; omega
    have b127 : ((x : Int) != 127) = true := by rw [bne_iff_ne]; omega
    have r1 : ¬ (48 : Int) ≤ (x : Int) := by omega
    have d1 : decide ((48 : Int) ≤ (x : Int)) = false := by simp; omega
    have hv : strValP x = true := by simp [strValP]; omega
    have hnp : nonprintP x = true := by simp [nonprintP]; omega
    have hwp : whiteP x = false := by simp [whiteP]; omega
    rw [hnp] at ho
    rw [hwp] at hw
    rw [hv]
    clear hv hnp hwp h
    all_goals
      go_enter Tryz.func92, Tryz.ntmps92
      go_wp2_with (first | (go_at_call 130; refine hw.mono ?_; rintro e w' ⟨rfl, rfl⟩) | (go_at_call 131; refine ho.mono ?_; rintro e w' ⟨rfl, rfl⟩))
      go_ret
      exact ⟨rfl, rfl⟩
  · have a10 : ((x : Int) == 10) = false := by rw [beq_eq_false_iff_ne]; omega
    have b10 : ((x : Int) != 10) = true := by rw [bne_iff_ne]; omega
    have a13 : ((x : Int) == 13) = false := by rw [beq_eq_false_iff_ne]; omega
    have b13 : ((x : Int) != 13) = true := by rw [bne_iff_ne]; omega
    have a32 : ((x : Int) == 32) = false := by rw [beq_eq_false_iff_ne]; omega
    have b32 : ((x : Int) != 32) = true := by rw [bne_iff_ne]; omega
    have a34 : ((x : Int) == 34) = false := by rw [beq_eq_false_iff_ne]; omega
    have b34 : ((x : Int) != 34) = true := by rw [bne_iff_ne]; omega
    have a44 : ((x : Int) == 44) = false := by rw [beq_eq_false_iff_ne]; omega
    have b44 : ((x : Int) != 44) = true := by rw [bne_iff_ne]; omega
    have a45 : ((x : Int) == 45) = false := by rw [beq_eq_false_iff_ne]; omega
    have b45 : ((x : Int) != 45) = true := by rw [bne_iff_ne]; omega
    have a61 : ((x : Int) == 61) = false := by rw [beq_eq_false_iff_ne]; omega
    have b61 : ((x : Int) != 61) = true := by rw [bne_iff_ne]; omega
    have a127 : ((x : Int) == 127) = false := by rw [beq_eq_false_iff_ne]; omega
    have b127 : ((x : Int) != 127) = true := by rw [bne_iff_ne]; omega
    have r1 : (48 : Int) ≤ (x : Int) := by omega
    have r2 : (x : Int) ≤ 57 := by omega
    have d1 : decide ((48 : Int) ≤ (x : Int)) = true := by simp; omega
    have d2 : decide ((x : Int) ≤ 57) = true := by simp; omega
    have hv : strValP x = true := by simp [strValP]; omega
    have hnp : nonprintP x = false := by simp [nonprintP]; omega
    have hwp : whiteP x = false := by simp [whiteP]; omega
    rw [hnp] at ho
    rw [hwp] at hw
    rw [hv]
    clear hv hnp hwp h
    all_goals
      go_enter Tryz.func92, Tryz.ntmps92
      go_wp2_with (first | (go_at_call 130; refine hw.mono ?_; rintro e w' ⟨rfl, rfl⟩) | (go_at_call 131; refine ho.mono ?_; rintro e w' ⟨rfl, rfl⟩))
      go_ret
      exact ⟨rfl, rfl⟩
  · have a10 : ((x : Int) == 10) = false := by rw [beq_eq_false_iff_ne]; omega
    have b10 : ((x : Int) != 10) = true := by rw [bne_iff_ne]; omega
    have a13 : ((x : Int) == 13) = false := by rw [beq_eq_false_iff_ne]; omega
    have b13 : ((x : Int) != 13) = true := by rw [bne_iff_ne]; omega
    have a32 : ((x : Int) == 32) = false := by rw [beq_eq_false_iff_ne]; omega
    have b32 : ((x : Int) != 32) = true := by rw [bne_iff_ne]; omega
    have a34 : ((x : Int) == 34) = false := by rw [beq_eq_false_iff_ne]; omega
    have b34 : ((x : Int) != 34) = true := by rw [bne_iff_ne]; omega
    have a44 : ((x : Int) == 44) = false := by rw [beq_eq_false_iff_ne]; omega
    have b44 : ((x : Int) != 44) = true := by rw [bne_iff_ne]; omega
    have a45 : ((x : Int) == 45) = false := by rw [beq_eq_false_iff_ne]; omega
    have b45 : ((x : Int) != 45) = true := by rw [bne_iff_ne]; omega
    have a61 : ((x : Int) == 61) = false := by rw [beq_eq_false_iff_ne]; omega
    have b61 : ((x : Int) != 61) = true := by rw [bne_iff_ne]; omega
    have a127 : ((x : Int) == 127) = false := by rw [beq_eq_false_iff_ne]; omega
    have b127 : ((x : Int) != 127) = true := by rw [bne_iff_ne]; omega
    have hc : (48 : Int) ≤ (x : Int) ∧ ¬ (x : Int) ≤ 57 ∨ ¬ (48 : Int) ≤ (x : Int) := by omega
    have hv : strValP x = true := by simp [strValP]; omega
    have hnp : nonprintP x = false := by simp [nonprintP]; omega
    have hwp : whiteP x = false := by simp [whiteP]; omega
    rw [hnp] at ho
    rw [hwp] at hw
    rw [hv]
    clear hv hnp hwp h
    rcases hc with ⟨r1, r2⟩ | r1
    all_goals
      go_enter Tryz.func92, Tryz.ntmps92
      go_wp2_with (first | (go_at_call 130; refine hw.mono ?_; rintro e w' ⟨rfl, rfl⟩) | (go_at_call 131; refine ho.mono ?_; rintro e w' ⟨rfl, rfl⟩))
      go_ret
      exact ⟨rfl, rfl⟩

set_option maxHeartbeats 2000000 in
theorem in_9 (x : Nat) (w : World) : Calls Tryz.prog 92 #[.int .i64 9, .int .u8 (x : Int)] w fun e w' => e = .returned (.bool (fieldValP x)) ∧ w' = w := by
  have hw := white_spec x w
  have ho := odd_spec x w
  rcases byte_kinds x with rfl | rfl | rfl | rfl | rfl | rfl | rfl | rfl | h | h | h
  iterate 8
    · go_enter Tryz.func92, Tryz.ntmps92
      go_wp2_with (first | (go_at_call 130; refine hw.mono ?_; rintro e w' ⟨rfl, rfl⟩) | (go_at_call 131; refine ho.mono ?_; rintro e w' ⟨rfl, rfl⟩))
      go_ret
      exact ⟨rfl, rfl⟩
  · have a10 : ((x : Int) == 10) = false := by rw [beq_eq_false_iff_ne]; omega
    have b10 : ((x : Int) != 10) = true := by rw [bne_iff_ne]; omega
    have a13 : ((x : Int) == 13) = false := by rw [beq_eq_false_iff_ne]; omega
    have b13 : ((x : Int) != 13) = true := by rw [bne_iff_ne]; omega
    have a32 : ((x : Int) == 32) = false := by rw [beq_eq_false_iff_ne]; omega
    have b32 : ((x : Int) != 32) = true := by rw [bne_iff_ne]; omega
    have a34 : ((x : Int) == 34) = false := by rw [beq_eq_false_iff_ne]; omega
    have b34 : ((x : Int) != 34) = true := by rw [bne_iff_ne]; omega
    have a44 : ((x : Int) == 44) = false := by rw [beq_eq_false_iff_ne]; omega
    have b44 : ((x : Int) != 44) = true := by rw [bne_iff_ne]; omega
    have a45 : ((x : Int) == 45) = false := by rw [beq_eq_false_iff_ne]; omega
    have b45 : ((x : Int) != 45) = true := by rw [bne_iff_ne]; omega
    have a61 : ((x : Int) == 61) = false := by rw [beq_eq_false_iff_ne]; omega
    have b61 : ((x : Int) != 61) = true := by rw [bne_iff_ne]; omega
    have a127 : ((x : Int) == 127) = false := by rw [beq_eq_false_iff_ne]; omega
    have b127 : ((x : Int) != 127) = true := by rw [bne_iff_ne]; omega
    have r1 : ¬ (48 : Int) ≤ (x : Int) := by omega
    have d1 : decide ((48 : Int) ≤ (x : Int)) = false := by simp; omega
    have hv : fieldValP x = true := by simp [fieldValP]; omega
    have hnp : nonprintP x = true := by simp [nonprintP]; omega
    have hwp : whiteP x = false := by simp [whiteP]; omega
    rw [hnp] at ho
    rw [hwp] at hw
    rw [hv]
    clear hv hnp hwp h
    all_goals
      go_enter Tryz.func92, Tryz.ntmps92
      go_wp2_with (first | (go_at_call 130; refine hw.mono ?_; rintro e w' ⟨rfl, rfl⟩) | (go_at_call 131; refine ho.mono ?_; rintro e w' ⟨rfl, rfl⟩))
      go_ret
      exact ⟨rfl, rfl⟩
  · have a10 : ((x : Int) == 10) = false := by rw [beq_eq_false_iff_ne]; omega
    have b10 : ((x : Int) != 10) = true := by rw [bne_iff_ne]; omega
    have a13 : ((x : Int) == 13) = false := by rw [beq_eq_false_iff_ne]; omega
    have b13 : ((x : Int) != 13) = true := by rw [bne_iff_ne]; omega
    have a32 : ((x : Int) == 32) = false := by rw [beq_eq_false_iff_ne]; omega
    have b32 : ((x : Int) != 32) = true := by rw [bne_iff_ne]; omega
    have a34 : ((x : Int) == 34) = false := by rw [beq_eq_false_iff_ne]; omega
    have b34 : ((x : Int) != 34) = true := by rw [bne_iff_ne]; omega
    have a44 : ((x : Int) == 44) = false := by rw [beq_eq_false_iff_ne]; omega
    have b44 : ((x : Int) != 44) = true := by rw [bne_iff_ne]; omega
    have a45 : ((x : Int) == 45) = false := by rw [beq_eq_false_iff_ne]; omega
    have b45 : ((x : Int) != 45) = true := by rw [bne_iff_ne]; omega
    have a61 : ((x : Int) == 61) = false := by rw [beq_eq_false_iff_ne]; omega
    have b61 : ((x : Int) != 61) = true := by rw [bne_iff_ne]; omega
    have a127 : ((x : Int) == 127) = false := by rw [beq_eq_false_iff_ne]; omega
    have b127 : ((x : Int) != 127) = true := by rw [bne_iff_ne]; omega
    have r1 : (48 : Int) ≤ (x : Int) := by omega
    have r2 : (x : Int) ≤ 57 := by omega
    have d1 : decide ((48 : Int) ≤ (x : Int)) = true := by simp; omega
    have d2 : decide ((x : Int) ≤ 57) = true := by simp; omega
    have hv : fieldValP x = true := by simp [fieldValP]; omega
    have hnp : nonprintP x = false := by simp [nonprintP]; omega
    have hwp : whiteP x = false := by simp [whiteP]; omega
    rw [hnp] at ho
    rw [hwp] at hw
    rw [hv]
    clear hv hnp hwp h
    all_goals
      go_enter Tryz.func92, Tryz.ntmps92
      go_wp2_with (first | (go_at_call 130; refine hw.mono ?_; rintro e w' ⟨rfl, rfl⟩) | (go_at_call 131; refine ho.mono ?_; rintro e w' ⟨rfl, rfl⟩))
      go_ret
      exact ⟨rfl, rfl⟩
  · have a10 : ((x : Int) == 10) = false := by rw [beq_eq_false_iff_ne]; omega
    have b10 : ((x : Int) != 10) = true := by rw [bne_iff_ne]; omega
    have a13 : ((x : Int) == 13) = false := by rw [beq_eq_false_iff_ne]; omega
    have b13 : ((x : Int) != 13) = true := by rw [bne_iff_ne]; omega
    have a32 : ((x : Int) == 32) = false := by rw [beq_eq_false_iff_ne]; omega
    have b32 : ((x : Int) != 32) = true := by rw [bne_iff_ne]; omega
    have a34 : ((x : Int) == 34) = false := by rw [beq_eq_false_iff_ne]; omega
    have b34 : ((x : Int) != 34) = true := by rw [bne_iff_ne]; omega
    have a44 : ((x : Int) == 44) = false := by rw [beq_eq_false_iff_ne]; omega
    have b44 : ((x : Int) != 44) = true := by rw [bne_iff_ne]; omega
    have a45 : ((x : Int) == 45) = false := by rw [beq_eq_false_iff_ne]; omega
    have b45 : ((x : Int) != 45) = true := by rw [bne_iff_ne]; omega
    have a61 : ((x : Int) == 61) = false := by rw [beq_eq_false_iff_ne]; omega
    have b61 : ((x : Int) != 61) = true := by rw [bne_iff_ne]; omega
    have a127 : ((x : Int) == 127) = false := by rw [beq_eq_false_iff_ne]; omega
    have b127 : ((x : Int) != 127) = true := by rw [bne_iff_ne]; omega
    have hc : (48 : Int) ≤ (x : Int) ∧ ¬ (x : Int) ≤ 57 ∨ ¬ (48 : Int) ≤ (x : Int) := by omega
    have hv : fieldValP x = true := by simp [fieldValP]; omega
    have hnp : nonprintP x = false := by simp [nonprintP]; omega
    have hwp : whiteP x = false := by simp [whiteP]; omega
    rw [hnp] at ho
    rw [hwp] at hw
    rw [hv]
    clear hv hnp hwp h
    rcases hc with ⟨r1, r2⟩ | r1
    all_goals
      go_enter Tryz.func92, Tryz.ntmps92
      go_wp2_with (first | (go_at_call 130; refine hw.mono ?_; rintro e w' ⟨rfl, rfl⟩) | (go_at_call 131; refine ho.mono ?_; rintro e w' ⟨rfl, rfl⟩))
      go_ret
      exact ⟨rfl, rfl⟩

set_option maxHeartbeats 2000000 in
theorem in_10 (x : Nat) (w : World) : Calls Tryz.prog 92 #[.int .i64 10, .int .u8 (x : Int)] w fun e w' => e = .returned (.bool (timeCP x)) ∧ w' = w := by
  have hw := white_spec x w
  have ho := odd_spec x w
  rcases byte_kinds x with rfl | rfl | rfl | rfl | rfl | rfl | rfl | rfl | h | h | h
  iterate 8
    · go_enter Tryz.func92, Tryz.ntmps92
      go_wp2_with (first | (go_at_call 130; refine hw.mono ?_; rintro e w' ⟨rfl, rfl⟩) | (go_at_call 131; refine ho.mono ?_; rintro e w' ⟨rfl, rfl⟩))
      go_ret
      exact ⟨rfl, rfl⟩
  · have a10 : ((x : Int) == 10) = false := by rw [beq_eq_false_iff_ne]; omega
    have b10 : ((x : Int) != 10) = true := by rw [bne_iff_ne]; omega
    have a13 : ((x : Int) == 13) = false := by rw [beq_eq_false_iff_ne]; omega
    have b13 : ((x : Int) != 13) = true := by rw [bne_iff_ne]; omega
    have a32 : ((x : Int) == 32) = false := by rw [beq_eq_false_iff_ne]; omega
    have b32 : ((x : Int) != 32) = true := by rw [bne_iff_ne]; omega
    have a34 : ((x : Int) == 34) = false := by rw [beq_eq_false_iff_ne]; omega
    have b34 : ((x : Int) != 34) = true := by rw [bne_iff_ne]; omega
    have a44 : ((x : Int) == 44) = false := by rw [beq_eq_false_iff_ne]; omega
    have b44 : ((x : Int) != 44) = true := by rw [bne_iff_ne]; omega
    have a45 : ((x : Int) == 45) = false := by rw [beq_eq_false_iff_ne]; omega
    have b45 : ((x : Int) != 45) = true := by rw [bne_iff_ne]; omega
    have a61 : ((x : Int) == 61) = false := by rw [beq_eq_false_iff_ne]; omega
    have b61 : ((x : Int) != 61) = true := by rw [bne_iff_ne]; omega
    have a127 : ((x : Int) == 127) = false := by rw [beq_eq_false_iff_ne]; omega
    have b127 : ((x : Int) != 127) = true := by rw [bne_iff_ne]; omega
    have r1 : ¬ (48 : Int) ≤ (x : Int) := by omega
    have d1 : decide ((48 : Int) ≤ (x : Int)) = false := by simp; omega
    have hv : timeCP x = false := by simp [timeCP]; omega
    have hnp : nonprintP x = true := by simp [nonprintP]; omega
    have hwp : whiteP x = false := by simp [whiteP]; omega
    rw [hnp] at ho
    rw [hwp] at hw
    rw [hv]
    clear hv hnp hwp h
    all_goals
      go_enter Tryz.func92, Tryz.ntmps92
      go_wp2_with (first | (go_at_call 130; refine hw.mono ?_; rintro e w' ⟨rfl, rfl⟩) | (go_at_call 131; refine ho.mono ?_; rintro e w' ⟨rfl, rfl⟩))
      go_ret
      exact ⟨rfl, rfl⟩
  · have a10 : ((x : Int) == 10) = false := by rw [beq_eq_false_iff_ne]; omega
    have b10 : ((x : Int) != 10) = true := by rw [bne_iff_ne]; omega
    have a13 : ((x : Int) == 13) = false := by rw [beq_eq_false_iff_ne]; omega
    have b13 : ((x : Int) != 13) = true := by rw [bne_iff_ne]; omega
    have a32 : ((x : Int) == 32) = false := by rw [beq_eq_false_iff_ne]; omega
    have b32 : ((x : Int) != 32) = true := by rw [bne_iff_ne]; omega
    have a34 : ((x : Int) == 34) = false := by rw [beq_eq_false_iff_ne]; omega
    have b34 : ((x : Int) != 34) = true := by rw [bne_iff_ne]; omega
    have a44 : ((x : Int) == 44) = false := by rw [beq_eq_false_iff_ne]; omega
    have b44 : ((x : Int) != 44) = true := by rw [bne_iff_ne]; omega
    have a45 : ((x : Int) == 45) = false := by rw [beq_eq_false_iff_ne]; omega
    have b45 : ((x : Int) != 45) = true := by rw [bne_iff_ne]; omega
    have a61 : ((x : Int) == 61) = false := by rw [beq_eq_false_iff_ne]; omega
    have b61 : ((x : Int) != 61) = true := by rw [bne_iff_ne]; omega
    have a127 : ((x : Int) == 127) = false := by rw [beq_eq_false_iff_ne]; omega
    have b127 : ((x : Int) != 127) = true := by rw [bne_iff_ne]; omega
    have r1 : (48 : Int) ≤ (x : Int) := by omega
    have r2 : (x : Int) ≤ 57 := by omega
    have d1 : decide ((48 : Int) ≤ (x : Int)) = true := by simp; omega
    have d2 : decide ((x : Int) ≤ 57) = true := by simp; omega
    have hv : timeCP x = true := by simp [timeCP]; omega
    have hnp : nonprintP x = false := by simp [nonprintP]; omega
    have hwp : whiteP x = false := by simp [whiteP]; omega
    rw [hnp] at ho
    rw [hwp] at hw
    rw [hv]
    clear hv hnp hwp h
    all_goals
      go_enter Tryz.func92, Tryz.ntmps92
      go_wp2_with (first | (go_at_call 130; refine hw.mono ?_; rintro e w' ⟨rfl, rfl⟩) | (go_at_call 131; refine ho.mono ?_; rintro e w' ⟨rfl, rfl⟩))
      go_ret
      exact ⟨rfl, rfl⟩
  · have a10 : ((x : Int) == 10) = false := by rw [beq_eq_false_iff_ne]; omega
    have b10 : ((x : Int) != 10) = true := by rw [bne_iff_ne]; omega
    have a13 : ((x : Int) == 13) = false := by rw [beq_eq_false_iff_ne]; omega
    have b13 : ((x : Int) != 13) = true := by rw [bne_iff_ne]; omega
    have a32 : ((x : Int) == 32) = false := by rw [beq_eq_false_iff_ne]; omega
    have b32 : ((x : Int) != 32) = true := by rw [bne_iff_ne]; omega
    have a34 : ((x : Int) == 34) = false := by rw [beq_eq_false_iff_ne]; omega
    have b34 : ((x : Int) != 34) = true := by rw [bne_iff_ne]; omega
    have a44 : ((x : Int) == 44) = false := by rw [beq_eq_false_iff_ne]; omega
    have b44 : ((x : Int) != 44) = true := by rw [bne_iff_ne]; omega
    have a45 : ((x : Int) == 45) = false := by rw [beq_eq_false_iff_ne]; omega
    have b45 : ((x : Int) != 45) = true := by rw [bne_iff_ne]; omega
    have a61 : ((x : Int) == 61) = false := by rw [beq_eq_false_iff_ne]; omega
    have b61 : ((x : Int) != 61) = true := by rw [bne_iff_ne]; omega
    have a127 : ((x : Int) == 127) = false := by rw [beq_eq_false_iff_ne]; omega
    have b127 : ((x : Int) != 127) = true := by rw [bne_iff_ne]; omega
    have hc : (48 : Int) ≤ (x : Int) ∧ ¬ (x : Int) ≤ 57 ∨ ¬ (48 : Int) ≤ (x : Int) := by omega
    have hv : timeCP x = false := by simp [timeCP]; omega
    have hnp : nonprintP x = false := by simp [nonprintP]; omega
    have hwp : whiteP x = false := by simp [whiteP]; omega
    rw [hnp] at ho
    rw [hwp] at hw
    rw [hv]
    clear hv hnp hwp h
    rcases hc with ⟨r1, r2⟩ | r1
    all_goals
      go_enter Tryz.func92, Tryz.ntmps92
      go_wp2_with (first | (go_at_call 130; refine hw.mono ?_; rintro e w' ⟨rfl, rfl⟩) | (go_at_call 131; refine ho.mono ?_; rintro e w' ⟨rfl, rfl⟩))
      go_ret
      exact ⟨rfl, rfl⟩

set_option maxHeartbeats 2000000 in
theorem in_11 (x : Nat) (w : World) : Calls Tryz.prog 92 #[.int .i64 11, .int .u8 (x : Int)] w fun e w' => e = .returned (.bool (commentP x)) ∧ w' = w := by
  have hw := white_spec x w
  have ho := odd_spec x w
  rcases byte_kinds x with rfl | rfl | rfl | rfl | rfl | rfl | rfl | rfl | h | h | h
  iterate 8
    · go_enter Tryz.func92, Tryz.ntmps92
      go_wp2_with (first | (go_at_call 130; refine hw.mono ?_; rintro e w' ⟨rfl, rfl⟩) | (go_at_call 131; refine ho.mono ?_; rintro e w' ⟨rfl, rfl⟩))
      go_ret
      exact ⟨rfl, rfl⟩
  · have a10 : ((x : Int) == 10) = false := by rw [beq_eq_false_iff_ne]; omega
    have b10 : ((x : Int) != 10) = true := by rw [bne_iff_ne]; omega
    have a13 : ((x : Int) == 13) = false := by rw [beq_eq_false_iff_ne]; omega
    have b13 : ((x : Int) != 13) = true := by rw [bne_iff_ne]; omega
    have a32 : ((x : Int) == 32) = false := by rw [beq_eq_false_iff_ne]; omega
    have b32 : ((x : Int) != 32) = true := by rw [bne_iff_ne]; omega
    have a34 : ((x : Int) == 34) = false := by rw [beq_eq_false_iff_ne]; omega
    have b34 : ((x : Int) != 34) = true := by rw [bne_iff_ne]; omega
    have a44 : ((x : Int) == 44) = false := by rw [beq_eq_false_iff_ne]; omega
    have b44 : ((x : Int) != 44) = true := by rw [bne_iff_ne]; omega
    have a45 : ((x : Int) == 45) = false := by rw [beq_eq_false_iff_ne]; omega
    have b45 : ((x : Int) != 45) = true := by rw [bne_iff_ne]; omega
    have a61 : ((x : Int) == 61) = false := by rw [beq_eq_false_iff_ne]; omega
    have b61 : ((x : Int) != 61) = true := by rw [bne_iff_ne]; omega
    have a127 : ((x : Int) == 127) = false := by rw [beq_eq_false_iff_ne]; omega
    have b127 : ((x : Int) != 127) = true := by rw [bne_iff_ne]; omega
    have r1 : ¬ (48 : Int) ≤ (x : Int) := by omega
    have d1 : decide ((48 : Int) ≤ (x : Int)) = false := by simp; omega
    have hv : commentP x = false := by simp [commentP]; omega
    have hnp : nonprintP x = true := by simp [nonprintP]; omega
    have hwp : whiteP x = false := by simp [whiteP]; omega
    rw [hnp] at ho
    rw [hwp] at hw
    rw [hv]
    clear hv hnp hwp h
    all_goals
      go_enter Tryz.func92, Tryz.ntmps92
      go_wp2_with (first | (go_at_call 130; refine hw.mono ?_; rintro e w' ⟨rfl, rfl⟩) | (go_at_call 131; refine ho.mono ?_; rintro e w' ⟨rfl, rfl⟩))
      go_ret
      exact ⟨rfl, rfl⟩
  · have a10 : ((x : Int) == 10) = false := by rw [beq_eq_false_iff_ne]; omega
    have b10 : ((x : Int) != 10) = true := by rw [bne_iff_ne]; omega
    have a13 : ((x : Int) == 13) = false := by rw [beq_eq_false_iff_ne]; omega
    have b13 : ((x : Int) != 13) = true := by rw [bne_iff_ne]; omega
    have a32 : ((x : Int) == 32) = false := by rw [beq_eq_false_iff_ne]; omega
    have b32 : ((x : Int) != 32) = true := by rw [bne_iff_ne]; omega
    have a34 : ((x : Int) == 34) = false := by rw [beq_eq_false_iff_ne]; omega
    have b34 : ((x : Int) != 34) = true := by rw [bne_iff_ne]; omega
    have a44 : ((x : Int) == 44) = false := by rw [beq_eq_false_iff_ne]; omega
    have b44 : ((x : Int) != 44) = true := by rw [bne_iff_ne]; omega
    have a45 : ((x : Int) == 45) = false := by rw [beq_eq_false_iff_ne]; omega
    have b45 : ((x : Int) != 45) = true := by rw [bne_iff_ne]; omega
    have a61 : ((x : Int) == 61) = false := by rw [beq_eq_false_iff_ne]; omega
    have b61 : ((x : Int) != 61) = true := by rw [bne_iff_ne]; omega
    have a127 : ((x : Int) == 127) = false := by rw [beq_eq_false_iff_ne]; omega
    have b127 : ((x : Int) != 127) = true := by rw [bne_iff_ne]; omega
    have r1 : (48 : Int) ≤ (x : Int) := by omega
    have r2 : (x : Int) ≤ 57 := by omega
    have d1 : decide ((48 : Int) ≤ (x : Int)) = true := by simp; omega
    have d2 : decide ((x : Int) ≤ 57) = true := by simp; omega
    have hv : commentP x = true := by simp [commentP]; omega
    have hnp : nonprintP x = false := by simp [nonprintP]; omega
    have hwp : whiteP x = false := by simp [whiteP]; omega
    rw [hnp] at ho
    rw [hwp] at hw
    rw [hv]
    clear hv hnp hwp h
    all_goals
      go_enter Tryz.func92, Tryz.ntmps92
      go_wp2_with (first | (go_at_call 130; refine hw.mono ?_; rintro e w' ⟨rfl, rfl⟩) | (go_at_call 131; refine ho.mono ?_; rintro e w' ⟨rfl, rfl⟩))
      go_ret
      exact ⟨rfl, rfl⟩
  · have a10 : ((x : Int) == 10) = false := by rw [beq_eq_false_iff_ne]; omega
    have b10 : ((x : Int) != 10) = true := by rw [bne_iff_ne]; omega
    have a13 : ((x : Int) == 13) = false := by rw [beq_eq_false_iff_ne]; omega
    have b13 : ((x : Int) != 13) = true := by rw [bne_iff_ne]; omega
    have a32 : ((x : Int) == 32) = false := by rw [beq_eq_false_iff_ne]; omega
    have b32 : ((x : Int) != 32) = true := by rw [bne_iff_ne]; omega
    have a34 : ((x : Int) == 34) = false := by rw [beq_eq_false_iff_ne]; omega
    have b34 : ((x : Int) != 34) = true := by rw [bne_iff_ne]; omega
    have a44 : ((x : Int) == 44) = false := by rw [beq_eq_false_iff_ne]; omega
    have b44 : ((x : Int) != 44) = true := by rw [bne_iff_ne]; omega
    have a45 : ((x : Int) == 45) = false := by rw [beq_eq_false_iff_ne]; omega
    have b45 : ((x : Int) != 45) = true := by rw [bne_iff_ne]; omega
    have a61 : ((x : Int) == 61) = false := by rw [beq_eq_false_iff_ne]; omega
    have b61 : ((x : Int) != 61) = true := by rw [bne_iff_ne]; omega
    have a127 : ((x : Int) == 127) = false := by rw [beq_eq_false_iff_ne]; omega
    have b127 : ((x : Int) != 127) = true := by rw [bne_iff_ne]; omega
    have hc : (48 : Int) ≤ (x : Int) ∧ ¬ (x : Int) ≤ 57 ∨ ¬ (48 : Int) ≤ (x : Int) := by omega
    have hv : commentP x = true := by simp [commentP]; omega
    have hnp : nonprintP x = false := by simp [nonprintP]; omega
    have hwp : whiteP x = false := by simp [whiteP]; omega
    rw [hnp] at ho
    rw [hwp] at hw
    rw [hv]
    clear hv hnp hwp h
    rcases hc with ⟨r1, r2⟩ | r1
    all_goals
      go_enter Tryz.func92, Tryz.ntmps92
      go_wp2_with (first | (go_at_call 130; refine hw.mono ?_; rintro e w' ⟨rfl, rfl⟩) | (go_at_call 131; refine ho.mono ?_; rintro e w' ⟨rfl, rfl⟩))
      go_ret
      exact ⟨rfl, rfl⟩

set_option maxHeartbeats 2000000 in
theorem in_12 (x : Nat) (w : World) : Calls Tryz.prog 92 #[.int .i64 12, .int .u8 (x : Int)] w fun e w' => e = .returned (.bool (notEolP x)) ∧ w' = w := by
  have hw := white_spec x w
  have ho := odd_spec x w
  rcases byte_kinds x with rfl | rfl | rfl | rfl | rfl | rfl | rfl | rfl | h | h | h
  iterate 8
    · go_enter Tryz.func92, Tryz.ntmps92
      go_wp2_with (first | (go_at_call 130; refine hw.mono ?_; rintro e w' ⟨rfl, rfl⟩) | (go_at_call 131; refine ho.mono ?_; rintro e w' ⟨rfl, rfl⟩))
      go_ret
      exact ⟨rfl, rfl⟩
  · have a10 : ((x : Int) == 10) = false := by rw [beq_eq_false_iff_ne]; omega
    have b10 : ((x : Int) != 10) = true := by rw [bne_iff_ne]; omega
    have a13 : ((x : Int) == 13) = false := by rw [beq_eq_false_iff_ne]; omega
    have b13 : ((x : Int) != 13) = true := by rw [bne_iff_ne]; omega
    have a32 : ((x : Int) == 32) = false := by rw [beq_eq_false_iff_ne]; omega
    have b32 : ((x : Int) != 32) = true := by rw [bne_iff_ne]; omega
    have a34 : ((x : Int) == 34) = false := by rw [beq_eq_false_iff_ne]; omega
    have b34 : ((x : Int) != 34) = true := by rw [bne_iff_ne]; omega
    have a44 : ((x : Int) == 44) = false := by rw [beq_eq_false_iff_ne]; omega
    have b44 : ((x : Int) != 44) = true := by rw [bne_iff_ne]; omega
    have a45 : ((x : Int) == 45) = false := by rw [beq_eq_false_iff_ne]; omega
    have b45 : ((x : Int) != 45) = true := by rw [bne_iff_ne]; omega
    have a61 : ((x : Int) == 61) = false := by rw [beq_eq_false_iff_ne]; omega
    have b61 : ((x : Int) != 61) = true := by rw [bne_iff_ne]; omega
    have a127 : ((x : Int) == 127) = false := by rw [beq_eq_false_iff_ne]; omega
    have b127 : ((x : Int) != 127) = true := by rw [bne_iff_ne]; omega
    have r1 : ¬ (48 : Int) ≤ (x : Int) := by omega
    have d1 : decide ((48 : Int) ≤ (x : Int)) = false := by simp; omega
    have hv : notEolP x = true := by simp [notEolP]; omega
    have hnp : nonprintP x = true := by simp [nonprintP]; omega
    have hwp : whiteP x = false := by simp [whiteP]; omega
    rw [hnp] at ho
    rw [hwp] at hw
    rw [hv]
    clear hv hnp hwp h
    all_goals
      go_enter Tryz.func92, Tryz.ntmps92
      go_wp2_with (first | (go_at_call 130; refine hw.mono ?_; rintro e w' ⟨rfl, rfl⟩) | (go_at_call 131; refine ho.mono ?_; rintro e w' ⟨rfl, rfl⟩))
      go_ret
      exact ⟨rfl, rfl⟩
  · have a10 : ((x : Int) == 10) = false := by rw [beq_eq_false_iff_ne]; omega
    have b10 : ((x : Int) != 10) = true := by rw [bne_iff_ne]; omega
    have a13 : ((x : Int) == 13) = false := by rw [beq_eq_false_iff_ne]; omega
    have b13 : ((x : Int) != 13) = true := by rw [bne_iff_ne]; omega
    have a32 : ((x : Int) == 32) = false := by rw [beq_eq_false_iff_ne]; omega
    have b32 : ((x : Int) != 32) = true := by rw [bne_iff_ne]; omega
    have a34 : ((x : Int) == 34) = false := by rw [beq_eq_false_iff_ne]; omega
    have b34 : ((x : Int) != 34) = true := by rw [bne_iff_ne]; omega
    have a44 : ((x : Int) == 44) = false := by rw [beq_eq_false_iff_ne]; omega
    have b44 : ((x : Int) != 44) = true := by rw [bne_iff_ne]; omega
    have a45 : ((x : Int) == 45) = false := by rw [beq_eq_false_iff_ne]; omega
    have b45 : ((x : Int) != 45) = true := by rw [bne_iff_ne]; omega
    have a61 : ((x : Int) == 61) = false := by rw [beq_eq_false_iff_ne]; omega
    have b61 : ((x : Int) != 61) = true := by rw [bne_iff_ne]; omega
    have a127 : ((x : Int) == 127) = false := by rw [beq_eq_false_iff_ne]; omega
    have b127 : ((x : Int) != 127) = true := by rw [bne_iff_ne]; omega
    have r1 : (48 : Int) ≤ (x : Int) := by omega
    have r2 : (x : Int) ≤ 57 := by omega
    have d1 : decide ((48 : Int) ≤ (x : Int)) = true := by simp; omega
    have d2 : decide ((x : Int) ≤ 57) = true := by simp; omega
    have hv : notEolP x = true := by simp [notEolP]; omega
    have hnp : nonprintP x = false := by simp [nonprintP]; omega
    have hwp : whiteP x = false := by simp [whiteP]; omega
    rw [hnp] at ho
    rw [hwp] at hw
    rw [hv]
    clear hv hnp hwp h
    all_goals
      go_enter Tryz.func92, Tryz.ntmps92
      go_wp2_with (first | (go_at_call 130; refine hw.mono ?_; rintro e w' ⟨rfl, rfl⟩) | (go_at_call 131; refine ho.mono ?_; rintro e w' ⟨rfl, rfl⟩))
      go_ret
      exact ⟨rfl, rfl⟩
  · have a10 : ((x : Int) == 10) = false := by rw [beq_eq_false_iff_ne]; omega
    have b10 : ((x : Int) != 10) = true := by rw [bne_iff_ne]; omega
    have a13 : ((x : Int) == 13) = false := by rw [beq_eq_false_iff_ne]; omega
    have b13 : ((x : Int) != 13) = true := by rw [bne_iff_ne]; omega
    have a32 : ((x : Int) == 32) = false := by rw [beq_eq_false_iff_ne]; omega
    have b32 : ((x : Int) != 32) = true := by rw [bne_iff_ne]; omega
    have a34 : ((x : Int) == 34) = false := by rw [beq_eq_false_iff_ne]; omega
    have b34 : ((x : Int) != 34) = true := by rw [bne_iff_ne]; omega
    have a44 : ((x : Int) == 44) = false := by rw [beq_eq_false_iff_ne]; omega
    have b44 : ((x : Int) != 44) = true := by rw [bne_iff_ne]; omega
    have a45 : ((x : Int) == 45) = false := by rw [beq_eq_false_iff_ne]; omega
    have b45 : ((x : Int) != 45) = true := by rw [bne_iff_ne]; omega
    have a61 : ((x : Int) == 61) = false := by rw [beq_eq_false_iff_ne]; omega
    have b61 : ((x : Int) != 61) = true := by rw [bne_iff_ne]; omega
    have a127 : ((x : Int) == 127) = false := by rw [beq_eq_false_iff_ne]; omega
    have b127 : ((x : Int) != 127) = true := by rw [bne_iff_ne]; omega
    have hc : (48 : Int) ≤ (x : Int) ∧ ¬ (x : Int) ≤ 57 ∨ ¬ (48 : Int) ≤ (x : Int) := by omega
    have hv : notEolP x = true := by simp [notEolP]; omega
    have hnp : nonprintP x = false := by simp [nonprintP]; omega
    have hwp : whiteP x = false := by simp [whiteP]; omega
    rw [hnp] at ho
    rw [hwp] at hw
    rw [hv]
    clear hv hnp hwp h
    rcases hc with ⟨r1, r2⟩ | r1
    all_goals
      go_enter Tryz.func92, Tryz.ntmps92
      go_wp2_with (first | (go_at_call 130; refine hw.mono ?_; rintro e w' ⟨rfl, rfl⟩) | (go_at_call 131; refine ho.mono ?_; rintro e w' ⟨rfl, rfl⟩))
      go_ret
      exact ⟨rfl, rfl⟩

set_option maxHeartbeats 2000000 in
theorem in_13 (x : Nat) (w : World) : Calls Tryz.prog 92 #[.int .i64 13, .int .u8 (x : Int)] w fun e w' => e = .returned (.bool (notNlP x)) ∧ w' = w := by
  have hw := white_spec x w
  have ho := odd_spec x w
  rcases byte_kinds x with rfl | rfl | rfl | rfl | rfl | rfl | rfl | rfl | h | h | h
  iterate 8
    · go_enter Tryz.func92, Tryz.ntmps92
      go_wp2_with (first | (go_at_call 130; refine hw.mono ?_; rintro e w' ⟨rfl, rfl⟩) | (go_at_call 131; refine ho.mono ?_; rintro e w' ⟨rfl, rfl⟩))
      go_ret
      exact ⟨rfl, rfl⟩
  · have a10 : ((x : Int) == 10) = false := by rw [beq_eq_false_iff_ne]; omega
    have b10 : ((x : Int) != 10) = true := by rw [bne_iff_ne]; omega
    have a13 : ((x : Int) == 13) = false := by rw [beq_eq_false_iff_ne]; omega
    have b13 : ((x : Int) != 13) = true := by rw [bne_iff_ne]; omega
    have a32 : ((x : Int) == 32) = false := by rw [beq_eq_false_iff_ne]; omega
    have b32 : ((x : Int) != 32) = true := by rw [bne_iff_ne]; omega
    have a34 : ((x : Int) == 34) = false := by rw [beq_eq_false_iff_ne]; omega
    have b34 : ((x : Int) != 34) = true := by rw [bne_iff_ne]; omega
    have a44 : ((x : Int) == 44) = false := by rw [beq_eq_false_iff_ne]; omega
    have b44 : ((x : Int) != 44) = true := by rw [bne_iff_ne]; omega
    have a45 : ((x : Int) == 45) = false := by rw [beq_eq_false_iff_ne]; omega
    have b45 : ((x : Int) != 45) = true := by rw [bne_iff_ne]; omega
    have a61 : ((x : Int) == 61) = false := by rw [beq_eq_false_iff_ne]; omega
    have b61 : ((x : Int) != 61) = true := by rw [bne_iff_ne]; omega
    have a127 : ((x : Int) == 127) = false := by rw [beq_eq_false_iff_ne]; omega
    have b127 : ((x : Int) != 127) = true := by rw [bne_iff_ne]; omega
    have r1 : ¬ (48 : Int) ≤ (x : Int) := by omega
    have d1 : decide ((48 : Int) ≤ (x : Int)) = false := by simp; omega
    have hv : notNlP x = true := by simp [notNlP]; omega
    have hnp : nonprintP x = true := by simp [nonprintP]; omega
    have hwp : whiteP x = false := by simp [whiteP]; omega
    rw [hnp] at ho
    rw [hwp] at hw
    rw [hv]
    clear hv hnp hwp h
    all_goals
      go_enter Tryz.func92, Tryz.ntmps92
      go_wp2_with (first | (go_at_call 130; refine hw.mono ?_; rintro e w' ⟨rfl, rfl⟩) | (go_at_call 131; refine ho.mono ?_; rintro e w' ⟨rfl, rfl⟩))
      go_ret
      exact ⟨rfl, rfl⟩
  · have a10 : ((x : Int) == 10) = false := by rw [beq_eq_false_iff_ne]; omega
    have b10 : ((x : Int) != 10) = true := by rw [bne_iff_ne]; omega
    have a13 : ((x : Int) == 13) = false := by rw [beq_eq_false_iff_ne]; omega
    have b13 : ((x : Int) != 13) = true := by rw [bne_iff_ne]; omega
    have a32 : ((x : Int) == 32) = false := by rw [beq_eq_false_iff_ne]; omega
    have b32 : ((x : Int) != 32) = true := by rw [bne_iff_ne]; omega
    have a34 : ((x : Int) == 34) = false := by rw [beq_eq_false_iff_ne]; omega
    have b34 : ((x : Int) != 34) = true := by rw [bne_iff_ne]; omega
    have a44 : ((x : Int) == 44) = false := by rw [beq_eq_false_iff_ne]; omega
    have b44 : ((x : Int) != 44) = true := by rw [bne_iff_ne]; omega
    have a45 : ((x : Int) == 45) = false := by rw [beq_eq_false_iff_ne]; omega
    have b45 : ((x : Int) != 45) = true := by rw [bne_iff_ne]; omega
    have a61 : ((x : Int) == 61) = false := by rw [beq_eq_false_iff_ne]; omega
    have b61 : ((x : Int) != 61) = true := by rw [bne_iff_ne]; omega
    have a127 : ((x : Int) == 127) = false := by rw [beq_eq_false_iff_ne]; omega
    have b127 : ((x : Int) != 127) = true := by rw [bne_iff_ne]; omega
    have r1 : (48 : Int) ≤ (x : Int) := by omega
    have r2 : (x : Int) ≤ 57 := by omega
    have d1 : decide ((48 : Int) ≤ (x : Int)) = true := by simp; omega
    have d2 : decide ((x : Int) ≤ 57) = true := by simp; omega
    have hv : notNlP x = true := by simp [notNlP]; omega
    have hnp : nonprintP x = false := by simp [nonprintP]; omega
    have hwp : whiteP x = false := by simp [whiteP]; omega
    rw [hnp] at ho
    rw [hwp] at hw
    rw [hv]
    clear hv hnp hwp h
    all_goals
      go_enter Tryz.func92, Tryz.ntmps92
      go_wp2_with (first | (go_at_call 130; refine hw.mono ?_; rintro e w' ⟨rfl, rfl⟩) | (go_at_call 131; refine ho.mono ?_; rintro e w' ⟨rfl, rfl⟩))
      go_ret
      exact ⟨rfl, rfl⟩
  · have a10 : ((x : Int) == 10) = false := by rw [beq_eq_false_iff_ne]; omega
    have b10 : ((x : Int) != 10) = true := by rw [bne_iff_ne]; omega
    have a13 : ((x : Int) == 13) = false := by rw [beq_eq_false_iff_ne]; omega
    have b13 : ((x : Int) != 13) = true := by rw [bne_iff_ne]; omega
    have a32 : ((x : Int) == 32) = false := by rw [beq_eq_false_iff_ne]; omega
    have b32 : ((x : Int) != 32) = true := by rw [bne_iff_ne]; omega
    have a34 : ((x : Int) == 34) = false := by rw [beq_eq_false_iff_ne]; omega
    have b34 : ((x : Int) != 34) = true := by rw [bne_iff_ne]; omega
    have a44 : ((x : Int) == 44) = false := by rw [beq_eq_false_iff_ne]; omega
    have b44 : ((x : Int) != 44) = true := by rw [bne_iff_ne]; omega
    have a45 : ((x : Int) == 45) = false := by rw [beq_eq_false_iff_ne]; omega
    have b45 : ((x : Int) != 45) = true := by rw [bne_iff_ne]; omega
    have a61 : ((x : Int) == 61) = false := by rw [beq_eq_false_iff_ne]; omega
    have b61 : ((x : Int) != 61) = true := by rw [bne_iff_ne]; omega
    have a127 : ((x : Int) == 127) = false := by rw [beq_eq_false_iff_ne]; omega
    have b127 : ((x : Int) != 127) = true := by rw [bne_iff_ne]; omega
    have hc : (48 : Int) ≤ (x : Int) ∧ ¬ (x : Int) ≤ 57 ∨ ¬ (48 : Int) ≤ (x : Int) := by omega
    have hv : notNlP x = true := by simp [notNlP]; omega
    have hnp : nonprintP x = false := by simp [nonprintP]; omega
    have hwp : whiteP x = false := by simp [whiteP]; omega
    rw [hnp] at ho
    rw [hwp] at hw
    rw [hv]
    clear hv hnp hwp h
    rcases hc with ⟨r1, r2⟩ | r1
    all_goals
      go_enter Tryz.func92, Tryz.ntmps92
      go_wp2_with (first | (go_at_call 130; refine hw.mono ?_; rintro e w' ⟨rfl, rfl⟩) | (go_at_call 131; refine ho.mono ?_; rintro e w' ⟨rfl, rfl⟩))
      go_ret
      exact ⟨rfl, rfl⟩

end Go.Proofs.YtejlokdcocacaaaGreatDoor
