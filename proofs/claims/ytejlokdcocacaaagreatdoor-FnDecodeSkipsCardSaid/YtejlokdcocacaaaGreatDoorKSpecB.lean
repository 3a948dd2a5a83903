/- The reference's escapes, and the sets of its tokens; the end of a line. -/
import Derived.Test.YtejlokdcocacaaaGreatDoorKSpecA
import Derived.Test.YtejlokdcocacaaaGreatDoorKQuote
namespace Go.Proofs.YtejlokdcocacaaaGreatDoor
open Go.RowKit

/-- What escaped tells. -/
def EscR (g : Nat → Int) (x : Nat) (w : World) (e : Ending) (w' : World) : Prop := ∃ d : Int, e = .returned (.tuple #[.int .u8 d, .bool (g x != 0)]) ∧ (g x ≠ 0 → d = g x) ∧ w = w'

theorem EscR.mk {g : Nat → Int} {x : Nat} {w : World} {d : Int} {b : Bool} (hb : (g x != 0) = b) (hd : b = true → d = g x) : EscR g x w (.returned (.tuple #[.int .u8 d, .bool b])) w :=
  ⟨d, by rw [hb], fun h => hd (by rw [← hb, bne_iff_ne]; exact h), rfl⟩

set_option maxHeartbeats 1000000 in
theorem escaped_0 (x : Nat) (w : World) : Calls Tryz.prog 154 #[.int .i64 0, .int .u8 (x : Int)] w (EscR measE x w) := by
  by_cases h32 : x = 32
  · subst h32
    go_enter Tryz.func154, Tryz.ntmps154
    go_wp2
    go_ret2
    exact EscR.mk (by decide) (fun _ => by decide)
  by_cases h44 : x = 44
  · subst h44
    go_enter Tryz.func154, Tryz.ntmps154
    go_wp2
    go_ret2
    exact EscR.mk (by decide) (fun _ => by decide)
  have a32 : ((x : Int) == 32) = false := by rw [beq_eq_false_iff_ne]; omega
  have a44 : ((x : Int) == 44) = false := by rw [beq_eq_false_iff_ne]; omega
  have hg : (measE x != 0) = false := by
    have : measE x = 0 := by unfold measE; simp [h32, h44]
    rw [this]; rfl
  have HG := hid hg
  clear hg h32 h44
  go_enter Tryz.func154, Tryz.ntmps154
  go_wp2
  go_ret2
  exact EscR.mk HG.out (fun h => by simp at h)

set_option maxHeartbeats 1000000 in
theorem escaped_1 (x : Nat) (w : World) : Calls Tryz.prog 154 #[.int .i64 1, .int .u8 (x : Int)] w (EscR tagE x w) := by
  by_cases h44 : x = 44
  · subst h44
    go_enter Tryz.func154, Tryz.ntmps154
    go_wp2
    go_ret2
    exact EscR.mk (by decide) (fun _ => by decide)
  by_cases h61 : x = 61
  · subst h61
    go_enter Tryz.func154, Tryz.ntmps154
    go_wp2
    go_ret2
    exact EscR.mk (by decide) (fun _ => by decide)
  by_cases h32 : x = 32
  · subst h32
    go_enter Tryz.func154, Tryz.ntmps154
    go_wp2
    go_ret2
    exact EscR.mk (by decide) (fun _ => by decide)
  have a44 : ((x : Int) == 44) = false := by rw [beq_eq_false_iff_ne]; omega
  have a61 : ((x : Int) == 61) = false := by rw [beq_eq_false_iff_ne]; omega
  have a32 : ((x : Int) == 32) = false := by rw [beq_eq_false_iff_ne]; omega
  have hg : (tagE x != 0) = false := by
    have : tagE x = 0 := by unfold tagE; simp [h44, h61, h32]
    rw [this]; rfl
  have HG := hid hg
  clear hg h44 h61 h32
  go_enter Tryz.func154, Tryz.ntmps154
  go_wp2
  go_ret2
  exact EscR.mk HG.out (fun h => by simp at h)

set_option maxHeartbeats 1000000 in
theorem escaped_2 (x : Nat) (w : World) : Calls Tryz.prog 154 #[.int .i64 2, .int .u8 (x : Int)] w (EscR tagE x w) := by
  by_cases h44 : x = 44
  · subst h44
    go_enter Tryz.func154, Tryz.ntmps154
    go_wp2
    go_ret2
    exact EscR.mk (by decide) (fun _ => by decide)
  by_cases h61 : x = 61
  · subst h61
    go_enter Tryz.func154, Tryz.ntmps154
    go_wp2
    go_ret2
    exact EscR.mk (by decide) (fun _ => by decide)
  by_cases h32 : x = 32
  · subst h32
    go_enter Tryz.func154, Tryz.ntmps154
    go_wp2
    go_ret2
    exact EscR.mk (by decide) (fun _ => by decide)
  have a44 : ((x : Int) == 44) = false := by rw [beq_eq_false_iff_ne]; omega
  have a61 : ((x : Int) == 61) = false := by rw [beq_eq_false_iff_ne]; omega
  have a32 : ((x : Int) == 32) = false := by rw [beq_eq_false_iff_ne]; omega
  have hg : (tagE x != 0) = false := by
    have : tagE x = 0 := by unfold tagE; simp [h44, h61, h32]
    rw [this]; rfl
  have HG := hid hg
  clear hg h44 h61 h32
  go_enter Tryz.func154, Tryz.ntmps154
  go_wp2
  go_ret2
  exact EscR.mk HG.out (fun h => by simp at h)

set_option maxHeartbeats 1000000 in
theorem escaped_3 (x : Nat) (w : World) : Calls Tryz.prog 154 #[.int .i64 3, .int .u8 (x : Int)] w (EscR tagE x w) := by
  by_cases h44 : x = 44
  · subst h44
    go_enter Tryz.func154, Tryz.ntmps154
    go_wp2
    go_ret2
    exact EscR.mk (by decide) (fun _ => by decide)
  by_cases h61 : x = 61
  · subst h61
    go_enter Tryz.func154, Tryz.ntmps154
    go_wp2
    go_ret2
    exact EscR.mk (by decide) (fun _ => by decide)
  by_cases h32 : x = 32
  · subst h32
    go_enter Tryz.func154, Tryz.ntmps154
    go_wp2
    go_ret2
    exact EscR.mk (by decide) (fun _ => by decide)
  have a44 : ((x : Int) == 44) = false := by rw [beq_eq_false_iff_ne]; omega
  have a61 : ((x : Int) == 61) = false := by rw [beq_eq_false_iff_ne]; omega
  have a32 : ((x : Int) == 32) = false := by rw [beq_eq_false_iff_ne]; omega
  have hg : (tagE x != 0) = false := by
    have : tagE x = 0 := by unfold tagE; simp [h44, h61, h32]
    rw [this]; rfl
  have HG := hid hg
  clear hg h44 h61 h32
  go_enter Tryz.func154, Tryz.ntmps154
  go_wp2
  go_ret2
  exact EscR.mk HG.out (fun h => by simp at h)

set_option maxHeartbeats 1000000 in
theorem escaped_4 (x : Nat) (w : World) : Calls Tryz.prog 154 #[.int .i64 4, .int .u8 (x : Int)] w (EscR strE x w) := by
  by_cases h110 : x = 110
  · subst h110
    go_enter Tryz.func154, Tryz.ntmps154
    go_wp2
    go_ret2
    exact EscR.mk (by decide) (fun _ => by decide)
  by_cases h114 : x = 114
  · subst h114
    go_enter Tryz.func154, Tryz.ntmps154
    go_wp2
    go_ret2
    exact EscR.mk (by decide) (fun _ => by decide)
  by_cases h116 : x = 116
  · subst h116
    go_enter Tryz.func154, Tryz.ntmps154
    go_wp2
    go_ret2
    exact EscR.mk (by decide) (fun _ => by decide)
  by_cases h92 : x = 92
  · subst h92
    go_enter Tryz.func154, Tryz.ntmps154
    go_wp2
    go_ret2
    exact EscR.mk (by decide) (fun _ => by decide)
  by_cases h34 : x = 34
  · subst h34
    go_enter Tryz.func154, Tryz.ntmps154
    go_wp2
    go_ret2
    exact EscR.mk (by decide) (fun _ => by decide)
  have a110 : ((x : Int) == 110) = false := by rw [beq_eq_false_iff_ne]; omega
  have a114 : ((x : Int) == 114) = false := by rw [beq_eq_false_iff_ne]; omega
  have a116 : ((x : Int) == 116) = false := by rw [beq_eq_false_iff_ne]; omega
  have a92 : ((x : Int) == 92) = false := by rw [beq_eq_false_iff_ne]; omega
  have a34 : ((x : Int) == 34) = false := by rw [beq_eq_false_iff_ne]; omega
  have hg : (strE x != 0) = false := by
    have : strE x = 0 := by unfold strE; simp [h110, h114, h116, h92, h34]
    rw [this]; rfl
  have HG := hid hg
  clear hg h110 h114 h116 h92 h34
  go_enter Tryz.func154, Tryz.ntmps154
  go_wp2
  go_ret2
  exact EscR.mk HG.out (fun h => by simp at h)

set_option maxHeartbeats 400000 in
theorem setOf_0 (w : World) : Calls Tryz.prog 155 #[.int .i64 0] w fun e w' => e = .returned (.int .i64 5) ∧ Below w.heap.size w w' := by
  go_enter Tryz.func155, Tryz.ntmps155
  go_wp2
  go_ret
  exact ⟨rfl, (Below.refl _ _).alloc (Nat.le_refl _) _⟩

set_option maxHeartbeats 400000 in
theorem setOf_1 (w : World) : Calls Tryz.prog 155 #[.int .i64 1] w fun e w' => e = .returned (.int .i64 2) ∧ Below w.heap.size w w' := by
  go_enter Tryz.func155, Tryz.ntmps155
  go_wp2
  go_ret
  exact ⟨rfl, (Below.refl _ _).alloc (Nat.le_refl _) _⟩

set_option maxHeartbeats 400000 in
theorem setOf_2 (w : World) : Calls Tryz.prog 155 #[.int .i64 2] w fun e w' => e = .returned (.int .i64 6) ∧ Below w.heap.size w w' := by
  go_enter Tryz.func155, Tryz.ntmps155
  go_wp2
  go_ret
  exact ⟨rfl, (Below.refl _ _).alloc (Nat.le_refl _) _⟩

set_option maxHeartbeats 400000 in
theorem setOf_3 (w : World) : Calls Tryz.prog 155 #[.int .i64 3] w fun e w' => e = .returned (.int .i64 7) ∧ Below w.heap.size w w' := by
  go_enter Tryz.func155, Tryz.ntmps155
  go_wp2
  go_ret
  exact ⟨rfl, (Below.refl _ _).alloc (Nat.le_refl _) _⟩

set_option maxHeartbeats 400000 in
theorem setOf_4 (w : World) : Calls Tryz.prog 155 #[.int .i64 4] w fun e w' => e = .returned (.int .i64 8) ∧ Below w.heap.size w w' := by
  go_enter Tryz.func155, Tryz.ntmps155
  go_wp2
  go_ret
  exact ⟨rfl, (Below.refl _ _).alloc (Nat.le_refl _) _⟩

end Go.Proofs.YtejlokdcocacaaaGreatDoor
