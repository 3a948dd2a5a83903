/- The decoder's named byte sets: what each function that makes one hands back. Printed by gen_sets.py. -/
import Derived.Test.YtejlokdcocacaaaGreatDoorSets
namespace Go.Proofs.YtejlokdcocacaaaGreatDoor
open Go.RowKit

theorem SetIs.grow {w w' : World} {S : Nat} {f : Nat → Bool} (h : SetIs w S f) (k : Below w.heap.size w w') : SetIs w' S f := h.below k h.lt

set_option maxHeartbeats 400000 in
theorem without_any {w : World} {S S' : Nat} {f g : Nat → Bool} (h : SetIs w S f) (h' : SetIs w S' g) :
    Calls Tryz.prog 136 #[.pointer (some ⟨S, 0, none⟩), .pointer (some ⟨S', 0, none⟩)] w (SP w (fun i => f i && !g i)) := by
  go_enter Tryz.func136, Tryz.ntmps136
  go_wp2_with fail
  refine (invert_any h').mono ?_; rintro e w1 ⟨S1, rfl, h1, b1, l1⟩
  go_wp2_with fail
  refine (intersect_any (h.grow b1) h1).mono ?_; rintro e w2 ⟨S2, rfl, h2, b2, l2⟩
  go_wp2_with fail
  go_ret
  exact ⟨S2, rfl, h2, b1.trans (b2.mono b1.size), Nat.le_trans b1.size l2⟩

/-- The bytes of this set. -/
def blankP (i : Nat) : Bool := i == 32

/-- The bytes of this set. -/
def whiteP (i : Nat) : Bool := i == 32 || i == 13 || i == 10

/-- The bytes of this set. -/
def nonprintP (i : Nat) : Bool := decide (i < 32) || i == 127

/-- The bytes of this set. -/
def eolP (i : Nat) : Bool := i == 13 || i == 10

/-- The bytes of this set. -/
def tagKeyP (i : Nat) : Bool := !(i == 44 || i == 61 || i == 32 || decide (i < 32) || i == 127)

/-- The bytes of this set. -/
def measP (i : Nat) : Bool := !(i == 44 || i == 32 || decide (i < 32) || i == 127)

/-- The bytes of this set. -/
def tagValP (i : Nat) : Bool := !(i == 44 || i == 61 || i == 32 || decide (i < 32) || i == 127)

/-- The bytes of this set. -/
def fieldKeyP (i : Nat) : Bool := !(i == 44 || i == 61 || i == 32 || decide (i < 32) || i == 127)

/-- The bytes of this set. -/
def strValP (i : Nat) : Bool := !(i == 34)

/-- The bytes of this set. -/
def fieldValP (i : Nat) : Bool := !(i == 44 || i == 32 || i == 13 || i == 10)

/-- The bytes of this set. -/
def timeCP (i : Nat) : Bool := i == 45 || (decide (48 ≤ i) && decide (i ≤ 57))

/-- The bytes of this set. -/
def commentP (i : Nat) : Bool := !(decide (i < 32) || i == 127)

/-- The bytes of this set. -/
def notEolP (i : Nat) : Bool := !(i == 13 || i == 10)

/-- The bytes of this set. -/
def notNlP (i : Nat) : Bool := !(i == 10)

set_option maxRecDepth 100000 in
set_option maxHeartbeats 400000 in
theorem blank_any (w : World) : Calls Tryz.prog 61 #[] w (SP w blankP) := by
  go_enter Tryz.func61, Tryz.ntmps61
  go_wp2_with fail
  refine (newByteSet_any ⟨#[32]⟩ (by decide) _).mono ?_; rintro e w1 ⟨S1, rfl, h1, b1, l1⟩
  go_wp2_with fail
  go_ret
  exact ⟨S1, rfl, h1.congr (by unfold blankP; decide +kernel), b1, l1⟩

set_option maxRecDepth 100000 in
set_option maxHeartbeats 400000 in
theorem white_any (w : World) : Calls Tryz.prog 79 #[] w (SP w whiteP) := by
  go_enter Tryz.func79, Tryz.ntmps79
  go_wp2_with fail
  refine (blank_any _).mono ?_; rintro e w1 ⟨S1, rfl, h1, b1, l1⟩
  go_wp2_with fail
  refine (newByteSet_any ⟨#[13, 10]⟩ (by decide) _).mono ?_; rintro e w2 ⟨S2, rfl, h2, b2, l2⟩
  go_wp2_with fail
  refine (union_any (h1.grow b2) h2).mono ?_; rintro e w3 ⟨S3, rfl, h3, b3, l3⟩
  go_wp2_with fail
  go_ret
  exact ⟨S3, rfl, h3.congr (by unfold whiteP; decide +kernel), ((b1.trans (b2.mono (b1).size)).trans (b3.mono ((b1.trans (b2.mono (b1).size))).size)), Nat.le_trans ((b1.trans (b2.mono (b1).size))).size l3⟩

set_option maxRecDepth 100000 in
set_option maxHeartbeats 400000 in
theorem nonprint_any (w : World) : Calls Tryz.prog 104 #[] w (SP w nonprintP) := by
  go_enter Tryz.func104, Tryz.ntmps104
  go_wp2_with fail
  refine (newByteSetRange_any 0 31 (by decide) (by decide) _).mono ?_; rintro e w1 ⟨S1, rfl, h1, b1, l1⟩
  go_wp2_with fail
  refine (newByteSet_any ⟨#[127]⟩ (by decide) _).mono ?_; rintro e w2 ⟨S2, rfl, h2, b2, l2⟩
  go_wp2_with fail
  refine (union_any (h1.grow b2) h2).mono ?_; rintro e w3 ⟨S3, rfl, h3, b3, l3⟩
  go_wp2_with fail
  go_ret
  exact ⟨S3, rfl, h3.congr (by unfold nonprintP; decide +kernel), ((b1.trans (b2.mono (b1).size)).trans (b3.mono ((b1.trans (b2.mono (b1).size))).size)), Nat.le_trans ((b1.trans (b2.mono (b1).size))).size l3⟩

set_option maxRecDepth 100000 in
set_option maxHeartbeats 400000 in
theorem eol_any (w : World) : Calls Tryz.prog 122 #[] w (SP w eolP) := by
  go_enter Tryz.func122, Tryz.ntmps122
  go_wp2_with fail
  refine (newByteSet_any ⟨#[13, 10]⟩ (by decide) _).mono ?_; rintro e w1 ⟨S1, rfl, h1, b1, l1⟩
  go_wp2_with fail
  go_ret
  exact ⟨S1, rfl, h1.congr (by unfold eolP; decide +kernel), b1, l1⟩

set_option maxRecDepth 100000 in
set_option maxHeartbeats 400000 in
theorem tagKey_any (w : World) : Calls Tryz.prog 65 #[] w (SP w tagKeyP) := by
  go_enter Tryz.func65, Tryz.ntmps65
  go_wp2_with fail
  refine (newByteSet_any ⟨#[44, 61]⟩ (by decide) _).mono ?_; rintro e w1 ⟨S1, rfl, h1, b1, l1⟩
  go_wp2_with fail
  refine (white_any _).mono ?_; rintro e w2 ⟨S2, rfl, h2, b2, l2⟩
  go_wp2_with fail
  refine (union_any (h1.grow b2) h2).mono ?_; rintro e w3 ⟨S3, rfl, h3, b3, l3⟩
  go_wp2_with fail
  refine (nonprint_any _).mono ?_; rintro e w4 ⟨S4, rfl, h4, b4, l4⟩
  go_wp2_with fail
  refine (union_any (h3.grow b4) h4).mono ?_; rintro e w5 ⟨S5, rfl, h5, b5, l5⟩
  go_wp2_with fail
  refine (invert_any h5).mono ?_; rintro e w6 ⟨S6, rfl, h6, b6, l6⟩
  go_wp2_with fail
  go_ret
  exact ⟨S6, rfl, h6.congr (by unfold tagKeyP; decide +kernel), (((((b1.trans (b2.mono (b1).size)).trans (b3.mono ((b1.trans (b2.mono (b1).size))).size)).trans (b4.mono (((b1.trans (b2.mono (b1).size)).trans (b3.mono ((b1.trans (b2.mono (b1).size))).size))).size)).trans (b5.mono ((((b1.trans (b2.mono (b1).size)).trans (b3.mono ((b1.trans (b2.mono (b1).size))).size)).trans (b4.mono (((b1.trans (b2.mono (b1).size)).trans (b3.mono ((b1.trans (b2.mono (b1).size))).size))).size))).size)).trans (b6.mono (((((b1.trans (b2.mono (b1).size)).trans (b3.mono ((b1.trans (b2.mono (b1).size))).size)).trans (b4.mono (((b1.trans (b2.mono (b1).size)).trans (b3.mono ((b1.trans (b2.mono (b1).size))).size))).size)).trans (b5.mono ((((b1.trans (b2.mono (b1).size)).trans (b3.mono ((b1.trans (b2.mono (b1).size))).size)).trans (b4.mono (((b1.trans (b2.mono (b1).size)).trans (b3.mono ((b1.trans (b2.mono (b1).size))).size))).size))).size))).size)), Nat.le_trans (((((b1.trans (b2.mono (b1).size)).trans (b3.mono ((b1.trans (b2.mono (b1).size))).size)).trans (b4.mono (((b1.trans (b2.mono (b1).size)).trans (b3.mono ((b1.trans (b2.mono (b1).size))).size))).size)).trans (b5.mono ((((b1.trans (b2.mono (b1).size)).trans (b3.mono ((b1.trans (b2.mono (b1).size))).size)).trans (b4.mono (((b1.trans (b2.mono (b1).size)).trans (b3.mono ((b1.trans (b2.mono (b1).size))).size))).size))).size))).size l6⟩

set_option maxRecDepth 100000 in
set_option maxHeartbeats 400000 in
theorem meas_any (w : World) : Calls Tryz.prog 55 #[] w (SP w measP) := by
  go_enter Tryz.func55, Tryz.ntmps55
  go_wp2_with fail
  refine (newByteSet_any ⟨#[44, 32]⟩ (by decide) _).mono ?_; rintro e w1 ⟨S1, rfl, h1, b1, l1⟩
  go_wp2_with fail
  refine (nonprint_any _).mono ?_; rintro e w2 ⟨S2, rfl, h2, b2, l2⟩
  go_wp2_with fail
  refine (union_any (h1.grow b2) h2).mono ?_; rintro e w3 ⟨S3, rfl, h3, b3, l3⟩
  go_wp2_with fail
  refine (invert_any h3).mono ?_; rintro e w4 ⟨S4, rfl, h4, b4, l4⟩
  go_wp2_with fail
  go_ret
  exact ⟨S4, rfl, h4.congr (by unfold measP; decide +kernel), (((b1.trans (b2.mono (b1).size)).trans (b3.mono ((b1.trans (b2.mono (b1).size))).size)).trans (b4.mono (((b1.trans (b2.mono (b1).size)).trans (b3.mono ((b1.trans (b2.mono (b1).size))).size))).size)), Nat.le_trans (((b1.trans (b2.mono (b1).size)).trans (b3.mono ((b1.trans (b2.mono (b1).size))).size))).size l4⟩

set_option maxRecDepth 100000 in
set_option maxHeartbeats 400000 in
theorem tagVal_any (w : World) : Calls Tryz.prog 68 #[] w (SP w tagValP) := by
  go_enter Tryz.func68, Tryz.ntmps68
  go_wp2_with fail
  refine (newByteSet_any ⟨#[44, 61]⟩ (by decide) _).mono ?_; rintro e w1 ⟨S1, rfl, h1, b1, l1⟩
  go_wp2_with fail
  refine (white_any _).mono ?_; rintro e w2 ⟨S2, rfl, h2, b2, l2⟩
  go_wp2_with fail
  refine (union_any (h1.grow b2) h2).mono ?_; rintro e w3 ⟨S3, rfl, h3, b3, l3⟩
  go_wp2_with fail
  refine (nonprint_any _).mono ?_; rintro e w4 ⟨S4, rfl, h4, b4, l4⟩
  go_wp2_with fail
  refine (union_any (h3.grow b4) h4).mono ?_; rintro e w5 ⟨S5, rfl, h5, b5, l5⟩
  go_wp2_with fail
  refine (invert_any h5).mono ?_; rintro e w6 ⟨S6, rfl, h6, b6, l6⟩
  go_wp2_with fail
  go_ret
  exact ⟨S6, rfl, h6.congr (by unfold tagValP; decide +kernel), (((((b1.trans (b2.mono (b1).size)).trans (b3.mono ((b1.trans (b2.mono (b1).size))).size)).trans (b4.mono (((b1.trans (b2.mono (b1).size)).trans (b3.mono ((b1.trans (b2.mono (b1).size))).size))).size)).trans (b5.mono ((((b1.trans (b2.mono (b1).size)).trans (b3.mono ((b1.trans (b2.mono (b1).size))).size)).trans (b4.mono (((b1.trans (b2.mono (b1).size)).trans (b3.mono ((b1.trans (b2.mono (b1).size))).size))).size))).size)).trans (b6.mono (((((b1.trans (b2.mono (b1).size)).trans (b3.mono ((b1.trans (b2.mono (b1).size))).size)).trans (b4.mono (((b1.trans (b2.mono (b1).size)).trans (b3.mono ((b1.trans (b2.mono (b1).size))).size))).size)).trans (b5.mono ((((b1.trans (b2.mono (b1).size)).trans (b3.mono ((b1.trans (b2.mono (b1).size))).size)).trans (b4.mono (((b1.trans (b2.mono (b1).size)).trans (b3.mono ((b1.trans (b2.mono (b1).size))).size))).size))).size))).size)), Nat.le_trans (((((b1.trans (b2.mono (b1).size)).trans (b3.mono ((b1.trans (b2.mono (b1).size))).size)).trans (b4.mono (((b1.trans (b2.mono (b1).size)).trans (b3.mono ((b1.trans (b2.mono (b1).size))).size))).size)).trans (b5.mono ((((b1.trans (b2.mono (b1).size)).trans (b3.mono ((b1.trans (b2.mono (b1).size))).size)).trans (b4.mono (((b1.trans (b2.mono (b1).size)).trans (b3.mono ((b1.trans (b2.mono (b1).size))).size))).size))).size))).size l6⟩

set_option maxRecDepth 100000 in
set_option maxHeartbeats 400000 in
theorem fieldKey_any (w : World) : Calls Tryz.prog 74 #[] w (SP w fieldKeyP) := by
  go_enter Tryz.func74, Tryz.ntmps74
  go_wp2_with fail
  refine (tagKey_any _).mono ?_; rintro e w1 ⟨S1, rfl, h1, b1, l1⟩
  go_wp2_with fail
  go_ret
  exact ⟨S1, rfl, h1.congr (by unfold fieldKeyP; decide +kernel), b1, l1⟩

set_option maxRecDepth 100000 in
set_option maxHeartbeats 400000 in
theorem strVal_any (w : World) : Calls Tryz.prog 76 #[] w (SP w strValP) := by
  go_enter Tryz.func76, Tryz.ntmps76
  go_wp2_with fail
  refine (newByteSet_any ⟨#[34]⟩ (by decide) _).mono ?_; rintro e w1 ⟨S1, rfl, h1, b1, l1⟩
  go_wp2_with fail
  refine (invert_any h1).mono ?_; rintro e w2 ⟨S2, rfl, h2, b2, l2⟩
  go_wp2_with fail
  go_ret
  exact ⟨S2, rfl, h2.congr (by unfold strValP; decide +kernel), (b1.trans (b2.mono (b1).size)), Nat.le_trans (b1).size l2⟩

set_option maxRecDepth 100000 in
set_option maxHeartbeats 400000 in
theorem fieldVal_any (w : World) : Calls Tryz.prog 78 #[] w (SP w fieldValP) := by
  go_enter Tryz.func78, Tryz.ntmps78
  go_wp2_with fail
  refine (newByteSet_any ⟨#[44]⟩ (by decide) _).mono ?_; rintro e w1 ⟨S1, rfl, h1, b1, l1⟩
  go_wp2_with fail
  refine (white_any _).mono ?_; rintro e w2 ⟨S2, rfl, h2, b2, l2⟩
  go_wp2_with fail
  refine (union_any (h1.grow b2) h2).mono ?_; rintro e w3 ⟨S3, rfl, h3, b3, l3⟩
  go_wp2_with fail
  refine (invert_any h3).mono ?_; rintro e w4 ⟨S4, rfl, h4, b4, l4⟩
  go_wp2_with fail
  go_ret
  exact ⟨S4, rfl, h4.congr (by unfold fieldValP; decide +kernel), (((b1.trans (b2.mono (b1).size)).trans (b3.mono ((b1.trans (b2.mono (b1).size))).size)).trans (b4.mono (((b1.trans (b2.mono (b1).size)).trans (b3.mono ((b1.trans (b2.mono (b1).size))).size))).size)), Nat.le_trans (((b1.trans (b2.mono (b1).size)).trans (b3.mono ((b1.trans (b2.mono (b1).size))).size))).size l4⟩

set_option maxRecDepth 100000 in
set_option maxHeartbeats 400000 in
theorem timeC_any (w : World) : Calls Tryz.prog 81 #[] w (SP w timeCP) := by
  go_enter Tryz.func81, Tryz.ntmps81
  go_wp2_with fail
  refine (newByteSet_any ⟨#[45, 48, 49, 50, 51, 52, 53, 54, 55, 56, 57]⟩ (by decide) _).mono ?_; rintro e w1 ⟨S1, rfl, h1, b1, l1⟩
  go_wp2_with fail
  go_ret
  exact ⟨S1, rfl, h1.congr (by unfold timeCP; decide +kernel), b1, l1⟩

set_option maxRecDepth 100000 in
set_option maxHeartbeats 400000 in
theorem comment_any (w : World) : Calls Tryz.prog 98 #[] w (SP w commentP) := by
  go_enter Tryz.func98, Tryz.ntmps98
  go_wp2_with fail
  refine (nonprint_any _).mono ?_; rintro e w1 ⟨S1, rfl, h1, b1, l1⟩
  go_wp2_with fail
  refine (invert_any h1).mono ?_; rintro e w2 ⟨S2, rfl, h2, b2, l2⟩
  go_wp2_with fail
  refine (eol_any _).mono ?_; rintro e w3 ⟨S3, rfl, h3, b3, l3⟩
  go_wp2_with fail
  refine (without_any (h2.grow b3) h3).mono ?_; rintro e w4 ⟨S4, rfl, h4, b4, l4⟩
  go_wp2_with fail
  go_ret
  exact ⟨S4, rfl, h4.congr (by unfold commentP; decide +kernel), (((b1.trans (b2.mono (b1).size)).trans (b3.mono ((b1.trans (b2.mono (b1).size))).size)).trans (b4.mono (((b1.trans (b2.mono (b1).size)).trans (b3.mono ((b1.trans (b2.mono (b1).size))).size))).size)), Nat.le_trans (((b1.trans (b2.mono (b1).size)).trans (b3.mono ((b1.trans (b2.mono (b1).size))).size))).size l4⟩

set_option maxRecDepth 100000 in
set_option maxHeartbeats 400000 in
theorem notEol_any (w : World) : Calls Tryz.prog 82 #[] w (SP w notEolP) := by
  go_enter Tryz.func82, Tryz.ntmps82
  go_wp2_with fail
  refine (eol_any _).mono ?_; rintro e w1 ⟨S1, rfl, h1, b1, l1⟩
  go_wp2_with fail
  refine (invert_any h1).mono ?_; rintro e w2 ⟨S2, rfl, h2, b2, l2⟩
  go_wp2_with fail
  go_ret
  exact ⟨S2, rfl, h2.congr (by unfold notEolP; decide +kernel), (b1.trans (b2.mono (b1).size)), Nat.le_trans (b1).size l2⟩

set_option maxRecDepth 100000 in
set_option maxHeartbeats 400000 in
theorem notNl_any (w : World) : Calls Tryz.prog 157 #[] w (SP w notNlP) := by
  go_enter Tryz.func157, Tryz.ntmps157
  go_wp2_with fail
  refine (newByteSet_any ⟨#[10]⟩ (by decide) _).mono ?_; rintro e w1 ⟨S1, rfl, h1, b1, l1⟩
  go_wp2_with fail
  refine (invert_any h1).mono ?_; rintro e w2 ⟨S2, rfl, h2, b2, l2⟩
  go_wp2_with fail
  go_ret
  exact ⟨S2, rfl, h2.congr (by unfold notNlP; decide +kernel), (b1.trans (b2.mono (b1).size)), Nat.le_trans (b1).size l2⟩

end Go.Proofs.YtejlokdcocacaaaGreatDoor
