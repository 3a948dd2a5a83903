/-
  PROVED: laws.FnTimeReads answers true at every input: the card of the statement, tied to the program's text. Conditions: none beyond the statement's own.
-/
import Derived.Test.YtejlokdcocacaaaGreatDoorTrRow
import Derived.Test.YtejlokdcocacaaaGreatDoorTie
import Derived.Test.YtejlokdcocacaaaGreatDoorCards
import Derived.SevenTiedAt
namespace Go.Proofs.YtejlokdcocacaaaGreatDoor
open Go.ChangeShapes Go.WideShapes Go.ChangeAt Go.RowKit

theorem fnTimeReads_said : Rows.FnTimeReadsSaid :=
  OpenClaim.holds_of_wide 3 Tryz.f3 rfl rfl rfl rfl rfl rfl rfl ⟨rfl, rfl, rfl, rfl, rfl⟩ rfl rfl rfl rfl rfl (by kernel_rfl) Tryz.func3 (by kernel_rfl)
    (of_decide_eq_true (by kernel_rfl)) (by unfold Func.isWrapper; first | (rw [if_pos (by decide +kernel)]; kernel_rfl) | (rw [if_neg (by decide +kernel)]; exact ⟨rfl, rfl⟩))
    (fun os started H enc _ => lifted os started H enc)

theorem fnTimeReads_card : Rows.FnTimeReadsCardSaid :=
  Claim7.holds_tied_plain_at .later [] [.data, .data, .widerDeep, .widerDeep, .data, .data, .data, .data, .data, .data, .sentinel, .sentinel, .sentinel, .sentinel, .sentinel, .pinned, .pinned, .pinned, .pinned, .pinned, .pinned, .pinned, .pinned] true (true, "ff61c9a577dbea704bbc320bb37623c7ab1553772d3d4aeb00196435431d81fd") true
    fnTimeReads_said (fun _ h => by cases h) (by kernel_rfl) (fun _ h => by cases h) fnTimeReads_row_tie rfl ⟨rfl, rfl⟩ (by kernel_rfl) rfl
    (fun f fn hf hfn => by
      obtain rfl : f = 3 := Option.some.inj ((show Tryz.prog.funcNamed "pub-teleprinter/laws.FnTimeReads" = some 3 by kernel_rfl).symm.trans hf) |>.symm
      obtain rfl : fn = Tryz.f3 := (Option.some.inj (Tryz.func3.symm.trans hfn)).symm
      exact ⟨by kernel_rfl, fun j t ht => by
        rw [Tryz.params3] at ht
        have hm : t ∈ [3, 2, 2] := by simpa using Array.mem_of_getElem? ht
        have hall : ([3, 2, 2].all fun u => !Tryz.prog.wantsStandIn u) = true := by kernel_rfl
        exact (show Tryz.prog.wantsStandIn t = false by simpa using List.all_eq_true.1 hall t hm)⟩)
    (by kernel_rfl)
#print axioms fnTimeReads_card
end Go.Proofs.YtejlokdcocacaaaGreatDoor
