/-
  DERIVED. GIVEN WITH THE SEED: THE CARDS: each row of YtejlokdcocacaaaGreatDoorRows.lean that lists a variable, with what it lists TIED to the program's text (the seventh form; the later family's looks); each row that meets fmt, with fmt's text TOLD by the authors' own Lean function (tested against real Go, not proved from fmt's source: count such statements apart). THE CARD IS WHAT COUNTS. Prove the row's statement (the work); the ties are given (YtejlokdcocacaaaGreatDoorTie.lean); close each card by the builder's one call (the guide's Derived/Test/ToyasCard.lean, 'card_holds'). Laid BY PROGRAM, IN A SANDBOX (cutbox-door.mjs). By AI agents, Wed Nov 11 2026. No macro, syntax, notation, axiom, sorry.
-/
import Derived.Test.YtejlokdcocacaaaGreatDoorRows
import GoSem.ClaimSeven
namespace Go.Proofs.YtejlokdcocacaaaGreatDoor
namespace Rows

/-- THE TIED CARD OF 'laws.FnTimeReads'. -/
def fnTimeReadsCard : Claim7 := { stood := { row := fnTimeReadsRow, standIns := [], harness := (true, "ff61c9a577dbea704bbc320bb37623c7ab1553772d3d4aeb00196435431d81fd"), looks := true }, kinds := [], alts := [], laidByText := true, laidKinds := [.data, .data, .widerDeep, .widerDeep, .data, .data, .data, .data, .data, .data, .sentinel, .sentinel, .sentinel, .sentinel, .sentinel, .pinned, .pinned, .pinned, .pinned, .pinned, .pinned, .pinned, .pinned], laidTests := true, laidLooks := .later }
def FnTimeReadsCardSaid : Prop := Claim7.holds Tryz.pinned (.plain (OpenSpec.ofChange fnTimeReadsSpec)) fnTimeReadsCard

/-- THE TIED CARD OF 'laws.FnDecodeSkips'. -/
def fnDecodeSkipsCard : Claim7 := { stood := { row := fnDecodeSkipsRow, standIns := [], harness := (true, "ff61c9a577dbea704bbc320bb37623c7ab1553772d3d4aeb00196435431d81fd"), looks := true }, kinds := [], alts := [], laidByText := true, laidKinds := [.data, .data, .widerDeep, .widerDeep, .data, .data, .data, .data, .data, .data, .sentinel, .sentinel, .sentinel, .sentinel, .sentinel, .pinned, .pinned, .pinned, .pinned, .pinned, .pinned, .pinned, .pinned], laidTests := true, laidLooks := .later }
def FnDecodeSkipsCardSaid : Prop := Claim7.holds Tryz.pinned (.plain (OpenSpec.ofChange fnDecodeSkipsSpec)) fnDecodeSkipsCard

/-- THE SECOND FORM's CARD OF 'laws.FnTimeReads'. -/
def fnTimeReadsUptoCard : Claim7 := { stood := { row := fnTimeReadsUptoRow, standIns := [], harness := (true, "ff61c9a577dbea704bbc320bb37623c7ab1553772d3d4aeb00196435431d81fd"), looks := true }, kinds := [], alts := [], laidByText := true, laidKinds := [.data, .data, .widerDeep, .widerDeep, .data, .data, .data, .data, .data, .data, .sentinel, .sentinel, .sentinel, .sentinel, .sentinel, .pinned, .pinned, .pinned, .pinned, .pinned, .pinned, .pinned, .pinned], laidTests := true, laidLooks := .later }
def FnTimeReadsUptoCardSaid : Prop := Claim7.holds Tryz.pinned (.plain (OpenSpec.upto fnTimeReadsSpec)) fnTimeReadsUptoCard

/-- THE SECOND FORM's CARD OF 'laws.FnDecodeSkips'. -/
def fnDecodeSkipsUptoCard : Claim7 := { stood := { row := fnDecodeSkipsUptoRow, standIns := [], harness := (true, "ff61c9a577dbea704bbc320bb37623c7ab1553772d3d4aeb00196435431d81fd"), looks := true }, kinds := [], alts := [], laidByText := true, laidKinds := [.data, .data, .widerDeep, .widerDeep, .data, .data, .data, .data, .data, .data, .sentinel, .sentinel, .sentinel, .sentinel, .sentinel, .pinned, .pinned, .pinned, .pinned, .pinned, .pinned, .pinned, .pinned], laidTests := true, laidLooks := .later }
def FnDecodeSkipsUptoCardSaid : Prop := Claim7.holds Tryz.pinned (.plain (OpenSpec.upto fnDecodeSkipsSpec)) fnDecodeSkipsUptoCard
end Rows
end Go.Proofs.YtejlokdcocacaaaGreatDoor
