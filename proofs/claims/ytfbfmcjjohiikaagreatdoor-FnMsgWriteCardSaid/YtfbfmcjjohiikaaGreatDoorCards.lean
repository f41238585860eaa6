/-
  DERIVED. GIVEN WITH THE SEED: THE CARDS: each row of YtfbfmcjjohiikaaGreatDoorRows.lean that lists a variable, with what it lists TIED to the program's text (the seventh form; the later family's looks); each row that meets fmt, with fmt's text TOLD by the authors' own Lean function (tested against real Go, not proved from fmt's source: count such statements apart). THE CARD IS WHAT COUNTS. Prove the row's statement (the work); the ties are given (YtfbfmcjjohiikaaGreatDoorTie.lean); close each card by the builder's one call (the guide's Derived/Test/ToyasCard.lean, 'card_holds'). Laid BY PROGRAM, IN A SANDBOX (cutbox-door.mjs). By AI agents, Wed Nov 11 2026. No macro, syntax, notation, axiom, sorry.
-/
import Derived.Test.YtfbfmcjjohiikaaGreatDoorRows
import GoSem.ClaimSeven
namespace Go.Proofs.YtfbfmcjjohiikaaGreatDoor
namespace Rows

/-- THE TIED CARD OF 'laws.FnMsgWrite'. -/
def fnMsgWriteCard : Claim7 := { stood := { row := fnMsgWriteRow, standIns := [], harness := (true, "ec6dd193a0c2e90a894c98c350a44d24698a6089cdfbc818c29ea392bf0749ea"), looks := true }, kinds := [], alts := [], laidByText := true, laidKinds := [.data, .data, .data, .data, .pinned, .pinned], laidTests := true, laidLooks := .later }
def FnMsgWriteCardSaid : Prop := Claim7.holds Tryz.pinned (.plain (OpenSpec.ofChange fnMsgWriteSpec)) fnMsgWriteCard

/-- THE SECOND FORM's CARD OF 'laws.FnMsgWrite'. -/
def fnMsgWriteUptoCard : Claim7 := { stood := { row := fnMsgWriteUptoRow, standIns := [], harness := (true, "ec6dd193a0c2e90a894c98c350a44d24698a6089cdfbc818c29ea392bf0749ea"), looks := true }, kinds := [], alts := [], laidByText := true, laidKinds := [.data, .data, .data, .data, .pinned, .pinned], laidTests := true, laidLooks := .later }
def FnMsgWriteUptoCardSaid : Prop := Claim7.holds Tryz.pinned (.plain (OpenSpec.upto fnMsgWriteSpec)) fnMsgWriteUptoCard
end Rows
end Go.Proofs.YtfbfmcjjohiikaaGreatDoor
