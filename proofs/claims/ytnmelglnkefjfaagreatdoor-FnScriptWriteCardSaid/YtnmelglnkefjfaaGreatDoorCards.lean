/-
  DERIVED. GIVEN WITH THE SEED: THE CARDS: each row of YtnmelglnkefjfaaGreatDoorRows.lean that lists a variable, with what it lists TIED to the program's text (the seventh form; the later family's looks); each row that meets fmt, with fmt's text TOLD by the authors' own Lean function (tested against real Go, not proved from fmt's source: count such statements apart). THE CARD IS WHAT COUNTS. Prove the row's statement (the work); the ties are given (YtnmelglnkefjfaaGreatDoorTie.lean); close each card by the builder's one call (the guide's Derived/Test/ToyasCard.lean, 'card_holds'). Laid BY PROGRAM, IN A SANDBOX (cutbox-door.mjs). By AI agents, Wed Nov 11 2026. No macro, syntax, notation, axiom, sorry.
-/
import Derived.Test.YtnmelglnkefjfaaGreatDoorRows
import GoSem.ClaimSeven
namespace Go.Proofs.YtnmelglnkefjfaaGreatDoor
namespace Rows

/-- THE TIED CARD OF 'laws.FnScriptWrite'. -/
def fnScriptWriteCard : Claim7 := { stood := { row := fnScriptWriteRow, standIns := [], harness := (true, "d90fe33decaf715609fc716e7d340ccea26bc12286beed67c697a168e1cc7807"), looks := true }, kinds := [], alts := [], laidByText := true, laidKinds := [.data, .data, .data], laidTests := true, laidLooks := .later }
def FnScriptWriteCardSaid : Prop := Claim7.holds Tryz.pinned (.plain (OpenSpec.ofChange fnScriptWriteSpec)) fnScriptWriteCard

/-- THE TIED CARD OF 'laws.FnMsgWrite'. -/
def fnMsgWriteCard : Claim7 := { stood := { row := fnMsgWriteRow, standIns := [], harness := (true, "d90fe33decaf715609fc716e7d340ccea26bc12286beed67c697a168e1cc7807"), looks := true }, kinds := [], alts := [], laidByText := true, laidKinds := [.data, .data, .data, .data, .pinned, .pinned], laidTests := true, laidLooks := .later }
def FnMsgWriteCardSaid : Prop := Claim7.holds Tryz.pinned (.plain (OpenSpec.ofChange fnMsgWriteSpec)) fnMsgWriteCard

/-- THE SECOND FORM's CARD OF 'laws.FnScriptWrite'. -/
def fnScriptWriteUptoCard : Claim7 := { stood := { row := fnScriptWriteUptoRow, standIns := [], harness := (true, "d90fe33decaf715609fc716e7d340ccea26bc12286beed67c697a168e1cc7807"), looks := true }, kinds := [], alts := [], laidByText := true, laidKinds := [.data, .data, .data], laidTests := true, laidLooks := .later }
def FnScriptWriteUptoCardSaid : Prop := Claim7.holds Tryz.pinned (.plain (OpenSpec.upto fnScriptWriteSpec)) fnScriptWriteUptoCard

/-- THE SECOND FORM's CARD OF 'laws.FnMsgWrite'. -/
def fnMsgWriteUptoCard : Claim7 := { stood := { row := fnMsgWriteUptoRow, standIns := [], harness := (true, "d90fe33decaf715609fc716e7d340ccea26bc12286beed67c697a168e1cc7807"), looks := true }, kinds := [], alts := [], laidByText := true, laidKinds := [.data, .data, .data, .data, .pinned, .pinned], laidTests := true, laidLooks := .later }
def FnMsgWriteUptoCardSaid : Prop := Claim7.holds Tryz.pinned (.plain (OpenSpec.upto fnMsgWriteSpec)) fnMsgWriteUptoCard
end Rows
end Go.Proofs.YtnmelglnkefjfaaGreatDoor
