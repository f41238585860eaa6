/-
  DERIVED. GIVEN WITH THE SEED: THE CARDS: each row of YtneoieigaakoaaaGreatDoorRows.lean that lists a variable, with what it lists TIED to the program's text (the seventh form; the later family's looks); each row that meets fmt, with fmt's text TOLD by the authors' own Lean function (tested against real Go, not proved from fmt's source: count such statements apart). THE CARD IS WHAT COUNTS. Prove the row's statement (the work); the ties are given (YtneoieigaakoaaaGreatDoorTie.lean); close each card by the builder's one call (the guide's Derived/Test/ToyasCard.lean, 'card_holds'). Laid BY PROGRAM, IN A SANDBOX (cutbox-door.mjs). By AI agents, Wed Nov 11 2026. No macro, syntax, notation, axiom, sorry.
-/
import Derived.Test.YtneoieigaakoaaaGreatDoorRows
import GoSem.ClaimSeven
namespace Go.Proofs.YtneoieigaakoaaaGreatDoor
namespace Rows

/-- THE TIED CARD OF 'laws.FnValueFromBytes'. -/
def fnValueFromBytesCard : Claim7 := { stood := { row := fnValueFromBytesRow, standIns := [], harness := (true, "0212e7626d4b16419e9d3ad819fb4af556478345829377db27a5a03a94d76448"), looks := true }, kinds := [], alts := [], laidByText := true, laidKinds := [.data, .data, .widerDeep, .widerDeep, .data, .data, .data, .data, .data, .data, .sentinel, .sentinel, .sentinel, .sentinel, .pinned, .pinned, .pinned], laidTests := true, laidLooks := .later }
def FnValueFromBytesCardSaid : Prop := Claim7.holds Tryz.pinned (.plain (OpenSpec.ofChange fnValueFromBytesSpec)) fnValueFromBytesCard

/-- THE SECOND FORM's CARD OF 'laws.FnValueFromBytes'. -/
def fnValueFromBytesUptoCard : Claim7 := { stood := { row := fnValueFromBytesUptoRow, standIns := [], harness := (true, "0212e7626d4b16419e9d3ad819fb4af556478345829377db27a5a03a94d76448"), looks := true }, kinds := [], alts := [], laidByText := true, laidKinds := [.data, .data, .widerDeep, .widerDeep, .data, .data, .data, .data, .data, .data, .sentinel, .sentinel, .sentinel, .sentinel, .pinned, .pinned, .pinned], laidTests := true, laidLooks := .later }
def FnValueFromBytesUptoCardSaid : Prop := Claim7.holds Tryz.pinned (.plain (OpenSpec.upto fnValueFromBytesSpec)) fnValueFromBytesUptoCard
end Rows
end Go.Proofs.YtneoieigaakoaaaGreatDoor
