/-
  DERIVED. GIVEN WITH THE SEED: THE CARDS: each row of YtbahngfpadjbhaaGreatDoorRows.lean that lists a variable, with what it lists TIED to the program's text (the seventh form; the later family's looks); each row that meets fmt, with fmt's text TOLD by the authors' own Lean function (tested against real Go, not proved from fmt's source: count such statements apart). THE CARD IS WHAT COUNTS. Prove the row's statement (the work); the ties are given (YtbahngfpadjbhaaGreatDoorTie.lean); close each card by the builder's one call (the guide's Derived/Test/ToyasCard.lean, 'card_holds'). Laid BY PROGRAM, IN A SANDBOX (cutbox-door.mjs). By AI agents, Wed Nov 11 2026. No macro, syntax, notation, axiom, sorry.
-/
import Derived.Test.YtbahngfpadjbhaaGreatDoorRows
import GoSem.ClaimSeven
namespace Go.Proofs.YtbahngfpadjbhaaGreatDoor
namespace Rows

/-- THE TIED CARD OF 'laws.FnDecodeCRLF'. -/
def fnDecodeCRLFCard : Claim7 := { stood := { row := fnDecodeCRLFRow, standIns := [], harness := (true, "157b339aa5f7bf35372bf56c3253083332ed39b5f11ab043ea9bb61c79be443d"), looks := true }, kinds := [], alts := [], laidByText := true, laidKinds := [.data, .sentinel, .sentinel, .pinned, .pinned, .pinned, .pinned, .pinned, .pinned], laidTests := true, laidLooks := .later }
def FnDecodeCRLFCardSaid : Prop := Claim7.holds Tryz.pinned (.plain (OpenSpec.ofChange fnDecodeCRLFSpec)) fnDecodeCRLFCard

/-- THE TIED CARD OF 'laws.FnDecodePieces'. -/
def fnDecodePiecesCard : Claim7 := { stood := { row := fnDecodePiecesRow, standIns := [], harness := (true, "157b339aa5f7bf35372bf56c3253083332ed39b5f11ab043ea9bb61c79be443d"), looks := true }, kinds := [], alts := [], laidByText := true, laidKinds := [.data, .sentinel, .sentinel, .pinned, .pinned, .pinned, .pinned, .pinned, .pinned], laidTests := true, laidLooks := .later }
def FnDecodePiecesCardSaid : Prop := Claim7.holds Tryz.pinned (.plain (OpenSpec.ofChange fnDecodePiecesSpec)) fnDecodePiecesCard

/-- THE SECOND FORM's CARD OF 'laws.FnDecodeCRLF'. -/
def fnDecodeCRLFUptoCard : Claim7 := { stood := { row := fnDecodeCRLFUptoRow, standIns := [], harness := (true, "157b339aa5f7bf35372bf56c3253083332ed39b5f11ab043ea9bb61c79be443d"), looks := true }, kinds := [], alts := [], laidByText := true, laidKinds := [.data, .sentinel, .sentinel, .pinned, .pinned, .pinned, .pinned, .pinned, .pinned], laidTests := true, laidLooks := .later }
def FnDecodeCRLFUptoCardSaid : Prop := Claim7.holds Tryz.pinned (.plain (OpenSpec.upto fnDecodeCRLFSpec)) fnDecodeCRLFUptoCard

/-- THE SECOND FORM's CARD OF 'laws.FnDecodePieces'. -/
def fnDecodePiecesUptoCard : Claim7 := { stood := { row := fnDecodePiecesUptoRow, standIns := [], harness := (true, "157b339aa5f7bf35372bf56c3253083332ed39b5f11ab043ea9bb61c79be443d"), looks := true }, kinds := [], alts := [], laidByText := true, laidKinds := [.data, .sentinel, .sentinel, .pinned, .pinned, .pinned, .pinned, .pinned, .pinned], laidTests := true, laidLooks := .later }
def FnDecodePiecesUptoCardSaid : Prop := Claim7.holds Tryz.pinned (.plain (OpenSpec.upto fnDecodePiecesSpec)) fnDecodePiecesUptoCard
end Rows
end Go.Proofs.YtbahngfpadjbhaaGreatDoor
