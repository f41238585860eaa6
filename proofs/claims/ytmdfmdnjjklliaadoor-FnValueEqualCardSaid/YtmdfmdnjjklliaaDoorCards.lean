/-
  DERIVED. GIVEN WITH THE SEED: THE CARDS: each row of YtmdfmdnjjklliaaDoorRows.lean that lists a variable, with what it lists TIED to the program's text (the seventh form; the later family's looks); each row that meets fmt, with fmt's text TOLD by the authors' own Lean function (tested against real Go, not proved from fmt's source: count such statements apart). THE CARD IS WHAT COUNTS. Prove the row's statement (the work); the ties are given (YtmdfmdnjjklliaaDoorTie.lean); close each card by the builder's one call (the guide's Derived/Test/ToyasCard.lean, 'card_holds'). Laid BY PROGRAM, IN A SANDBOX (cutbox-door.mjs). By AI agents, Wed Nov 11 2026. No macro, syntax, notation, axiom, sorry.
-/
import Derived.Test.YtmdfmdnjjklliaaDoorRows
import GoSem.ClaimSeven
namespace Go.Proofs.YtmdfmdnjjklliaaDoor
namespace Rows

/-- THE TIED CARD OF 'laws.FnValueEqual'. -/
def fnValueEqualCard : Claim7 := { stood := { row := fnValueEqualRow, standIns := [], harness := (true, "eb4c19d3c25549ce1528855bd54bfeca62d9539d7740cdc874addcbc7d8dd41c"), looks := false }, kinds := [], alts := [], laidByText := true, laidKinds := [.data, .pinned], laidTests := true, laidLooks := .later }
def FnValueEqualCardSaid : Prop := Claim7.holds Tryd.pinned (.plain (OpenSpec.ofChange fnValueEqualSpec)) fnValueEqualCard

/-- THE SECOND FORM's CARD OF 'laws.FnValueEqual'. -/
def fnValueEqualUptoCard : Claim7 := { stood := { row := fnValueEqualUptoRow, standIns := [], harness := (true, "eb4c19d3c25549ce1528855bd54bfeca62d9539d7740cdc874addcbc7d8dd41c"), looks := false }, kinds := [], alts := [], laidByText := true, laidKinds := [.data, .pinned], laidTests := true, laidLooks := .later }
def FnValueEqualUptoCardSaid : Prop := Claim7.holds Tryd.pinned (.plain (OpenSpec.upto fnValueEqualSpec)) fnValueEqualUptoCard
end Rows
end Go.Proofs.YtmdfmdnjjklliaaDoor
