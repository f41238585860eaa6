/-
  DERIVED. GIVEN WITH THE SEED: THE CARDS: each row of YtnmelglnkefjfaaDoorRows.lean that lists a variable, with what it lists TIED to the program's text (the seventh form; the later family's looks); each row that meets fmt, with fmt's text TOLD by the authors' own Lean function (tested against real Go, not proved from fmt's source: count such statements apart). THE CARD IS WHAT COUNTS. Prove the row's statement (the work); the ties are given (YtnmelglnkefjfaaDoorTie.lean); close each card by the builder's one call (the guide's Derived/Test/ToyasCard.lean, 'card_holds'). Laid BY PROGRAM, IN A SANDBOX (cutbox-door.mjs). By AI agents, Wed Nov 11 2026. No macro, syntax, notation, axiom, sorry.
-/
import Derived.Test.YtnmelglnkefjfaaDoorRows
import GoSem.ClaimSeven
namespace Go.Proofs.YtnmelglnkefjfaaDoor
namespace Rows

/-- THE TIED CARD OF 'laws.FnSkipMore'. -/
def fnSkipMoreCard : Claim7 := { stood := { row := fnSkipMoreRow, standIns := [], harness := (true, "3acd84dda7f9945e069735996883f8a9a4422cb8dad67e7c86bb4f26a86eebfa"), looks := true }, kinds := [], alts := [], laidByText := true, laidKinds := [.sentinel, .sentinel], laidTests := true, laidLooks := .later }
def FnSkipMoreCardSaid : Prop := Claim7.holds Tryd.pinned (.plain (OpenSpec.ofChange fnSkipMoreSpec)) fnSkipMoreCard

/-- THE TIED CARD OF 'laws.FnRawRead'. -/
def fnRawReadCard : Claim7 := { stood := { row := fnRawReadRow, standIns := [], harness := (true, "3acd84dda7f9945e069735996883f8a9a4422cb8dad67e7c86bb4f26a86eebfa"), looks := true }, kinds := [], alts := [], laidByText := true, laidKinds := [.sentinel, .sentinel, .sentinel], laidTests := true, laidLooks := .later }
def FnRawReadCardSaid : Prop := Claim7.holds Tryd.pinned (.plain (OpenSpec.ofChange fnRawReadSpec)) fnRawReadCard

/-- THE TIED CARD OF 'laws.FnCommandText'. -/
def fnCommandTextCard : Claim7 := { stood := { row := fnCommandTextRow, standIns := [], harness := (true, "3acd84dda7f9945e069735996883f8a9a4422cb8dad67e7c86bb4f26a86eebfa"), looks := true }, kinds := [], alts := [], laidByText := true, laidKinds := [.data, .pinned, .pinned, .pinned, .pinned, .pinned, .pinned, .pinned], laidTests := true, laidLooks := .later }
def FnCommandTextCardSaid : Prop := Claim7.holds Tryd.pinned (.plain (OpenSpec.ofChange fnCommandTextSpec)) fnCommandTextCard

/-- THE SECOND FORM's CARD OF 'laws.FnSkipMore'. -/
def fnSkipMoreUptoCard : Claim7 := { stood := { row := fnSkipMoreUptoRow, standIns := [], harness := (true, "3acd84dda7f9945e069735996883f8a9a4422cb8dad67e7c86bb4f26a86eebfa"), looks := true }, kinds := [], alts := [], laidByText := true, laidKinds := [.sentinel, .sentinel], laidTests := true, laidLooks := .later }
def FnSkipMoreUptoCardSaid : Prop := Claim7.holds Tryd.pinned (.plain (OpenSpec.upto fnSkipMoreSpec)) fnSkipMoreUptoCard

/-- THE SECOND FORM's CARD OF 'laws.FnRawRead'. -/
def fnRawReadUptoCard : Claim7 := { stood := { row := fnRawReadUptoRow, standIns := [], harness := (true, "3acd84dda7f9945e069735996883f8a9a4422cb8dad67e7c86bb4f26a86eebfa"), looks := true }, kinds := [], alts := [], laidByText := true, laidKinds := [.sentinel, .sentinel, .sentinel], laidTests := true, laidLooks := .later }
def FnRawReadUptoCardSaid : Prop := Claim7.holds Tryd.pinned (.plain (OpenSpec.upto fnRawReadSpec)) fnRawReadUptoCard

/-- THE SECOND FORM's CARD OF 'laws.FnCommandText'. -/
def fnCommandTextUptoCard : Claim7 := { stood := { row := fnCommandTextUptoRow, standIns := [], harness := (true, "3acd84dda7f9945e069735996883f8a9a4422cb8dad67e7c86bb4f26a86eebfa"), looks := true }, kinds := [], alts := [], laidByText := true, laidKinds := [.data, .pinned, .pinned, .pinned, .pinned, .pinned, .pinned, .pinned], laidTests := true, laidLooks := .later }
def FnCommandTextUptoCardSaid : Prop := Claim7.holds Tryd.pinned (.plain (OpenSpec.upto fnCommandTextSpec)) fnCommandTextUptoCard
end Rows
end Go.Proofs.YtnmelglnkefjfaaDoor
