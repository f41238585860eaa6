/-
  DERIVED. GIVEN WITH THE SEED: THE CARDS: each row of YtbahngfpadjbhaaDoorRows.lean that lists a variable, with what it lists TIED to the program's text (the seventh form; the later family's looks); each row that meets fmt, with fmt's text TOLD by the authors' own Lean function (tested against real Go, not proved from fmt's source: count such statements apart). THE CARD IS WHAT COUNTS. Prove the row's statement (the work); the ties are given (YtbahngfpadjbhaaDoorTie.lean); close each card by the builder's one call (the guide's Derived/Test/ToyasCard.lean, 'card_holds'). Laid BY PROGRAM, IN A SANDBOX (cutbox-door.mjs). By AI agents, Wed Nov 11 2026. No macro, syntax, notation, axiom, sorry.
-/
import Derived.Test.YtbahngfpadjbhaaDoorRows
import GoSem.ClaimSeven
namespace Go.Proofs.YtbahngfpadjbhaaDoor
namespace Rows

/-- THE TIED CARD OF 'laws.FnEndOfLine'. -/
def fnEndOfLineCard : Claim7 := { stood := { row := fnEndOfLineRow, standIns := [], harness := (true, "91d052f8e907a8399c6effb494b4c52990f7f0aea8489e77ae99dcabb60f389d"), looks := true }, kinds := [], alts := [], laidByText := true, laidKinds := [.sentinel], laidTests := true, laidLooks := .later }
def FnEndOfLineCardSaid : Prop := Claim7.holds Tryd.pinned (.plain (OpenSpec.ofChange fnEndOfLineSpec)) fnEndOfLineCard

/-- THE TIED CARD OF 'laws.FnEscapeBack'. -/
def fnEscapeBackCard : Claim7 := { stood := { row := fnEscapeBackRow, standIns := [], harness := (true, "91d052f8e907a8399c6effb494b4c52990f7f0aea8489e77ae99dcabb60f389d"), looks := true }, kinds := [], alts := [], laidByText := true, laidKinds := [.data, .sentinel, .pinned, .pinned, .pinned, .pinned, .pinned, .pinned], laidTests := true, laidLooks := .later }
def FnEscapeBackCardSaid : Prop := Claim7.holds Tryd.pinned (.plain (OpenSpec.ofChange fnEscapeBackSpec)) fnEscapeBackCard

/-- THE SECOND FORM's CARD OF 'laws.FnEndOfLine'. -/
def fnEndOfLineUptoCard : Claim7 := { stood := { row := fnEndOfLineUptoRow, standIns := [], harness := (true, "91d052f8e907a8399c6effb494b4c52990f7f0aea8489e77ae99dcabb60f389d"), looks := true }, kinds := [], alts := [], laidByText := true, laidKinds := [.sentinel], laidTests := true, laidLooks := .later }
def FnEndOfLineUptoCardSaid : Prop := Claim7.holds Tryd.pinned (.plain (OpenSpec.upto fnEndOfLineSpec)) fnEndOfLineUptoCard

/-- THE SECOND FORM's CARD OF 'laws.FnEscapeBack'. -/
def fnEscapeBackUptoCard : Claim7 := { stood := { row := fnEscapeBackUptoRow, standIns := [], harness := (true, "91d052f8e907a8399c6effb494b4c52990f7f0aea8489e77ae99dcabb60f389d"), looks := true }, kinds := [], alts := [], laidByText := true, laidKinds := [.data, .sentinel, .pinned, .pinned, .pinned, .pinned, .pinned, .pinned], laidTests := true, laidLooks := .later }
def FnEscapeBackUptoCardSaid : Prop := Claim7.holds Tryd.pinned (.plain (OpenSpec.upto fnEscapeBackSpec)) fnEscapeBackUptoCard
end Rows
end Go.Proofs.YtbahngfpadjbhaaDoor
