/-
  No cell of these rows narrows 'for every input' (looked for: loops, veiled, ifaces, maps, wideKeys, modest, calm, conditions, laid).
  DERIVED. THE GIVEN ROWS OF THIS SEAT. 3 by the template 'for every input the law returns true; each argument reads behind the call as it read before'; 0 by the template 'total and deterministic' (their statements: YtnmelglnkefjfaaTotals.lean).
  GIVEN WITH THE SEED: the statements are not yours to turn. If you find one false, say at which input.
  Laid BY PROGRAM, IN A SANDBOX (cutbox-rows.mjs): the forced cells as the released guide's own fill.sh prints them over the translation 6e2e8e8b8e0c3c54… (all of the seat's roots in one cut). By AI agents, Wed Nov 11 2026. No macro, syntax, notation, axiom, sorry.
-/
import Derived.Test.YtnmelglnkefjfaaChecked
import GoSem.Claim
import GoSem.ClaimJoined
import GoSem.ClaimMapViews
import Derived.JoinedTies
import Derived.KernelRfl
namespace Go.Proofs.Ytnmelglnkefjfaa
/- THE CELL 'sum', in the pinned program and in every row, IS THE sha256 OF THE DUMP (.gsa) THAT YtnmelglnkefjfaaProg.lean LOADS. Nothing in Lean hashes anything: it is a label: what it is worth is what the hold of that sum in a sandbox is worth. -/
noncomputable def Try.pinned : Pinned := { name := "ytnmelglnkefjfaa", sum := "6e2e8e8b8e0c3c542e75e726f322c416062b217af696ab7e3d32591ae87fa665", checked := Try.checked }
namespace Rows
def none {H : Type} : Left H := { results := [], args := [] }

/-- 'laws.FnNextIs': WHATEVER THE INPUT: true; the input reads as it did. -/
def fnNextIsSpec : ChangeSpec := { name := "fnNextIs", fn := fun _ => fun
  | [d1, d2] => { results := [.lit (.bool true)], args := [d1, d2] }
  | _ => none }
def fnNextIsRow : OpenClaim := { program := "ytnmelglnkefjfaa", sum := "6e2e8e8b8e0c3c542e75e726f322c416062b217af696ab7e3d32591ae87fa665", func := "pub-teleprinter/laws.FnNextIs", spec := "fnNextIs", unfollowed := true, recurses := true, apart := false }
def FnNextIsSaid : Prop := fnNextIsRow.holds Try.pinned (OpenSpec.ofChange fnNextIsSpec)

/-- ITS FALSE NEIGHBOUR: 'it returns false'. Refute it at one input. -/
def fnNextIsWrong : ChangeSpec := { name := "fnNextIs", fn := fun _ => fun
  | [d1, d2] => { results := [.lit (.bool false)], args := [d1, d2] }
  | _ => none }
def FnNextIsWrongFalsely : Prop := fnNextIsRow.holds Try.pinned (OpenSpec.ofChange fnNextIsWrong)

/-- 'laws.FnSHA1Pieces': WHATEVER THE INPUT: true; the input reads as it did. -/
def fnSHA1PiecesSpec : ChangeSpec := { name := "fnSHA1Pieces", fn := fun _ => fun
  | [d] => { results := [.lit (.bool true)], args := [d] }
  | _ => none }
def fnSHA1PiecesRow : OpenClaim := { program := "ytnmelglnkefjfaa", sum := "6e2e8e8b8e0c3c542e75e726f322c416062b217af696ab7e3d32591ae87fa665", func := "pub-teleprinter/laws.FnSHA1Pieces", spec := "fnSHA1Pieces", unfollowed := true, recurses := true, apart := false }
def FnSHA1PiecesSaid : Prop := fnSHA1PiecesRow.holds Try.pinned (OpenSpec.ofChange fnSHA1PiecesSpec)

/-- ITS FALSE NEIGHBOUR: 'it returns false'. Refute it at one input. -/
def fnSHA1PiecesWrong : ChangeSpec := { name := "fnSHA1Pieces", fn := fun _ => fun
  | [d] => { results := [.lit (.bool false)], args := [d] }
  | _ => none }
def FnSHA1PiecesWrongFalsely : Prop := fnSHA1PiecesRow.holds Try.pinned (OpenSpec.ofChange fnSHA1PiecesWrong)

/-- 'laws.FnReadLineInt': WHATEVER THE INPUT: true; the input reads as it did. -/
def fnReadLineIntSpec : ChangeSpec := { name := "fnReadLineInt", fn := fun _ => fun
  | [d1, d2] => { results := [.lit (.bool true)], args := [d1, d2] }
  | _ => none }
def fnReadLineIntRow : OpenClaim := { program := "ytnmelglnkefjfaa", sum := "6e2e8e8b8e0c3c542e75e726f322c416062b217af696ab7e3d32591ae87fa665", func := "pub-teleprinter/laws.FnReadLineInt", spec := "fnReadLineInt", unfollowed := true, recurses := true, apart := false }
def FnReadLineIntSaid : Prop := fnReadLineIntRow.holds Try.pinned (OpenSpec.ofChange fnReadLineIntSpec)

/-- ITS FALSE NEIGHBOUR: 'it returns false'. Refute it at one input. -/
def fnReadLineIntWrong : ChangeSpec := { name := "fnReadLineInt", fn := fun _ => fun
  | [d1, d2] => { results := [.lit (.bool false)], args := [d1, d2] }
  | _ => none }
def FnReadLineIntWrongFalsely : Prop := fnReadLineIntRow.holds Try.pinned (OpenSpec.ofChange fnReadLineIntWrong)

/- THE SECOND FORM. 'bulk': how many values and letters a reading holds, each counted each time it is reached (what is shared counts as often as it is met; a slice's spare places count too). A statement '..UptoSaid' is the law's where the arguments, and the package variables that the reading takes, are together of bulk at most 1048576: NARROWER than '..Said'. Prove '..Said' where nothing that the law and all that it calls make is longer than what came in: it says more and counts as full. Else prove '..UptoSaid'. A law counts once. -/
mutual
def uptoBulk {H : Type} : DataW H → Nat
  | .lit (.string bytes) => bytes.length + 1
  | .lit _ => 1
  | .nil => 1
  | .ptr d => uptoBulk d + 1
  | .slice elems spare => uptoBulkAll elems + uptoBulkAll spare + 1
  | .agg parts => uptoBulkAll parts + 1
  | .iface _ d => uptoBulk d + 1
  | .map entries => uptoBulkEntries entries + 1
  | .held _ => 1
def uptoBulkAll {H : Type} : List (DataW H) → Nat
  | [] => 0
  | d :: r => uptoBulk d + uptoBulkAll r
def uptoBulkEntries {H : Type} : List (Lit × DataW H) → Nat
  | [] => 0
  | x :: r => uptoBulkEntry x + uptoBulkEntries r
def uptoBulkEntry {H : Type} : Lit × DataW H → Nat
  | (.string bytes, d) => bytes.length + uptoBulk d + 1
  | (_, d) => uptoBulk d + 1
 end
def uptoSmall : (H : Type) → List (DataW H) → Bool := fun _ ds => decide (uptoBulkAll ds ≤ 1048576)
def OpenSpec.upto (s : _root_.Go.ChangeSpec) : _root_.Go.OpenSpec := { _root_.Go.OpenSpec.ofChange s with cond := some uptoSmall }

/-- 'laws.FnNextIs', WHERE WHAT IT READS IS OF BULK AT MOST 1048576: true; the input reads as it did. -/
def fnNextIsUptoRow : OpenClaim := { program := "ytnmelglnkefjfaa", sum := "6e2e8e8b8e0c3c542e75e726f322c416062b217af696ab7e3d32591ae87fa665", func := "pub-teleprinter/laws.FnNextIs", spec := "fnNextIs", unfollowed := true, recurses := true, apart := false, narrowed := true }
def FnNextIsUptoSaid : Prop := fnNextIsUptoRow.holds Try.pinned (OpenSpec.upto fnNextIsSpec)

/-- 'laws.FnSHA1Pieces', WHERE WHAT IT READS IS OF BULK AT MOST 1048576: true; the input reads as it did. -/
def fnSHA1PiecesUptoRow : OpenClaim := { program := "ytnmelglnkefjfaa", sum := "6e2e8e8b8e0c3c542e75e726f322c416062b217af696ab7e3d32591ae87fa665", func := "pub-teleprinter/laws.FnSHA1Pieces", spec := "fnSHA1Pieces", unfollowed := true, recurses := true, apart := false, narrowed := true }
def FnSHA1PiecesUptoSaid : Prop := fnSHA1PiecesUptoRow.holds Try.pinned (OpenSpec.upto fnSHA1PiecesSpec)

/-- 'laws.FnReadLineInt', WHERE WHAT IT READS IS OF BULK AT MOST 1048576: true; the input reads as it did. -/
def fnReadLineIntUptoRow : OpenClaim := { program := "ytnmelglnkefjfaa", sum := "6e2e8e8b8e0c3c542e75e726f322c416062b217af696ab7e3d32591ae87fa665", func := "pub-teleprinter/laws.FnReadLineInt", spec := "fnReadLineInt", unfollowed := true, recurses := true, apart := false, narrowed := true }
def FnReadLineIntUptoSaid : Prop := fnReadLineIntUptoRow.holds Try.pinned (OpenSpec.upto fnReadLineIntSpec)

end Rows
end Go.Proofs.Ytnmelglnkefjfaa
