/-
  NARROWER THAN 'FOR EVERY INPUT', by the rows' own cells (each row's printed sentence says how): FnRawTells: loops.
  DERIVED. THE GIVEN ROWS OF THIS SEAT. 5 by the template 'for every input the law returns true; each argument reads behind the call as it read before'; 0 by the template 'total and deterministic' (their statements: YtcjdadfiedoflaaTotals.lean).
  GIVEN WITH THE SEED: the statements are not yours to turn. If you find one false, say at which input.
  Laid BY PROGRAM, IN A SANDBOX (cutbox-rows.mjs): the forced cells as the released guide's own fill.sh prints them over the translation 6d18e8ff9bbfc263… (all of the seat's roots in one cut). By AI agents, Wed Nov 11 2026. No macro, syntax, notation, axiom, sorry.
-/
import Derived.Test.YtcjdadfiedoflaaChecked
import GoSem.Claim
import GoSem.ClaimJoined
import GoSem.ClaimMapViews
import Derived.JoinedTies
import Derived.KernelRfl
namespace Go.Proofs.Ytcjdadfiedoflaa
/- THE CELL 'sum', in the pinned program and in every row, IS THE sha256 OF THE DUMP (.gsa) THAT YtcjdadfiedoflaaProg.lean LOADS. Nothing in Lean hashes anything: it is a label: what it is worth is what the hold of that sum in a sandbox is worth. -/
noncomputable def Try.pinned : Pinned := { name := "ytcjdadfiedoflaa", sum := "6d18e8ff9bbfc26364bc1eb88adf924e150deb95bf18213e77ccb90df4954e4e", checked := Try.checked }
namespace Rows
def none {H : Type} : Left H := { results := [], args := [] }

/-- 'laws.FnIDOrder': WHATEVER THE INPUT: true; the input reads as it did. -/
def fnIDOrderSpec : ChangeSpec := { name := "fnIDOrder", fn := fun _ => fun
  | [d1, d2] => { results := [.lit (.bool true)], args := [d1, d2] }
  | _ => none }
def fnIDOrderRow : OpenClaim := { program := "ytcjdadfiedoflaa", sum := "6d18e8ff9bbfc26364bc1eb88adf924e150deb95bf18213e77ccb90df4954e4e", func := "pub-teleprinter/laws.FnIDOrder", spec := "fnIDOrder", apart := false }
def FnIDOrderSaid : Prop := fnIDOrderRow.holds Try.pinned (OpenSpec.ofChange fnIDOrderSpec)

/-- ITS FALSE NEIGHBOUR: 'it returns false'. Refute it at one input. -/
def fnIDOrderWrong : ChangeSpec := { name := "fnIDOrder", fn := fun _ => fun
  | [d1, d2] => { results := [.lit (.bool false)], args := [d1, d2] }
  | _ => none }
def FnIDOrderWrongFalsely : Prop := fnIDOrderRow.holds Try.pinned (OpenSpec.ofChange fnIDOrderWrong)

/-- 'laws.FnPairKeys': WHATEVER THE INPUT: true; the input reads as it did. -/
def fnPairKeysSpec : ChangeSpec := { name := "fnPairKeys", fn := fun _ => fun
  | [d] => { results := [.lit (.bool true)], args := [d] }
  | _ => none }
def fnPairKeysRow : OpenClaim := { program := "ytcjdadfiedoflaa", sum := "6d18e8ff9bbfc26364bc1eb88adf924e150deb95bf18213e77ccb90df4954e4e", func := "pub-teleprinter/laws.FnPairKeys", spec := "fnPairKeys", unfollowed := true, recurses := true, apart := false }
def FnPairKeysSaid : Prop := fnPairKeysRow.holds Try.pinned (OpenSpec.ofChange fnPairKeysSpec)

/-- ITS FALSE NEIGHBOUR: 'it returns false'. Refute it at one input. -/
def fnPairKeysWrong : ChangeSpec := { name := "fnPairKeys", fn := fun _ => fun
  | [d] => { results := [.lit (.bool false)], args := [d] }
  | _ => none }
def FnPairKeysWrongFalsely : Prop := fnPairKeysRow.holds Try.pinned (OpenSpec.ofChange fnPairKeysWrong)

/-- 'laws.FnPrecision': WHATEVER THE INPUT: true; the input reads as it did. -/
def fnPrecisionSpec : ChangeSpec := { name := "fnPrecision", fn := fun _ => fun
  | [d] => { results := [.lit (.bool true)], args := [d] }
  | _ => none }
def fnPrecisionRow : OpenClaim := { program := "ytcjdadfiedoflaa", sum := "6d18e8ff9bbfc26364bc1eb88adf924e150deb95bf18213e77ccb90df4954e4e", func := "pub-teleprinter/laws.FnPrecision", spec := "fnPrecision", unfollowed := true, recurses := true, apart := false }
def FnPrecisionSaid : Prop := fnPrecisionRow.holds Try.pinned (OpenSpec.ofChange fnPrecisionSpec)

/-- ITS FALSE NEIGHBOUR: 'it returns false'. Refute it at one input. -/
def fnPrecisionWrong : ChangeSpec := { name := "fnPrecision", fn := fun _ => fun
  | [d] => { results := [.lit (.bool false)], args := [d] }
  | _ => none }
def FnPrecisionWrongFalsely : Prop := fnPrecisionRow.holds Try.pinned (OpenSpec.ofChange fnPrecisionWrong)

/-- 'laws.FnRawTells': WHATEVER THE INPUT: true; the input reads as it did. -/
def fnRawTellsSpec : ChangeSpec := { name := "fnRawTells", fn := fun _ => fun
  | [d] => { results := [.lit (.bool true)], args := [d] }
  | _ => none }
def fnRawTellsRow : OpenClaim := { program := "ytcjdadfiedoflaa", sum := "6d18e8ff9bbfc26364bc1eb88adf924e150deb95bf18213e77ccb90df4954e4e", func := "pub-teleprinter/laws.FnRawTells", spec := "fnRawTells", unfollowed := true, recurses := true, loops := true, apart := false }
def FnRawTellsSaid : Prop := fnRawTellsRow.holds Try.pinned (OpenSpec.ofChange fnRawTellsSpec)

/-- ITS FALSE NEIGHBOUR: 'it returns false'. Refute it at one input. -/
def fnRawTellsWrong : ChangeSpec := { name := "fnRawTells", fn := fun _ => fun
  | [d] => { results := [.lit (.bool false)], args := [d] }
  | _ => none }
def FnRawTellsWrongFalsely : Prop := fnRawTellsRow.holds Try.pinned (OpenSpec.ofChange fnRawTellsWrong)

/-- 'laws.FnClusterSlot': WHATEVER THE INPUT: true; the input reads as it did. -/
def fnClusterSlotSpec : ChangeSpec := { name := "fnClusterSlot", fn := fun _ => fun
  | [d] => { results := [.lit (.bool true)], args := [d] }
  | _ => none }
def fnClusterSlotRow : OpenClaim := { program := "ytcjdadfiedoflaa", sum := "6d18e8ff9bbfc26364bc1eb88adf924e150deb95bf18213e77ccb90df4954e4e", func := "pub-teleprinter/laws.FnClusterSlot", spec := "fnClusterSlot", inPlace := ["internal/bytealg.IndexByte"], apart := false }
def FnClusterSlotSaid : Prop := fnClusterSlotRow.holds Try.pinned (OpenSpec.ofChange fnClusterSlotSpec)

/-- ITS FALSE NEIGHBOUR: 'it returns false'. Refute it at one input. -/
def fnClusterSlotWrong : ChangeSpec := { name := "fnClusterSlot", fn := fun _ => fun
  | [d] => { results := [.lit (.bool false)], args := [d] }
  | _ => none }
def FnClusterSlotWrongFalsely : Prop := fnClusterSlotRow.holds Try.pinned (OpenSpec.ofChange fnClusterSlotWrong)

/- THE SECOND FORM. 'bulk': how many values and letters a reading holds, each counted each time it is reached (what is shared counts as often as it is met; a slice's spare places count too). A statement '..UptoSaid' is the law's where the arguments, and the package variables that the reading takes, are together of bulk at most 1048576: NARROWER than '..Said'. Prove '..Said' where nothing that the law and all that it calls make is longer than what came in: it says more and counts as full. Else prove '..UptoSaid'. A law counts once. -/
mutual
def uptoBulk {H : Type} : DataW H → Nat
  | .lit (.string bytes) => bytes.length + 1
  | .lit _ => 1
  | .nil => 1
  | .ptr d => uptoBulk d + 1
  | .slice elems spare => uptoBulkAll elems + uptoBulkAll spare + 1
  | .agg parts => uptoBulkAll parts + 1
  | .iface _ d => uptoBulk d + 1
  | .map entries => uptoBulkEntries entries + 1
  | .held _ => 1
def uptoBulkAll {H : Type} : List (DataW H) → Nat
  | [] => 0
  | d :: r => uptoBulk d + uptoBulkAll r
def uptoBulkEntries {H : Type} : List (Lit × DataW H) → Nat
  | [] => 0
  | x :: r => uptoBulkEntry x + uptoBulkEntries r
def uptoBulkEntry {H : Type} : Lit × DataW H → Nat
  | (.string bytes, d) => bytes.length + uptoBulk d + 1
  | (_, d) => uptoBulk d + 1
 end
def uptoSmall : (H : Type) → List (DataW H) → Bool := fun _ ds => decide (uptoBulkAll ds ≤ 1048576)
def OpenSpec.upto (s : _root_.Go.ChangeSpec) : _root_.Go.OpenSpec := { _root_.Go.OpenSpec.ofChange s with cond := some uptoSmall }

/-- 'laws.FnIDOrder', WHERE WHAT IT READS IS OF BULK AT MOST 1048576: true; the input reads as it did. -/
def fnIDOrderUptoRow : OpenClaim := { program := "ytcjdadfiedoflaa", sum := "6d18e8ff9bbfc26364bc1eb88adf924e150deb95bf18213e77ccb90df4954e4e", func := "pub-teleprinter/laws.FnIDOrder", spec := "fnIDOrder", apart := false, narrowed := true }
def FnIDOrderUptoSaid : Prop := fnIDOrderUptoRow.holds Try.pinned (OpenSpec.upto fnIDOrderSpec)

/-- 'laws.FnPairKeys', WHERE WHAT IT READS IS OF BULK AT MOST 1048576: true; the input reads as it did. -/
def fnPairKeysUptoRow : OpenClaim := { program := "ytcjdadfiedoflaa", sum := "6d18e8ff9bbfc26364bc1eb88adf924e150deb95bf18213e77ccb90df4954e4e", func := "pub-teleprinter/laws.FnPairKeys", spec := "fnPairKeys", unfollowed := true, recurses := true, apart := false, narrowed := true }
def FnPairKeysUptoSaid : Prop := fnPairKeysUptoRow.holds Try.pinned (OpenSpec.upto fnPairKeysSpec)

/-- 'laws.FnPrecision', WHERE WHAT IT READS IS OF BULK AT MOST 1048576: true; the input reads as it did. -/
def fnPrecisionUptoRow : OpenClaim := { program := "ytcjdadfiedoflaa", sum := "6d18e8ff9bbfc26364bc1eb88adf924e150deb95bf18213e77ccb90df4954e4e", func := "pub-teleprinter/laws.FnPrecision", spec := "fnPrecision", unfollowed := true, recurses := true, apart := false, narrowed := true }
def FnPrecisionUptoSaid : Prop := fnPrecisionUptoRow.holds Try.pinned (OpenSpec.upto fnPrecisionSpec)

/-- 'laws.FnRawTells', WHERE WHAT IT READS IS OF BULK AT MOST 1048576: true; the input reads as it did. -/
def fnRawTellsUptoRow : OpenClaim := { program := "ytcjdadfiedoflaa", sum := "6d18e8ff9bbfc26364bc1eb88adf924e150deb95bf18213e77ccb90df4954e4e", func := "pub-teleprinter/laws.FnRawTells", spec := "fnRawTells", unfollowed := true, recurses := true, loops := true, apart := false, narrowed := true }
def FnRawTellsUptoSaid : Prop := fnRawTellsUptoRow.holds Try.pinned (OpenSpec.upto fnRawTellsSpec)

/-- 'laws.FnClusterSlot', WHERE WHAT IT READS IS OF BULK AT MOST 1048576: true; the input reads as it did. -/
def fnClusterSlotUptoRow : OpenClaim := { program := "ytcjdadfiedoflaa", sum := "6d18e8ff9bbfc26364bc1eb88adf924e150deb95bf18213e77ccb90df4954e4e", func := "pub-teleprinter/laws.FnClusterSlot", spec := "fnClusterSlot", inPlace := ["internal/bytealg.IndexByte"], apart := false, narrowed := true }
def FnClusterSlotUptoSaid : Prop := fnClusterSlotUptoRow.holds Try.pinned (OpenSpec.upto fnClusterSlotSpec)

end Rows
end Go.Proofs.Ytcjdadfiedoflaa
