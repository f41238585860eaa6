/- Library functions: their contracts, laid at this program. -/
import Derived.Test.YtnmelglnkefjfaaDoorProg
import Derived.Ground.NamesProg
import Derived.WalkKit
import Derived.Below
import Derived.Shelf.Lay
import Derived.Shelf.Unicode.DecodeAny
import Derived.Shelf.Strings.OnBuilder
import Derived.Shelf.Strings.CaseAny
namespace Go.Proofs
open Go.RowKit Go.Shelf Go.Lib

shelf_lay Lays.n158 Nm 158 at Tryd as Tryd.clays158
shelf_lay Lays.n156 Nm 156 at Tryd as Tryd.clays156
shelf_lay Lays.n197 Nm 197 at Tryd as Tryd.clays197
theorem Tryd.bextra158 : Builder.Extra Tryd.prog Tryd.clays158_ren where
  sizeBuilder := by kernel_rfl
  liesBuilder := by kernel_rfl
  t5 := Tryd.underlying5
  a5 := Tryd.isAgg5
  z5 := Tryd.sizeOf5
  v5 := Tryd.zeroValue5
  infoByte := by kernel_rfl
  cellsByte := by kernel_rfl
  sizeByte := by kernel_rfl
  neB5 := by decide
theorem Tryd.bextra156 : Builder.Extra Tryd.prog Tryd.clays156_ren where
  sizeBuilder := by kernel_rfl
  liesBuilder := by kernel_rfl
  t5 := Tryd.underlying5
  a5 := Tryd.isAgg5
  z5 := Tryd.sizeOf5
  v5 := Tryd.zeroValue5
  infoByte := by kernel_rfl
  cellsByte := by kernel_rfl
  sizeByte := by kernel_rfl
  neB5 := by decide
namespace YtnmelglnkefjfaaDoor.ct.li
def Tabs (w : World) : Prop := Lib.CaseVar (Tryd.clays158_ren.g 13) Lib.caseA w ∧ Lib.Utf8Tabs (Tryd.clays158_ren.g 3) (Tryd.clays158_ren.g 4) w ∧ Lib.Utf8Tabs (Tryd.clays197_ren.g 3) (Tryd.clays197_ren.g 4) w
theorem upper_ (s : ByteArray) (w : World) (hs : s.size ≤ 1000000) (hT : Tabs w) :
    Calls Tryd.prog 58 #[.string s] w fun e w' => e = .returned (.string ⟨(Lib.toUpperD s.data.toList).toArray⟩) ∧ Below w.heap.size w w' :=
  Any.strings_ToUpper_any Tryd.clays158 Tryd.bextra158 s w (by omega) hT.1 hT.2.1
theorem decode_ (s : ByteArray) (w : World) (hT : Tabs w) :
    Calls Tryd.prog 80 #[.string s] w fun e w' => e = .returned (.tuple #[.int .i32 (Lib.decodeGo s).1, .int .i64 (Lib.decodeGo s).2]) ∧ Below w.heap.size w w' :=
  Any.utf8_DecodeRuneInString Tryd.clays197 s w hT.2.2
theorem join_ (bk o c : Nat) (xs : List ByteArray) (sep : ByteArray) (w : World)
    (hcells : ∀ (j : Nat) x, xs[j]? = some x → w.cell? ⟨bk, o + j, none⟩ = some (.string x))
    (hbk : bk < w.heap.size) (hN : xs.length ≤ 140737488355328) (hcap : xs.length ≤ c)
    (hlen : (Lib.join (xs.map (·.data.toList)) sep.data.toList).length ≤ 140737488355328) :
    Calls Tryd.prog 60 #[.slice (some ⟨bk, o, none⟩) xs.length c, .string sep] w fun e w' => e = .returned (.string ⟨(Lib.join (xs.map (·.data.toList)) sep.data.toList).toArray⟩) ∧ Below w.heap.size w w' :=
  Any.strings_Join Tryd.clays156 Tryd.bextra156 bk o c xs sep w hcells hbk hN hcap hlen
end YtnmelglnkefjfaaDoor.ct.li
end Go.Proofs
