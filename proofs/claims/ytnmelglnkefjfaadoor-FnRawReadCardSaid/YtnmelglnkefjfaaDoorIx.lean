/- Where a byte is first: the library's contract of bytes.IndexByte, laid at this program. -/
import Derived.Test.YtnmelglnkefjfaaDoorProg
import Derived.Ground.NamesProg
import Derived.WalkKit
import Derived.Below
import Derived.Shelf.Bytes.IndexByte
namespace Go.Proofs
open Go.RowKit Go.Shelf Go.Lib

def Tryd.blays187_ren : Go.Shelf.Ren := ⟨fun | 187 => 129 | 255 => 130 | n => n, fun | 37 => 55 | 5 => 5 | 3 => 3 | n => n, fun | n => n⟩
theorem Tryd.blays187 : Go.Proofs.Lays.n187 Tryd.prog Tryd.blays187_ren := {
  mixed := by kernel_rfl
  f187 := Tryd.func129.trans (congrArg some (by kernel_rfl))
  f255 := Tryd.func130.trans (congrArg some (by kernel_rfl))
  t3 := Tryd.underlying3
  a3 := Tryd.isAgg3
  z3 := Tryd.sizeOf3
  v3 := Tryd.zeroValue3
  t5 := Tryd.underlying5
  a5 := Tryd.isAgg5
  z5 := Tryd.sizeOf5
  v5 := Tryd.zeroValue5
  t37 := Tryd.underlying55
  a37 := Tryd.isAgg55
  z37 := Tryd.sizeOf55
  v37 := Tryd.zeroValue55 }

namespace YtnmelglnkefjfaaDoor.ix
theorem idx_ (b o n c : Nat) (xs : List Int) (cv : Int) (w : World) (hx : xs.length = n) (hc : ∀ i, i < n → w.cell? ⟨b, o + i, none⟩ = some (.int .u8 (xs.getD i 0))) :
    Calls Tryd.prog 129 #[.slice (some ⟨b, o, none⟩) n c, .int .u8 cv] w fun e w' => e = .returned (.int .i64 (Lib.indexByte (Lib.bytesOf xs) cv.toNat.toUInt8)) ∧ w' = w := Any.bytes_IndexByte Tryd.blays187 b o n c xs cv w hx hc
end YtnmelglnkefjfaaDoor.ix
end Go.Proofs
