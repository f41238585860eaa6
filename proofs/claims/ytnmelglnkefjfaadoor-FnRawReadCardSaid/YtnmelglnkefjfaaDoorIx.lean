/- Where a byte is first: the library's contract of bytes.IndexByte, laid at this program. -/
import Derived.Test.YtnmelglnkefjfaaDoorProg
import Derived.Ground.NamesProg
import Derived.WalkKit
import Derived.Below
import Derived.Shelf.Lay
import Derived.Shelf.Bytes.IndexByte
namespace Go.Proofs
open Go.RowKit Go.Shelf Go.Lib

shelf_lay Lays.n187 Nm 187 at Tryd as Tryd.blays187

namespace YtnmelglnkefjfaaDoor.ix
theorem idx_ (b o n c : Nat) (xs : List Int) (cv : Int) (w : World) (hx : xs.length = n) (hc : ∀ i, i < n → w.cell? ⟨b, o + i, none⟩ = some (.int .u8 (xs.getD i 0))) :
    Calls Tryd.prog 129 #[.slice (some ⟨b, o, none⟩) n c, .int .u8 cv] w fun e w' => e = .returned (.int .i64 (Lib.indexByte (Lib.bytesOf xs) cv.toNat.toUInt8)) ∧ w' = w := Any.bytes_IndexByte Tryd.blays187 b o n c xs cv w hx hc
end YtnmelglnkefjfaaDoor.ix
end Go.Proofs
