/- UTF-8 at every text: the library's contract of utf8.ValidString, laid at this program. -/
import Derived.Test.YtmdfmdnjjklliaaDoorProg
import Derived.Ground.NamesProg
import Derived.WalkKit
import Derived.WalkMore
import Derived.Below
import Derived.Shelf.Lay
import Derived.Shelf.Unicode.ValidAny
namespace Go.Proofs
open Go.RowKit Go.Shelf Go.Lib

shelf_lay Lays.n196 Nm 196 at Tryd as Tryd.laysValid

namespace YtmdfmdnjjklliaaDoor.u8
theorem valid_ (s : ByteArray) (w : World) (hs : s.size ≤ 9223372036854775807) (hT : Lib.Utf8Tabs (Tryd.laysValid_ren.g 3) (Tryd.laysValid_ren.g 4) w) :
    Calls Tryd.prog 21 #[.string s] w fun e w' => e = .returned (.bool (Lib.validD s.data.toList)) ∧ Below w.heap.size w w' :=
  Any.utf8_ValidString Tryd.laysValid s w hs hT
end YtmdfmdnjjklliaaDoor.u8
end Go.Proofs
