/- Library functions: their contracts, laid at this program. -/
import Derived.Test.YtnmelglnkefjfaaDoorProg
import Derived.Ground.NamesProg
import Derived.WalkKit
import Derived.Below
import Derived.Shelf.Unicode.DecodeAny
import Derived.Shelf.Strings.OnBuilder
import Derived.Shelf.Strings.CaseAny
namespace Go.Proofs
open Go.RowKit Go.Shelf Go.Lib

def Tryd.clays158_ren : Go.Shelf.Ren := ⟨fun | 158 => 58 | 165 => 66 | 166 => 67 | 167 => 68 | 169 => 69 | 230 => 70 | 203 => 71 | 240 => 78 | 241 => 79 | 197 => 80 | 118 => 81 | 168 => 82 | 270 => 83 | 262 => 84 | 276 => 86 | 277 => 87 | 260 => 88 | 242 => 89 | 313 => 90 | 278 => 92 | 274 => 93 | 275 => 94 | n => n, fun | 9 => 9 | 4 => 4 | 3 => 3 | 5 => 5 | 72 => 160 | 0 => 0 | 76 => 77 | 75 => 49 | 107 => 165 | 70 => 158 | 20 => 20 | 37 => 55 | 127 => 171 | 21 => 21 | 105 => 172 | 164 => 178 | 162 => 184 | 203 => 182 | 119 => 187 | 46 => 185 | 139 => 190 | 138 => 189 | 51 => 117 | 160 => 191 | 208 => 198 | 206 => 196 | 80 => 115 | n => n, fun | 13 => 3 | 3 => 5 | 4 => 6 | n => n⟩
theorem Tryd.clays158 : Go.Proofs.Lays.n158 Tryd.prog Tryd.clays158_ren := {
  mixed := by kernel_rfl
  f118 := Tryd.func81.trans (congrArg some (by kernel_rfl))
  f158 := Tryd.func58.trans (congrArg some (by kernel_rfl))
  f165 := Tryd.func66.trans (congrArg some (by kernel_rfl))
  f166 := Tryd.func67.trans (congrArg some (by kernel_rfl))
  f167 := Tryd.func68.trans (congrArg some (by kernel_rfl))
  f168 := Tryd.func82.trans (congrArg some (by kernel_rfl))
  f169 := Tryd.func69.trans (congrArg some (by kernel_rfl))
  f197 := Tryd.func80.trans (congrArg some (by kernel_rfl))
  f203 := Tryd.func71.trans (congrArg some (by kernel_rfl))
  f230 := Tryd.func70.trans (congrArg some (by kernel_rfl))
  f240 := Tryd.func78.trans (congrArg some (by kernel_rfl))
  f241 := Tryd.func79.trans (congrArg some (by kernel_rfl))
  f242 := Tryd.func89.trans (congrArg some (by kernel_rfl))
  f260 := Tryd.func88.trans (congrArg some (by kernel_rfl))
  f262 := Tryd.func84.trans (congrArg some (by kernel_rfl))
  f270 := Tryd.func83.trans (congrArg some (by kernel_rfl))
  f274 := Tryd.func93.trans (congrArg some (by kernel_rfl))
  f275 := Tryd.func94.trans (congrArg some (by kernel_rfl))
  f276 := Tryd.func86.trans (congrArg some (by kernel_rfl))
  f277 := Tryd.func87.trans (congrArg some (by kernel_rfl))
  f278 := Tryd.func92.trans (congrArg some (by kernel_rfl))
  f313 := Tryd.func90.trans (congrArg some (by kernel_rfl))
  t0 := Tryd.underlying0
  a0 := Tryd.isAgg0
  z0 := Tryd.sizeOf0
  v0 := Tryd.zeroValue0
  t3 := Tryd.underlying3
  a3 := Tryd.isAgg3
  z3 := Tryd.sizeOf3
  v3 := Tryd.zeroValue3
  t4 := Tryd.underlying4
  a4 := Tryd.isAgg4
  z4 := Tryd.sizeOf4
  v4 := Tryd.zeroValue4
  t5 := Tryd.underlying5
  a5 := Tryd.isAgg5
  z5 := Tryd.sizeOf5
  v5 := Tryd.zeroValue5
  t9 := Tryd.underlying9
  a9 := Tryd.isAgg9
  z9 := Tryd.sizeOf9
  v9 := Tryd.zeroValue9
  t20 := Tryd.underlying20
  a20 := Tryd.isAgg20
  z20 := Tryd.sizeOf20
  v20 := Tryd.zeroValue20
  t21 := Tryd.underlying21
  a21 := Tryd.isAgg21
  z21 := Tryd.sizeOf21
  v21 := Tryd.zeroValue21
  t37 := Tryd.underlying55
  a37 := Tryd.isAgg55
  z37 := Tryd.sizeOf55
  v37 := Tryd.zeroValue55
  t46 := Tryd.underlying185
  a46 := Tryd.isAgg185
  z46 := Tryd.sizeOf185
  v46 := Tryd.zeroValue185
  t51 := Tryd.underlying117
  a51 := Tryd.isAgg117
  z51 := Tryd.sizeOf117
  v51 := Tryd.zeroValue117
  t70 := Tryd.underlying158
  a70 := Tryd.isAgg158
  z70 := Tryd.sizeOf158
  v70 := Tryd.zeroValue158
  t72 := Tryd.underlying160
  a72 := Tryd.isAgg160
  z72 := Tryd.sizeOf160
  v72 := Tryd.zeroValue160
  t75 := Tryd.underlying49
  a75 := Tryd.isAgg49
  z75 := Tryd.sizeOf49
  v75 := Tryd.zeroValue49
  t76 := Tryd.underlying77
  a76 := Tryd.isAgg77
  z76 := Tryd.sizeOf77
  v76 := Tryd.zeroValue77
  t105 := Tryd.underlying172
  a105 := Tryd.isAgg172
  z105 := Tryd.sizeOf172
  v105 := Tryd.zeroValue172
  t107 := Tryd.underlying165
  a107 := Tryd.isAgg165
  z107 := Tryd.sizeOf165
  v107 := Tryd.zeroValue165
  t119 := Tryd.underlying187
  a119 := Tryd.isAgg187
  z119 := Tryd.sizeOf187
  t127 := Tryd.underlying171
  a127 := Tryd.isAgg171
  z127 := Tryd.sizeOf171
  v127 := Tryd.zeroValue171
  t138 := Tryd.underlying189
  a138 := Tryd.isAgg189
  z138 := Tryd.sizeOf189
  v138 := Tryd.zeroValue189
  t139 := Tryd.underlying190
  a139 := Tryd.isAgg190
  z139 := Tryd.sizeOf190
  v139 := Tryd.zeroValue190
  t160 := Tryd.underlying191
  a160 := Tryd.isAgg191
  z160 := Tryd.sizeOf191
  v160 := Tryd.zeroValue191
  t162 := Tryd.underlying184
  a162 := Tryd.isAgg184
  z162 := Tryd.sizeOf184
  v162 := Tryd.zeroValue184
  t164 := Tryd.underlying178
  a164 := Tryd.isAgg178
  z164 := Tryd.sizeOf178
  v164 := Tryd.zeroValue178
  t203 := Tryd.underlying182
  a203 := Tryd.isAgg182
  z203 := Tryd.sizeOf182
  v203 := Tryd.zeroValue182
  t206 := Tryd.underlying196
  a206 := Tryd.isAgg196
  z206 := Tryd.sizeOf196
  v206 := Tryd.zeroValue196
  t208 := Tryd.underlying198
  a208 := Tryd.isAgg198
  z208 := Tryd.sizeOf198
  v208 := Tryd.zeroValue198
  g3 := by kernel_rfl
  g4 := by kernel_rfl
  g13 := by kernel_rfl }
def Tryd.clays156_ren : Go.Shelf.Ren := ⟨fun | 156 => 60 | 165 => 66 | 166 => 67 | 169 => 69 | 240 => 78 | 241 => 79 | 276 => 86 | 277 => 87 | n => n, fun | 31 => 36 | 9 => 9 | 3 => 3 | 4 => 4 | 0 => 0 | 20 => 20 | 72 => 160 | 76 => 77 | 70 => 158 | 37 => 55 | 75 => 49 | 127 => 171 | 164 => 178 | 5 => 5 | 80 => 115 | n => n, fun | n => n⟩
theorem Tryd.clays156 : Go.Proofs.Lays.n156 Tryd.prog Tryd.clays156_ren := {
  mixed := by kernel_rfl
  f156 := Tryd.func60.trans (congrArg some (by kernel_rfl))
  f165 := Tryd.func66.trans (congrArg some (by kernel_rfl))
  f166 := Tryd.func67.trans (congrArg some (by kernel_rfl))
  f169 := Tryd.func69.trans (congrArg some (by kernel_rfl))
  f240 := Tryd.func78.trans (congrArg some (by kernel_rfl))
  f241 := Tryd.func79.trans (congrArg some (by kernel_rfl))
  f276 := Tryd.func86.trans (congrArg some (by kernel_rfl))
  f277 := Tryd.func87.trans (congrArg some (by kernel_rfl))
  t0 := Tryd.underlying0
  a0 := Tryd.isAgg0
  z0 := Tryd.sizeOf0
  v0 := Tryd.zeroValue0
  t3 := Tryd.underlying3
  a3 := Tryd.isAgg3
  z3 := Tryd.sizeOf3
  v3 := Tryd.zeroValue3
  t4 := Tryd.underlying4
  a4 := Tryd.isAgg4
  z4 := Tryd.sizeOf4
  v4 := Tryd.zeroValue4
  t9 := Tryd.underlying9
  a9 := Tryd.isAgg9
  z9 := Tryd.sizeOf9
  v9 := Tryd.zeroValue9
  t20 := Tryd.underlying20
  a20 := Tryd.isAgg20
  z20 := Tryd.sizeOf20
  v20 := Tryd.zeroValue20
  t31 := Tryd.underlying36
  a31 := Tryd.isAgg36
  z31 := Tryd.sizeOf36
  v31 := Tryd.zeroValue36
  t37 := Tryd.underlying55
  a37 := Tryd.isAgg55
  z37 := Tryd.sizeOf55
  v37 := Tryd.zeroValue55
  t70 := Tryd.underlying158
  a70 := Tryd.isAgg158
  z70 := Tryd.sizeOf158
  v70 := Tryd.zeroValue158
  t72 := Tryd.underlying160
  a72 := Tryd.isAgg160
  z72 := Tryd.sizeOf160
  v72 := Tryd.zeroValue160
  t75 := Tryd.underlying49
  a75 := Tryd.isAgg49
  z75 := Tryd.sizeOf49
  v75 := Tryd.zeroValue49
  t76 := Tryd.underlying77
  a76 := Tryd.isAgg77
  z76 := Tryd.sizeOf77
  v76 := Tryd.zeroValue77
  t127 := Tryd.underlying171
  a127 := Tryd.isAgg171
  z127 := Tryd.sizeOf171
  v127 := Tryd.zeroValue171
  t164 := Tryd.underlying178
  a164 := Tryd.isAgg178
  z164 := Tryd.sizeOf178
  v164 := Tryd.zeroValue178 }
def Tryd.clays197_ren : Go.Shelf.Ren := ⟨fun | 197 => 80 | 260 => 88 | n => n, fun | 9 => 9 | 21 => 21 | 3 => 3 | 4 => 4 | 5 => 5 | 105 => 172 | 119 => 187 | 0 => 0 | 46 => 185 | 139 => 190 | 138 => 189 | n => n, fun | 3 => 5 | 4 => 6 | n => n⟩
theorem Tryd.clays197 : Go.Proofs.Lays.n197 Tryd.prog Tryd.clays197_ren := {
  mixed := by kernel_rfl
  f197 := Tryd.func80.trans (congrArg some (by kernel_rfl))
  f260 := Tryd.func88.trans (congrArg some (by kernel_rfl))
  t0 := Tryd.underlying0
  a0 := Tryd.isAgg0
  z0 := Tryd.sizeOf0
  v0 := Tryd.zeroValue0
  t3 := Tryd.underlying3
  a3 := Tryd.isAgg3
  z3 := Tryd.sizeOf3
  v3 := Tryd.zeroValue3
  t4 := Tryd.underlying4
  a4 := Tryd.isAgg4
  z4 := Tryd.sizeOf4
  v4 := Tryd.zeroValue4
  t5 := Tryd.underlying5
  a5 := Tryd.isAgg5
  z5 := Tryd.sizeOf5
  v5 := Tryd.zeroValue5
  t9 := Tryd.underlying9
  a9 := Tryd.isAgg9
  z9 := Tryd.sizeOf9
  v9 := Tryd.zeroValue9
  t21 := Tryd.underlying21
  a21 := Tryd.isAgg21
  z21 := Tryd.sizeOf21
  v21 := Tryd.zeroValue21
  t46 := Tryd.underlying185
  a46 := Tryd.isAgg185
  z46 := Tryd.sizeOf185
  v46 := Tryd.zeroValue185
  t105 := Tryd.underlying172
  a105 := Tryd.isAgg172
  z105 := Tryd.sizeOf172
  v105 := Tryd.zeroValue172
  t119 := Tryd.underlying187
  a119 := Tryd.isAgg187
  z119 := Tryd.sizeOf187
  t138 := Tryd.underlying189
  a138 := Tryd.isAgg189
  z138 := Tryd.sizeOf189
  v138 := Tryd.zeroValue189
  t139 := Tryd.underlying190
  a139 := Tryd.isAgg190
  z139 := Tryd.sizeOf190
  v139 := Tryd.zeroValue190
  g3 := by kernel_rfl
  g4 := by kernel_rfl }
theorem Tryd.bextra158 : Builder.Extra Tryd.prog Tryd.clays158_ren where
  sizeBuilder := by kernel_rfl
  liesBuilder := by kernel_rfl
  t5 := Tryd.underlying5
  a5 := Tryd.isAgg5
  z5 := Tryd.sizeOf5
  v5 := Tryd.zeroValue5
  infoByte := by kernel_rfl
  cellsByte := by kernel_rfl
  sizeByte := by kernel_rfl
  neB5 := by decide
theorem Tryd.bextra156 : Builder.Extra Tryd.prog Tryd.clays156_ren where
  sizeBuilder := by kernel_rfl
  liesBuilder := by kernel_rfl
  t5 := Tryd.underlying5
  a5 := Tryd.isAgg5
  z5 := Tryd.sizeOf5
  v5 := Tryd.zeroValue5
  infoByte := by kernel_rfl
  cellsByte := by kernel_rfl
  sizeByte := by kernel_rfl
  neB5 := by decide
namespace YtnmelglnkefjfaaDoor.ct.li
def Tabs (w : World) : Prop := Lib.CaseVar (Tryd.clays158_ren.g 13) Lib.caseA w ∧ Lib.Utf8Tabs (Tryd.clays158_ren.g 3) (Tryd.clays158_ren.g 4) w ∧ Lib.Utf8Tabs (Tryd.clays197_ren.g 3) (Tryd.clays197_ren.g 4) w
theorem upper_ (s : ByteArray) (w : World) (hs : s.size ≤ 1000000) (hT : Tabs w) :
    Calls Tryd.prog 58 #[.string s] w fun e w' => e = .returned (.string ⟨(Lib.toUpperD s.data.toList).toArray⟩) ∧ Below w.heap.size w w' :=
  Any.strings_ToUpper_any Tryd.clays158 Tryd.bextra158 s w (by omega) hT.1 hT.2.1
theorem decode_ (s : ByteArray) (w : World) (hT : Tabs w) :
    Calls Tryd.prog 80 #[.string s] w fun e w' => e = .returned (.tuple #[.int .i32 (Lib.decodeGo s).1, .int .i64 (Lib.decodeGo s).2]) ∧ Below w.heap.size w w' :=
  Any.utf8_DecodeRuneInString Tryd.clays197 s w hT.2.2
theorem join_ (bk o c : Nat) (xs : List ByteArray) (sep : ByteArray) (w : World)
    (hcells : ∀ (j : Nat) x, xs[j]? = some x → w.cell? ⟨bk, o + j, none⟩ = some (.string x))
    (hbk : bk < w.heap.size) (hN : xs.length ≤ 140737488355328) (hcap : xs.length ≤ c)
    (hlen : (Lib.join (xs.map (·.data.toList)) sep.data.toList).length ≤ 140737488355328) :
    Calls Tryd.prog 60 #[.slice (some ⟨bk, o, none⟩) xs.length c, .string sep] w fun e w' => e = .returned (.string ⟨(Lib.join (xs.map (·.data.toList)) sep.data.toList).toArray⟩) ∧ Below w.heap.size w w' :=
  Any.strings_Join Tryd.clays156 Tryd.bextra156 bk o c xs sep w hcells hbk hN hcap hlen
end YtnmelglnkefjfaaDoor.ct.li
end Go.Proofs
