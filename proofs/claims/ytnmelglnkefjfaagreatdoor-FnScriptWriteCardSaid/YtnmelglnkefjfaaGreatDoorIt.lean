/- Library functions: their contracts, laid at this program. -/
import Derived.Test.YtnmelglnkefjfaaGreatDoorProg
import Derived.Test.YtnmelglnkefjfaaGreatDoorWq
import Derived.Ground.NamesProg
import Derived.WalkKit
import Derived.Below
import Derived.Shelf.Strconv.Itoa1
import Derived.Shelf.Strconv.Itoa2
import Derived.Shelf.Bytes.GrowSlice
namespace Go.Proofs
open Go.RowKit Go.Shelf Go.Lib

def Tryz.blays283_ren : Go.Shelf.Ren := ⟨fun | 283 => 101 | n => n, fun | 3 => 3 | 9 => 9 | 4 => 4 | n => n, fun | n => n⟩
theorem Tryz.blays283 : Go.Proofs.Lays.n283 Tryz.prog Tryz.blays283_ren := {
  mixed := by kernel_rfl
  f283 := Tryz.func101.trans (congrArg some (by kernel_rfl))
  t3 := Tryz.underlying3
  a3 := Tryz.isAgg3
  z3 := Tryz.sizeOf3
  v3 := Tryz.zeroValue3
  t4 := Tryz.underlying4
  a4 := Tryz.isAgg4
  z4 := Tryz.sizeOf4
  v4 := Tryz.zeroValue4
  t9 := Tryz.underlying9
  a9 := Tryz.isAgg9
  z9 := Tryz.sizeOf9
  v9 := Tryz.zeroValue9 }
def Tryz.blays284_ren : Go.Shelf.Ren := ⟨fun | 284 => 92 | 129 => 89 | 317 => 93 | 318 => 114 | n => n, fun | 53 => 53 | 3 => 3 | 212 => 226 | 0 => 0 | 4 => 4 | 46 => 104 | 5 => 5 | 9 => 9 | n => n, fun | 17 => 2 | n => n⟩
theorem Tryz.blays284 : Go.Proofs.LaysM.n284 Tryz.prog Tryz.blays284_ren := {
  mixed := by kernel_rfl
  f129 := Tryz.func89.trans (congrArg some (by kernel_rfl))
  f284 := Tryz.func92.trans (congrArg some (by kernel_rfl))
  f317 := Tryz.func93.trans (congrArg some (by kernel_rfl))
  f318 := Tryz.func114.trans (congrArg some (by kernel_rfl))
  t0 := Tryz.underlying0
  a0 := Tryz.isAgg0
  z0 := Tryz.sizeOf0
  v0 := Tryz.zeroValue0
  t3 := Tryz.underlying3
  a3 := Tryz.isAgg3
  z3 := Tryz.sizeOf3
  v3 := Tryz.zeroValue3
  t4 := Tryz.underlying4
  a4 := Tryz.isAgg4
  z4 := Tryz.sizeOf4
  v4 := Tryz.zeroValue4
  t5 := Tryz.underlying5
  a5 := Tryz.isAgg5
  z5 := Tryz.sizeOf5
  v5 := Tryz.zeroValue5
  t9 := Tryz.underlying9
  a9 := Tryz.isAgg9
  z9 := Tryz.sizeOf9
  v9 := Tryz.zeroValue9
  t46 := Tryz.underlying104
  a46 := Tryz.isAgg104
  z46 := Tryz.sizeOf104
  v46 := Tryz.zeroValue104
  t53 := Tryz.underlying53
  a53 := Tryz.isAgg53
  z53 := Tryz.sizeOf53
  v53 := Tryz.zeroValue53
  t212 := Tryz.underlying226
  a212 := Tryz.isAgg226
  z212 := Tryz.sizeOf226
  v212 := Tryz.zeroValue226
  g17 := by kernel_rfl
  i0 := by kernel_rfl
  i3 := by kernel_rfl
  i4 := by kernel_rfl
  i5 := by kernel_rfl
  i9 := by kernel_rfl
  i46 := by kernel_rfl
  i53 := by kernel_rfl
  i212 := by kernel_rfl
  m17 := by kernel_rfl }
def Tryz.blays285_ren : Go.Shelf.Ren := ⟨fun | 285 => 102 | n => n, fun | 37 => 39 | 53 => 53 | 3 => 3 | 4 => 4 | 51 => 105 | 9 => 9 | 5 => 5 | 0 => 0 | n => n, fun | n => n⟩
theorem Tryz.blays285 : Go.Proofs.Lays.n285 Tryz.prog Tryz.blays285_ren := {
  mixed := by kernel_rfl
  f285 := Tryz.func102.trans (congrArg some (by kernel_rfl))
  t0 := Tryz.underlying0
  a0 := Tryz.isAgg0
  z0 := Tryz.sizeOf0
  v0 := Tryz.zeroValue0
  t3 := Tryz.underlying3
  a3 := Tryz.isAgg3
  z3 := Tryz.sizeOf3
  v3 := Tryz.zeroValue3
  t4 := Tryz.underlying4
  a4 := Tryz.isAgg4
  z4 := Tryz.sizeOf4
  v4 := Tryz.zeroValue4
  t5 := Tryz.underlying5
  a5 := Tryz.isAgg5
  z5 := Tryz.sizeOf5
  v5 := Tryz.zeroValue5
  t9 := Tryz.underlying9
  a9 := Tryz.isAgg9
  z9 := Tryz.sizeOf9
  v9 := Tryz.zeroValue9
  t37 := Tryz.underlying39
  a37 := Tryz.isAgg39
  z37 := Tryz.sizeOf39
  v37 := Tryz.zeroValue39
  t51 := Tryz.underlying105
  a51 := Tryz.isAgg105
  z51 := Tryz.sizeOf105
  v51 := Tryz.zeroValue105
  t53 := Tryz.underlying53
  a53 := Tryz.isAgg53
  z53 := Tryz.sizeOf53
  v53 := Tryz.zeroValue53 }
def Tryz.blays290_ren : Go.Shelf.Ren := ⟨fun | 290 => 152 | 324 => 153 | n => n, fun | 37 => 39 | 3 => 3 | 0 => 0 | 4 => 4 | 20 => 20 | 75 => 45 | 5 => 5 | 80 => 50 | 9 => 9 | n => n, fun | 14 => 7 | n => n⟩
theorem Tryz.blays290 : Go.Proofs.LaysM.n290 Tryz.prog Tryz.blays290_ren := {
  mixed := by kernel_rfl
  f290 := Tryz.func152.trans (congrArg some (by kernel_rfl))
  f324 := Tryz.func153.trans (congrArg some (by kernel_rfl))
  t0 := Tryz.underlying0
  a0 := Tryz.isAgg0
  z0 := Tryz.sizeOf0
  v0 := Tryz.zeroValue0
  t3 := Tryz.underlying3
  a3 := Tryz.isAgg3
  z3 := Tryz.sizeOf3
  v3 := Tryz.zeroValue3
  t4 := Tryz.underlying4
  a4 := Tryz.isAgg4
  z4 := Tryz.sizeOf4
  v4 := Tryz.zeroValue4
  t20 := Tryz.underlying20
  a20 := Tryz.isAgg20
  z20 := Tryz.sizeOf20
  v20 := Tryz.zeroValue20
  t37 := Tryz.underlying39
  a37 := Tryz.isAgg39
  z37 := Tryz.sizeOf39
  v37 := Tryz.zeroValue39
  t75 := Tryz.underlying45
  a75 := Tryz.isAgg45
  z75 := Tryz.sizeOf45
  v75 := Tryz.zeroValue45
  g14 := by kernel_rfl
  t5 := Tryz.underlying5
  a5 := Tryz.isAgg5
  z5 := Tryz.sizeOf5
  v5 := Tryz.zeroValue5
  t9 := Tryz.underlying9
  a9 := Tryz.isAgg9
  z9 := Tryz.sizeOf9
  v9 := Tryz.zeroValue9
  t80 := Tryz.underlying50
  a80 := Tryz.isAgg50
  z80 := Tryz.sizeOf50
  v80 := Tryz.zeroValue50
  i0 := by kernel_rfl
  i3 := by kernel_rfl
  i4 := by kernel_rfl
  i5 := by kernel_rfl
  i9 := by kernel_rfl
  i20 := by kernel_rfl
  i37 := by kernel_rfl
  i75 := by kernel_rfl
  i80 := by kernel_rfl
  m14 := by kernel_rfl }

namespace YtnmelglnkefjfaaGreatDoor.wr.li
open Go.Proofs.HHW Go.Proofs.YtnmelglnkefjfaaGreatDoorW.PrintWords
theorem small_ (i : Nat) (h : i < 100) (w : World) : Calls Tryz.prog 101 #[.int .i64 (i : Int)] w fun e w' => e = .returned (.string ⟨(Lib.decDigits i).toArray⟩) ∧ w' = w := Any.internal_strconv_small Tryz.blays283 i h w
theorem nd_ (u : Nat) (h1 : 1 ≤ u) (h2 : u < 18446744073709551616) (w : World) (ht : Lib.TabIs Tryz.prog w "internal/strconv.uint64pow10" .u64 Lib.pow10Tab) : Calls Tryz.prog 92 #[.int .u64 (u : Int)] w fun e w' => e = .returned (.int .i64 (Lib.nDigits u : Int)) ∧ w' = w := Any.internal_strconv_numDigits Tryz.blays284 u h1 h2 w ht
theorem fmt_ {B : Nat} {w0 w : World} {L : List (Nat × Obj)} {g off c u : Nat} {cs : Array Value} {t : TypeId} (H : HH B w0 w ((g, .cells cs t (0, 0)) :: L)) (hz : ∀ j, j < Lib.nDigits u → cs[off + j]? = some (Value.int .u8 0)) (hs : off + Lib.nDigits u ≤ cs.size) (hu64 : u < 18446744073709551616) (hc : Lib.nDigits u ≤ 20) :
    Calls Tryz.prog 102 #[.slice (some ⟨g, off, none⟩) (Lib.nDigits u) c, .int .u64 (u : Int)] w fun e w' => e = .returned (.tuple #[]) ∧ HH B w0 w' ((g, .cells (spl cs off ((wq.dec u).map (Value.int .u8))) t (0, 0)) :: L) := by
  have hat := H.at_ (g, Obj.cells cs t (0, 0)) List.mem_cons_self
  simp only at hat
  have hcon := Any.internal_strconv_formatBase10 Tryz.blays285 g off c u (Array.replicate (Lib.nDigits u) 0) w (fun j hj => by
    rw [Array.size_replicate] at hj
    refine ⟨?_, by simp [World.frozen?, hat]⟩
    simp only [World.cell?, hat]
    rw [hz j hj, getElem!_pos _ j (by simpa using hj)]
    simp) (by rw [Array.size_replicate]; exact Lib.lt_pow_nDigits u) hu64 (by rw [Array.size_replicate]; omega)
  rw [Array.size_replicate] at hcon
  refine hcon.mono ?_
  rintro e w' ⟨rfl, n, v', dk, rfl, hf⟩
  refine ⟨rfl, ?_⟩
  rw [← wq.fmt_row hf]
  exact H.putRow (by rw [hf.size]; exact hs)
theorem grow_row {B : Nat} {w0 w : World} {L : List (Nat × Obj)} {g c n : Nat} {cs : Array Value} {l : List Int} (H : HH B w0 w L) (hm : (g, Obj.cells cs 5 (0, 0)) ∈ L) (hc : cs.size = c) (hlc : l.length ≤ c) (hrow : bf.Row cs 0 l) (hn : 1 ≤ n) (hlim : l.length + n ≤ 140737488355328) (hcc : c ≤ 140737488355328) :
    Calls Tryz.prog 152 #[.slice (some ⟨g, 0, none⟩) l.length c, .int .i64 (n : Int)] w fun e w' => ∃ g' c' cs', e = .returned (.slice (some ⟨g', 0, none⟩) l.length c') ∧ HH B w0 w' ((g', .cells cs' 5 (0, 0)) :: L) ∧ cs'.size = c' ∧ bf.Row cs' 0 l ∧ l.length + n ≤ c' ∧ c' ≤ 9223372036854775807 := by
  have hcon := Any.bytes_growSlice_row Tryz.blays290 g l.length c n cs w (H.at_ _ hm) hc hlc hn hlim hcc (wq.one_row hrow (by omega))
  refine hcon.mono ?_
  rintro e w' ⟨c', cs', rfl, h1, h2, h3, h4, h5, hb⟩
  exact ⟨_, c', cs', rfl, H.push hb h1, h2, wq.row_of_list (by rw [h3]; exact wq.row_list hrow (by omega)), h4, h5⟩
theorem grow_nil {B : Nat} {w0 w : World} {L : List (Nat × Obj)} {n : Nat} (H : HH B w0 w L) (hn : 1 ≤ n) (hlim : n ≤ 140737488355328) :
    Calls Tryz.prog 152 #[.slice none 0 0, .int .i64 (n : Int)] w fun e w' => ∃ g' c' cs', e = .returned (.slice (some ⟨g', 0, none⟩) 0 c') ∧ HH B w0 w' ((g', .cells cs' 5 (0, 0)) :: L) ∧ cs'.size = c' ∧ n ≤ c' ∧ c' ≤ 9223372036854775807 := by
  have hcon := Any.bytes_growSlice_nil Tryz.blays290 n w hn hlim
  refine hcon.mono ?_
  rintro e w' ⟨c', cs', rfl, h1, h2, h4, h5, hb⟩
  exact ⟨_, c', cs', rfl, H.push hb h1, h2, h4, h5⟩
end YtnmelglnkefjfaaGreatDoor.wr.li
end Go.Proofs
