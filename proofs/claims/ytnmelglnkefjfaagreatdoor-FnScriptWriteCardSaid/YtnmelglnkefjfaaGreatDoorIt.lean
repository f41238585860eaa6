/- Library functions: their contracts, laid at this program. -/
import Derived.Test.YtnmelglnkefjfaaGreatDoorProg
import Derived.Test.YtnmelglnkefjfaaGreatDoorWq
import Derived.Ground.NamesProg
import Derived.WalkKit
import Derived.Below
import Derived.Shelf.Lay
import Derived.Shelf.Strconv.Itoa1
import Derived.Shelf.Strconv.Itoa2
import Derived.Shelf.Bytes.GrowSlice
namespace Go.Proofs
open Go.RowKit Go.Shelf Go.Lib

shelf_lay Lays.n283 Nm 283 at Tryz as Tryz.blays283
shelf_lay LaysM.n284 Nm 284 at Tryz as Tryz.blays284
shelf_lay Lays.n285 Nm 285 at Tryz as Tryz.blays285
shelf_lay LaysM.n290 Nm 290 at Tryz as Tryz.blays290

namespace YtnmelglnkefjfaaGreatDoor.wr.li
open Go.Proofs.HHW Go.Proofs.YtnmelglnkefjfaaGreatDoorW.PrintWords
theorem small_ (i : Nat) (h : i < 100) (w : World) : Calls Tryz.prog 101 #[.int .i64 (i : Int)] w fun e w' => e = .returned (.string ⟨(Lib.decDigits i).toArray⟩) ∧ w' = w := Any.internal_strconv_small Tryz.blays283 i h w
theorem nd_ (u : Nat) (h1 : 1 ≤ u) (h2 : u < 18446744073709551616) (w : World) (ht : Lib.TabIs Tryz.prog w "internal/strconv.uint64pow10" .u64 Lib.pow10Tab) : Calls Tryz.prog 92 #[.int .u64 (u : Int)] w fun e w' => e = .returned (.int .i64 (Lib.nDigits u : Int)) ∧ w' = w := Any.internal_strconv_numDigits Tryz.blays284 u h1 h2 w ht
theorem fmt_ {B : Nat} {w0 w : World} {L : List (Nat × Obj)} {g off c u : Nat} {cs : Array Value} {t : TypeId} (H : HH B w0 w ((g, .cells cs t (0, 0)) :: L)) (hz : ∀ j, j < Lib.nDigits u → cs[off + j]? = some (Value.int .u8 0)) (hs : off + Lib.nDigits u ≤ cs.size) (hu64 : u < 18446744073709551616) (hc : Lib.nDigits u ≤ 20) :
    Calls Tryz.prog 102 #[.slice (some ⟨g, off, none⟩) (Lib.nDigits u) c, .int .u64 (u : Int)] w fun e w' => e = .returned (.tuple #[]) ∧ HH B w0 w' ((g, .cells (spl cs off ((wq.dec u).map (Value.int .u8))) t (0, 0)) :: L) := by
  have hat := H.at_ (g, Obj.cells cs t (0, 0)) List.mem_cons_self
  simp only at hat
  have hcon := Any.internal_strconv_formatBase10 Tryz.blays285 g off c u (Array.replicate (Lib.nDigits u) 0) w (fun j hj => by
    rw [Array.size_replicate] at hj
    refine ⟨?_, by simp [World.frozen?, hat]⟩
    simp only [World.cell?, hat]
    rw [hz j hj, getElem!_pos _ j (by simpa using hj)]
    simp) (by rw [Array.size_replicate]; exact Lib.lt_pow_nDigits u) hu64 (by rw [Array.size_replicate]; omega)
  rw [Array.size_replicate] at hcon
  refine hcon.mono ?_
  rintro e w' ⟨rfl, n, v', dk, rfl, hf⟩
  refine ⟨rfl, ?_⟩
  rw [← wq.fmt_row hf]
  exact H.putRow (by rw [hf.size]; exact hs)
theorem grow_row {B : Nat} {w0 w : World} {L : List (Nat × Obj)} {g c n : Nat} {cs : Array Value} {l : List Int} (H : HH B w0 w L) (hm : (g, Obj.cells cs 5 (0, 0)) ∈ L) (hc : cs.size = c) (hlc : l.length ≤ c) (hrow : bf.Row cs 0 l) (hn : 1 ≤ n) (hlim : l.length + n ≤ 140737488355328) (hcc : c ≤ 140737488355328) :
    Calls Tryz.prog 152 #[.slice (some ⟨g, 0, none⟩) l.length c, .int .i64 (n : Int)] w fun e w' => ∃ g' c' cs', e = .returned (.slice (some ⟨g', 0, none⟩) l.length c') ∧ HH B w0 w' ((g', .cells cs' 5 (0, 0)) :: L) ∧ cs'.size = c' ∧ bf.Row cs' 0 l ∧ l.length + n ≤ c' ∧ c' ≤ 9223372036854775807 := by
  have hcon := Any.bytes_growSlice_row Tryz.blays290 g l.length c n cs w (H.at_ _ hm) hc hlc hn hlim hcc (wq.one_row hrow (by omega))
  refine hcon.mono ?_
  rintro e w' ⟨c', cs', rfl, h1, h2, h3, h4, h5, hb⟩
  exact ⟨_, c', cs', rfl, H.push hb h1, h2, wq.row_of_list (by rw [h3]; exact wq.row_list hrow (by omega)), h4, h5⟩
theorem grow_nil {B : Nat} {w0 w : World} {L : List (Nat × Obj)} {n : Nat} (H : HH B w0 w L) (hn : 1 ≤ n) (hlim : n ≤ 140737488355328) :
    Calls Tryz.prog 152 #[.slice none 0 0, .int .i64 (n : Int)] w fun e w' => ∃ g' c' cs', e = .returned (.slice (some ⟨g', 0, none⟩) 0 c') ∧ HH B w0 w' ((g', .cells cs' 5 (0, 0)) :: L) ∧ cs'.size = c' ∧ n ≤ c' ∧ c' ≤ 9223372036854775807 := by
  have hcon := Any.bytes_growSlice_nil Tryz.blays290 n w hn hlim
  refine hcon.mono ?_
  rintro e w' ⟨c', cs', rfl, h1, h2, h4, h5, hb⟩
  exact ⟨_, c', cs', rfl, H.push hb h1, h2, h4, h5⟩
end YtnmelglnkefjfaaGreatDoor.wr.li
end Go.Proofs
