/- Words of this seat's own: sets of bytes ([256]bool) in lists of blocks; the decoder's sets in plain words. -/
import Derived.Test.YtbahngfpadjbhaaDoorBs
import Derived.Test.YtbahngfpadjbhaaDoorDh
namespace Go.Proofs.HHW
open Go.RowKit Go.Proofs.YtbahngfpadjbhaaDoorW.PrintWords
set_option linter.unusedVariables false
set_option linter.unusedSimpArgs false
section
variable {P : Program} {F : List (Nat × Value)} {B : Nat} {w0 : World} {L : List (Nat × Obj)}
theorem r_setM {t : TypeId} {x : Operand} {g : Nat} {p : Nat → Bool} {tt : TypeId} {f : Nat × Nat} (hx : ev F x = some (.pointer (some ⟨g, 0, none⟩))) (ha : aggB P t = some true) (hs : szB P t = some 256) (hm : (g, Obj.cells (vec p).toArray tt f) ∈ L) : Reads P F B w0 L (.load t x) (.agg (vec p).toArray) :=
  r_loadn (m := 256) (vs := vec p) hx hm ha hs (vec_len p) (by show ((vec p).drop 0).take 256 = vec p; rw [List.drop_zero, List.take_of_length_le (by rw [vec_len]; exact Nat.le_refl _)])
theorem r_bitM {t : TypeId} {x : Operand} {g i j : Nat} {p : Nat → Bool} {tt : TypeId} {f : Nat × Nat} (hx : ev F x = some (.pointer (some ⟨g, j, none⟩))) (hj : j = i) (hi : i < 256) (ha : aggB P t = some false) (hm : (g, Obj.cells (vec p).toArray tt f) ∈ L) : Reads P F B w0 L (.load t x) (.bool (p i)) :=
  r_load hx hm (by subst hj; rw [List.getElem?_toArray, vec_get p hi]) (fun w hc => ld1 ha hc)
end
/-- The decoder's sets. -/
def odd (c : Nat) : Bool := decide (c < 32) || c == 127
def sIn (k c : Nat) : Bool :=
  if k = 0 then c == 32 else if k = 1 then c == 32 || c == 13 || c == 10 else if k = 2 ∨ k = 6 ∨ k = 7 then !(c == 44 || c == 61 || c == 32 || odd c) else if k = 3 then odd c else if k = 4 then c == 13 || c == 10
  else if k = 5 then !(c == 44 || c == 32 || odd c) else if k = 8 then c != 34 else if k = 9 then !(c == 44 || c == 32 || c == 13 || c == 10) else if k = 10 then c == 45 || (decide (48 ≤ c) && decide (c ≤ 57)) else if k = 11 then !odd c else if k = 12 then !(c == 13 || c == 10) else c != 10
end Go.Proofs.HHW
