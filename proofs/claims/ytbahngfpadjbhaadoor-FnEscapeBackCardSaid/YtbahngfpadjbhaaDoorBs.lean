/- Words of this seat's own: sets of bytes ([256]bool). -/
import Derived.Test.YtbahngfpadjbhaaDoorSc
namespace Go.Proofs.HHW
open Go.RowKit Go.Proofs.YtbahngfpadjbhaaDoorW.PrintWords
set_option linter.unusedVariables false
set_option linter.unusedSimpArgs false
section
variable {P : Program} {ops : Array Oper} {Q : Exit → Act → World → Prop} {o : Oper} {rest : List Oper} {a : Act} {n : Nat} {ds : List Deferred} {F : List (Nat × Value)} {B : Nat} {w0 w : World} {L : List (Nat × Obj)} {d : Nat}
def vec (p : Nat → Bool) : List Value := (List.range 256).map fun i => Value.bool (p i)
theorem vec_len (p : Nat → Bool) : (vec p).length = 256 := by simp [vec]
theorem vec_get (p : Nat → Bool) {i : Nat} (h : i < 256) : (vec p)[i]? = some (.bool (p i)) := by simp [vec, h]
theorem vec_arr (p : Nat → Bool) {i : Nat} {b : Bool} (h : i < 256) (hb : p i = b) : (vec p).toArray[0 + ((i : Nat) : Int).toNat * 1]? = some (.bool b) := by subst hb; simp [vec, h]
theorem vec_one (p : Nat → Bool) : ∀ v ∈ vec p, v.oneCell' = true := fun v hv => by
  obtain ⟨i, _, rfl⟩ := List.mem_map.1 hv
  rfl
theorem vec_set (p : Nat → Bool) {i : Nat} (v : Bool) : (vec p).toArray.setIfInBounds i (.bool v) = (vec (fun j => if j = i then v else p j)).toArray := by
  apply Array.ext_getElem?
  intro j
  by_cases hj : j < 256
  · by_cases e : j = i
    · subst e
      simp [Array.getElem?_setIfInBounds, vec, hj]
    · simp [Array.getElem?_setIfInBounds, vec, hj, e, Ne.symm e]
  · simp [Array.getElem?_setIfInBounds, vec_len, vec, hj]
theorem vec_ext {p q : Nat → Bool} (h : ∀ i, i < 256 → p i = q i) : vec p = vec q := by
  unfold vec
  apply List.map_congr_left
  intro i hi
  rw [h i (List.mem_range.1 hi)]
def BS (w : World) (g : Nat) (p : Nat → Bool) : Prop := ∀ i, i < 256 → w.cell? ⟨g, i, none⟩ = some (.bool (p i))
theorem BS.later {w w' : World} {g : Nat} {p : Nat → Bool} (h : BS w g p) (hb : Below w.heap.size w w') : BS w' g p := fun i hi => by
  have h1 := h i hi
  rw [hb.cell (p := ⟨g, i, none⟩) (RB.block_lt (o := 0) (i := i) (by rw [Nat.zero_add]; exact h1))]
  exact h1
theorem BS.old {w w' : World} {g : Nat} {p : Nat → Bool} {L : List (Nat × Obj)} (h : BS w g p) (H : HH w.heap.size w w' L) : BS w' g p := h.later H.below
theorem BS.ext {w : World} {g : Nat} {p q : Nat → Bool} (h : BS w g p) (e : ∀ i, i < 256 → p i = q i) : BS w g q := fun i hi => by rw [← e i hi]; exact h i hi
theorem BS.of {g : Nat} {p : Nat → Bool} {e : TypeId} {f : Nat × Nat} (H : HH B w0 w L) (hm : (g, Obj.cells (vec p).toArray e f) ∈ L) : BS w g p := fun i hi => by
  have hat := H.at_ _ hm
  simp only at hat
  simp [World.cell?, hat, vec_get p hi]
theorem r_set {t : TypeId} {x : Operand} {g : Nat} {p : Nat → Bool} (hx : ev F x = some (.pointer (some ⟨g, 0, none⟩))) (ha : aggB P t = some true) (hs : szB P t = some 256) (h : BS w0 g p) (hB : B = w0.heap.size) : Reads P F B w0 L (.load t x) (.agg (vec p).toArray) :=
  r_loads hx fun w H => by
    subst hB
    refine ldn ha (by rw [hs, vec_len]) fun i v hi => ?_
    have hi' : i < 256 := by
      have := (List.getElem?_eq_some_iff.1 hi).1
      rwa [vec_len] at this
    rw [vec_get p hi'] at hi
    injection hi with hi
    subst hi
    rw [Nat.zero_add]
    exact (h.later H.below) i hi'
theorem r_bit {t : TypeId} {x : Operand} {g i j : Nat} {p : Nat → Bool} (hx : ev F x = some (.pointer (some ⟨g, j, none⟩))) (hj : j = i) (hi : i < 256) (ha : aggB P t = some false) (h : BS w0 g p) (hB : B = w0.heap.size) : Reads P F B w0 L (.load t x) (.bool (p i)) :=
  r_loads hx fun w H => by
    subst hj hB
    exact ld1 ha ((h.later H.below) j hi)
/-- The sets that the program writes down. -/
def inp (l : List Int) (i : Nat) : Nat → Bool := fun c => decide ((c : Int) ∈ l.take i)
def ofs (s : ByteArray) : Nat → Bool := fun c => decide ((c : Int) ∈ ints s)
theorem inp_zero (l : List Int) : inp l 0 = fun _ => false := by funext c; simp [inp]
theorem inp_all (s : ByteArray) {i : Nat} (h : s.size ≤ i) : inp (ints s) i = ofs s := by
  funext c
  unfold inp ofs
  rw [List.take_of_length_le (by rw [ints_len]; exact h)]
theorem inp_succ {l : List Int} {i : Nat} {x : Nat} (h : l[i]? = some (x : Int)) : (fun j => if j = x then true else inp l i j) = inp l (i + 1) := by
  funext j
  unfold inp
  obtain ⟨h1, h2⟩ := List.getElem?_eq_some_iff.1 h
  rw [List.take_succ_eq_append_getElem h1, h2]
  by_cases e : j = x
  · simp [e]
  · have : ¬ ((j : Int) = x) := by omega
    simp [e, this]
theorem ints_bt (s : ByteArray) {i : Nat} (h : i < s.size) : (ints s)[i]? = some (((bt s (i : Int)).toNat : Nat) : Int) := by
  have hb := bt_range s (i : Int)
  rw [Int.toNat_of_nonneg hb.1]
  unfold ints HHW.bt
  rw [List.getElem?_map]
  have h' : (i : Int).toNat < s.size := by simpa using h
  simp only [h', dif_pos]
  have : s.data.toList[i]? = some s.data[i] := by
    rw [Array.getElem?_toList]
    exact Array.getElem?_eq_getElem h
  rw [this]
  rfl
def bOr (a b : Nat → Bool) : Nat → Bool := fun i => a i || b i
def bAnd (a b : Nat → Bool) : Nat → Bool := fun i => a i && b i
def bNot (a : Nat → Bool) : Nat → Bool := fun i => !a i
def upto (k : Nat) (f a : Nat → Bool) : Nat → Bool := fun j => if j < k then f j else a j
theorem upto_zero (f a : Nat → Bool) : upto 0 f a = a := by funext j; simp [upto]
theorem upto_at (k : Nat) (f a : Nat → Bool) : upto k f a k = a k := by simp [upto]
theorem upto_succ (k : Nat) (f a : Nat → Bool) {v : Bool} (h : v = f k) : (fun j => if j = k then v else upto k f a j) = upto (k + 1) f a := by
  funext j
  unfold upto
  by_cases e : j = k
  · subst e; simp [h]
  · by_cases l : j < k
    · simp [e, l, Nat.lt_succ_of_lt l]
    · have : ¬ j < k + 1 := by omega
      simp [e, l, this]
end
end Go.Proofs.HHW
