/- Raw messages, plainly: how many bytes the first message of some bytes takes. -/
import Derived.Test.YtnmelglnkefjfaaGreatDoorBf
import Derived.Lib.IndexLaws
import Derived.Lib.Strings
import Derived.Lib.BytesEntry
namespace Go.Proofs.YtnmelglnkefjfaaGreatDoor.rp
open Go.RowKit Go.Proofs.HHW Go.Proofs.YtnmelglnkefjfaaGreatDoorW.PrintWords
set_option linter.unusedVariables false
set_option linter.unusedSimpArgs false
/-- Where the first LF is. -/
def fi : List Int → Option Nat
  | [] => none
  | x :: r => if x = 10 then some 0 else (fi r).map (· + 1)
theorem fi_some : ∀ {l : List Int} {i : Nat}, fi l = some i ↔ (i < l.length ∧ l.getD i 0 = 10 ∧ ∀ j, j < i → l.getD j 0 ≠ 10)
  | [], i => by simp [fi]
  | x :: r, i => by
    unfold fi
    by_cases hx : x = 10
    · rw [if_pos hx]
      constructor
      · intro h; injection h with h; subst h; exact ⟨by simp, by simpa using hx, fun j hj => by omega⟩
      · rintro ⟨h1, h2, h3⟩
        cases i with
        | zero => rfl
        | succ i => exact absurd (by simpa using hx) (h3 0 (by omega))
    · rw [if_neg hx]
      cases i with
      | zero => 
        constructor
        · intro h
          obtain ⟨k, hk, he⟩ := Option.map_eq_some_iff.1 h
          omega
        · rintro ⟨_, h2, _⟩; exact absurd (by simpa using h2) hx
      | succ i =>
        constructor
        · intro h
          obtain ⟨k, hk, he⟩ := Option.map_eq_some_iff.1 h
          have e : k = i := by omega
          subst e
          obtain ⟨h1, h2, h3⟩ := fi_some.1 hk
          refine ⟨by simpa using h1, by simpa using h2, fun j hj => ?_⟩
          cases j with
          | zero => simpa using hx
          | succ j => simpa using h3 j (by omega)
        · rintro ⟨h1, h2, h3⟩
          rw [fi_some.2 ⟨by simpa using h1, by simpa using h2, fun j hj => by simpa using h3 (j + 1) (by omega)⟩]
          rfl
theorem fi_none : ∀ {l : List Int}, fi l = none ↔ ∀ j, j < l.length → l.getD j 0 ≠ 10
  | [] => by simp [fi]
  | x :: r => by
    unfold fi
    by_cases hx : x = 10
    · rw [if_pos hx]
      constructor
      · intro h; cases h
      · intro h; exact absurd (by simpa using hx) (h 0 (by simp))
    · rw [if_neg hx, Option.map_eq_none_iff, fi_none]
      constructor
      · intro h j hj
        cases j with
        | zero => simpa using hx
        | succ j => simpa using h j (by simpa using hj)
      · intro h j hj
        simpa using h (j + 1) (by simpa using hj)
theorem fi_index {l : List Int} (hr : ∀ x ∈ l, 0 ≤ x ∧ x ≤ 255) : Lib.indexByte (Lib.bytesOf l) (10 : Int).toNat.toUInt8 = match fi l with | some i => (i : Int) | none => -1 := by
  induction l with
  | nil => rfl
  | cons x r ih =>
    have hx := hr x List.mem_cons_self
    have ih := ih (fun y hy => hr y (List.mem_cons_of_mem _ hy))
    have e1 : Lib.bytesOf (x :: r) = x.toNat.toUInt8 :: Lib.bytesOf r := rfl
    rw [e1]
    unfold Lib.indexByte fi
    by_cases h : x = 10
    · subst h; simp
    · have h2 : (x.toNat.toUInt8 == (10 : Int).toNat.toUInt8) = false := by
        rw [beq_eq_false_iff_ne]
        intro e
        have := congrArg UInt8.toNat e
        simp at this
        omega
      rw [h2, if_neg h]
      simp only [Bool.false_eq_true, if_false]
      rw [ih]
      cases hf : fi r with
      | none => simp
      | some i => 
        have : ((i : Int) == -1) = false := by rw [beq_eq_false_iff_ne]; omega
        simp only [this, Bool.false_eq_true, if_false, Option.map_some]
        show (i : Int) + 1 = ((i + 1 : Nat) : Int)
        omega
def isLine (k : Int) : Bool := k == 43 || k == 45 || k == 58 || k == 95 || k == 44 || k == 35 || k == 40
def many (k : Int) : Nat := if k = 42 ∨ k = 126 ∨ k = 62 then 1 else if k = 37 ∨ k = 124 then 2 else 0
def isBlob (k : Int) : Bool := k == 36 || k == 33 || k == 61 || k == 59
def dig (x : Int) : Bool := decide (48 ≤ x ∧ x ≤ 57)
/-- What digits are behind a sign. -/
def digs (b : List Int) : List Int := if b ≠ [] ∧ (b.getD 0 0 = 45 ∨ b.getD 0 0 = 43) then b.drop 1 else b
def val (acc : Int) : List Int → Int
  | [] => acc
  | x :: r => val (10 * acc + (x - 48)) r
def num (b : List Int) : Int := if b.getD 0 0 = 45 then - val 0 (digs b) else val 0 (digs b)
/-- A header's number: none where nothing is said of it; some none where it is none. -/
def size (b : List Int) : Option (Option Int) :=
  if (digs b).all dig = true ∧ digs b ≠ [] then (if 18 < (digs b).length ∨ num b > 1048576 ∨ num b < -1 then none else some (some (num b))) else some none
def manyR (f : List Int → Option (Option Nat)) : Nat → List Int → Option (Option Nat)
  | 0, _ => some (some 0)
  | n + 1, Y => match f Y with
    | none => none
    | some none => some none
    | some (some c) => (manyR f n (Y.drop c)).map (Option.map (c + ·))
def bodyR (m : Nat) (R : List Int) : Option (Option Nat) :=
  if R.length < m then some none else if 2 ≤ (R.drop m).length then (if (R.drop m).getD 0 0 = 13 ∧ (R.drop m).getD 1 0 = 10 then some (some (m + 2)) else none) else some none
def raw : Nat → List Int → Option (Option Nat)
  | 0, _ => none
  | k + 1, Y => match fi Y with
    | none => some none
    | some j => if j < 2 then some none else if Y.getD (j - 1) 0 ≠ 13 then none
      else if Y.getD 0 0 = 46 ∨ isLine (Y.getD 0 0) = true then some (some (j + 1))
      else if many (Y.getD 0 0) = 0 ∧ isBlob (Y.getD 0 0) = false then some none
      else if (Y.take (j - 1)).drop 1 = [] ∧ (many (Y.getD 0 0) ≠ 0 ∨ Y.getD 0 0 = 36) then none
      else if (many (Y.getD 0 0) ≠ 0 ∨ Y.getD 0 0 = 36) ∧ ((Y.take (j - 1)).drop 1).getD 0 0 = 63 then some (some (j + 1))
      else match size ((Y.take (j - 1)).drop 1) with
        | none => none
        | some none => some none
        | some (some m) => if m = -1 ∨ (m = 0 ∧ Y.getD 0 0 = 59) then some (some (j + 1))
          else if many (Y.getD 0 0) ≠ 0 then (manyR (raw k) (m.toNat * many (Y.getD 0 0)) (Y.drop (j + 1))).map (Option.map (j + 1 + ·))
          else (bodyR m.toNat (Y.drop (j + 1))).map (Option.map (j + 1 + ·))
theorem val_bound : ∀ (l : List Int) (acc : Int), l.all dig = true → 0 ≤ acc → 0 ≤ val acc l ∧ val acc l < (acc + 1) * 10 ^ l.length
  | [], acc, _, h0 => by simp [val]; omega
  | x :: r, acc, hd, h0 => by
    simp only [List.all_cons, Bool.and_eq_true] at hd
    have hx : 48 ≤ x ∧ x ≤ 57 := by simpa [dig] using hd.1
    obtain ⟨h1, h2⟩ := val_bound r (10 * acc + (x - 48)) hd.2 (by omega)
    refine ⟨h1, ?_⟩
    show val (10 * acc + (x - 48)) r < _
    have h3 : (10 * acc + (x - 48) + 1) * 10 ^ r.length ≤ (acc + 1) * 10 ^ (r.length + 1) := by
      have h4 : (10 * acc + (x - 48) + 1) ≤ 10 * (acc + 1) := by omega
      have h5 : (0 : Int) ≤ 10 ^ r.length := Int.pow_nonneg (by omega)
      have h6 := Int.mul_le_mul_of_nonneg_right h4 h5
      have e : (10 * (acc + 1)) * 10 ^ r.length = (acc + 1) * 10 ^ (r.length + 1) := by rw [Int.pow_succ]; ac_rfl
      omega
    rw [List.length_cons]
    omega
theorem val18 {l : List Int} (hd : l.all dig = true) (hl : l.length ≤ 18) : 0 ≤ val 0 l ∧ val 0 l < 1000000000000000000 := by
  obtain ⟨h1, h2⟩ := val_bound l 0 hd (by omega)
  refine ⟨h1, Int.lt_of_lt_of_le h2 ?_⟩
  rw [show ((0 : Int) + 1) = 1 from rfl, Int.one_mul]
  have : (10 : Nat) ^ l.length ≤ 10 ^ 18 := Nat.pow_le_pow_right (by omega) hl
  have e : ((10 : Int) ^ l.length) = ((10 ^ l.length : Nat) : Int) := by simp
  rw [e]
  omega
theorem val_snoc (l : List Int) (x : Int) : ∀ acc, val acc (l ++ [x]) = 10 * val acc l + (x - 48) := by
  induction l with
  | nil => intro acc; rfl
  | cons y r ih => intro acc; exact ih _
theorem take_succ_getD {l : List Int} {i : Nat} (h : i < l.length) : l.take (i + 1) = l.take i ++ [l.getD i 0] := by
  rw [List.take_add_one, List.getElem?_eq_getElem h, List.getD_eq_getElem?_getD, List.getElem?_eq_getElem h]; rfl
theorem all_take_succ {l : List Int} {i : Nat} (h : i < l.length) (ha : (l.take i).all dig = true) (hx : 48 ≤ l.getD i 0 ∧ l.getD i 0 ≤ 57) : (l.take (i + 1)).all dig = true := by
  rw [take_succ_getD h, List.all_append, ha]
  simp [dig]
  simpa using hx
theorem not_all {l : List Int} {i : Nat} (h : i < l.length) (hx : ¬ (48 ≤ l.getD i 0 ∧ l.getD i 0 ≤ 57)) : l.all dig = false := by
  rw [List.all_eq_false]
  refine ⟨l.getD i 0, ?_, by simpa [dig] using hx⟩
  rw [List.getD_eq_getElem?_getD, List.getElem?_eq_getElem h]
  exact List.getElem_mem h
theorem bti (s : ByteArray) (i : Nat) : HHW.bt s (i : Int) = (ints s).getD i 0 := by
  unfold HHW.bt ints
  rw [List.getD_eq_getElem?_getD, List.getElem?_map]
  split
  · rename_i h
    rw [Int.toNat_natCast] at h
    have h2 : i < s.data.toList.length := by have : s.data.toList.length = s.size := Array.length_toList; omega
    rw [List.getElem?_eq_getElem h2]
    rfl
  · rename_i h
    rw [Int.toNat_natCast] at h
    have h2 : s.data.toList.length ≤ i := by have : s.data.toList.length = s.size := Array.length_toList; omega
    rw [List.getElem?_eq_none h2]
    rfl
theorem bt0 (s : ByteArray) : HHW.bt s 0 = (ints s).getD 0 0 := bti s 0
theorem ints_extract (s : ByteArray) (a b : Nat) : ints (s.extract a b) = ((ints s).take b).drop a := by
  unfold ints
  rw [ByteArray.data_extract, Array.toList_extract, List.extract_eq_take_drop, ← List.map_take, ← List.map_drop, List.drop_take]
theorem ints_nil {s : ByteArray} : ints s = [] ↔ s.size = 0 := by rw [← ints_len]; exact List.length_eq_zero_iff.symm
theorem drop_getD (l : List Int) (p i : Nat) : (l.drop p).getD i 0 = l.getD (p + i) 0 := by
  rw [List.getD_eq_getElem?_getD, List.getElem?_drop, ← List.getD_eq_getElem?_getD]
theorem take_getD {l : List Int} {n i : Nat} (h : i < n) : (l.take n).getD i 0 = l.getD i 0 := by
  rw [List.getD_eq_getElem?_getD, List.getElem?_take_of_lt h, ← List.getD_eq_getElem?_getD]
theorem val17 {l : List Int} (hd : l.all dig = true) (hl : l.length ≤ 17) : 0 ≤ val 0 l ∧ val 0 l < 100000000000000000 := by
  obtain ⟨h1, h2⟩ := val_bound l 0 hd (by omega)
  refine ⟨h1, Int.lt_of_lt_of_le h2 ?_⟩
  rw [show ((0 : Int) + 1) = 1 from rfl, Int.one_mul]
  have : (10 : Nat) ^ l.length ≤ 10 ^ 17 := Nat.pow_le_pow_right (by omega) hl
  have e : ((10 : Int) ^ l.length) = ((10 ^ l.length : Nat) : Int) := by simp
  rw [e]
  omega
theorem num_neg {b : List Int} {n : Int} (h0 : b.getD 0 0 = 45) (hd : (digs b).all dig = true) (hn : (digs b).length ≤ 18 → n = val 0 (digs b)) (hl : (digs b).length ≤ 18) : IntKind.i64.wrap (0 - n) = num b := by
  have hv := val18 hd hl
  rw [num, if_pos h0, hn hl, IntWalk.i64_in _ (by omega)]
  omega
theorem num_else {b : List Int} {n : Int} (h0 : (digs b).length = 0 ∨ b.getD 0 0 ≠ 45) (hn : (digs b).length ≤ 18 → n = val 0 (digs b)) (hl : (digs b).length ≤ 18) : n = num b := by
  rw [num, hn hl]
  split
  · rename_i h
    rcases h0 with h0 | h0
    · rw [List.length_eq_zero_iff.1 h0]; rfl
    · exact absurd h h0
  · rfl
theorem size_odd {b : List Int} {n : Int} {ok great : Bool} (hok : ok = ((digs b).all dig && decide (digs b ≠ []))) (hg : ok = true → great = decide (18 < (digs b).length) ∧ ((digs b).length ≤ 18 → n = num b)) (h1 : ok = true) (h2 : great = true ∨ (n > 1048576 ∨ n < -1)) : size b = none := by
  obtain ⟨h3, h4⟩ := hg h1
  rw [h1] at hok
  have h5 : (digs b).all dig = true ∧ digs b ≠ [] := by
    have := hok.symm
    simpa [Bool.and_eq_true] using this
  rw [size, if_pos h5, if_pos]
  by_cases h6 : 18 < (digs b).length
  · exact .inl h6
  · rcases h2 with h2 | h2
    · rw [h2] at h3; exact .inl (of_decide_eq_true h3.symm)
    · rw [h4 (by omega)] at h2; exact .inr h2
theorem size_bad {b : List Int} {ok : Bool} (hok : ok = ((digs b).all dig && decide (digs b ≠ []))) (h1 : ok = false) : size b = some none := by
  rw [h1] at hok
  have h5 : ¬ ((digs b).all dig = true ∧ digs b ≠ []) := by
    intro h
    rw [h.1, Bool.true_and, decide_eq_true h.2] at hok
    cases hok
  rw [size, if_neg h5]
theorem size_num {b : List Int} {n : Int} {ok great : Bool} (hok : ok = ((digs b).all dig && decide (digs b ≠ []))) (hg : ok = true → great = decide (18 < (digs b).length) ∧ ((digs b).length ≤ 18 → n = num b)) (h1 : ok = true) (h2 : great = false) (h3 : ¬ (n > 1048576 ∨ n < -1)) : size b = some (some n) := by
  obtain ⟨h4, h6⟩ := hg h1
  rw [h1] at hok
  have h5 : (digs b).all dig = true ∧ digs b ≠ [] := by
    have := hok.symm
    simpa [Bool.and_eq_true] using this
  rw [h2] at h4
  have h7 : ¬ 18 < (digs b).length := of_decide_eq_false h4.symm
  have e := h6 (by omega)
  rw [size, if_pos h5, if_neg, e]
  rw [← e]
  omega
/-- A message whose first line is told: 'j' its LF, 'R' what is behind it. -/
def rawB (f : List Int → Option (Option Nat)) (j : Nat) (R : List Int) (kd : Int) (b : List Int) : Option (Option Nat) :=
  if kd = 46 ∨ isLine kd = true then some (some (j + 1))
  else if many kd = 0 ∧ isBlob kd = false then some none
  else if b = [] ∧ (many kd ≠ 0 ∨ kd = 36) then none
  else if (many kd ≠ 0 ∨ kd = 36) ∧ b.getD 0 0 = 63 then some (some (j + 1))
  else match size b with
    | none => none
    | some none => some none
    | some (some m) => if m = -1 ∨ (m = 0 ∧ kd = 59) then some (some (j + 1))
      else if many kd ≠ 0 then (manyR f (m.toNat * many kd) R).map (Option.map (j + 1 + ·))
      else (bodyR m.toNat R).map (Option.map (j + 1 + ·))
theorem raw_none {k : Nat} {Y : List Int} (h : fi Y = none) : raw (k + 1) Y = some none := by rw [raw, h]
theorem raw_short {k j : Nat} {Y : List Int} (h : fi Y = some j) (hj : j < 2) : raw (k + 1) Y = some none := by rw [raw, h]; simp only [if_pos hj]
theorem raw_cr {k j : Nat} {Y : List Int} (h : fi Y = some j) (hj : 2 ≤ j) (hc : Y.getD (j - 1) 0 ≠ 13) : raw (k + 1) Y = none := by
  rw [raw, h]; simp only [if_neg (show ¬ j < 2 by omega), if_pos hc]
theorem raw_B {k j : Nat} {Y : List Int} (h : fi Y = some j) (hj : 2 ≤ j) (hc : Y.getD (j - 1) 0 = 13) : raw (k + 1) Y = rawB (raw k) j (Y.drop (j + 1)) (Y.getD 0 0) ((Y.take (j - 1)).drop 1) := by
  rw [raw, h]; simp only [if_neg (show ¬ j < 2 by omega), if_neg (show ¬ Y.getD (j - 1) 0 ≠ 13 from fun h => h hc)]; rfl
theorem ints_body (tx : ByteArray) {p j : Nat} (hj : 2 ≤ j) : ints (tx.extract (p + 1) (p + j + 1 - 2)) = (((ints tx).drop p).take (j - 1)).drop 1 := by
  rw [ints_extract]
  apply List.ext_getElem?
  intro i
  simp only [List.getElem?_drop, List.getElem?_take]
  by_cases h : p + 1 + i < p + j + 1 - 2
  · rw [if_pos h, if_pos (by omega)]; congr 1; omega
  · rw [if_neg h, if_neg (by omega)]
theorem many_pos {kd : Int} (h : many kd ≠ 0) : 1 ≤ many kd ∧ many kd ≤ 2 := by
  unfold many at *
  split
  · omega
  · split
    · omega
    · rename_i h1 h2; rw [if_neg h1, if_neg h2] at h; omega
section
variable {f : List Int → Option (Option Nat)} {N i c d : Nat} {R : List Int}
theorem many_step (hi : i < N) : manyR f (N - i) (R.drop c) = match f (R.drop c) with
    | none => none
    | some none => some none
    | some (some d) => (manyR f (N - (i + 1)) (R.drop (c + d))).map (Option.map (d + ·)) := by
  obtain ⟨r, hr⟩ : ∃ r, N - i = r + 1 := ⟨N - i - 1, by omega⟩
  rw [hr, show N - (i + 1) = r by omega, manyR]
  simp only [List.drop_drop]
theorem many_odd (hi : i < N) (hM : manyR f N R = (manyR f (N - i) (R.drop c)).map (Option.map (c + ·))) (h : f (R.drop c) = none) : manyR f N R = none := by rw [hM, many_step hi, h]; rfl
theorem many_no (hi : i < N) (hM : manyR f N R = (manyR f (N - i) (R.drop c)).map (Option.map (c + ·))) (h : f (R.drop c) = some none) : manyR f N R = some none := by rw [hM, many_step hi, h]; rfl
theorem many_yes (hi : i < N) (hM : manyR f N R = (manyR f (N - i) (R.drop c)).map (Option.map (c + ·))) (h : f (R.drop c) = some (some d)) : manyR f N R = (manyR f (N - (i + 1)) (R.drop (c + d))).map (Option.map (c + d + ·)) := by
  rw [hM, many_step hi, h]
  simp only [Option.map_map]
  congr 1
  funext x
  cases x with
  | none => rfl
  | some y => simp [Nat.add_assoc]
theorem many_done (hi : N ≤ i) (hM : manyR f N R = (manyR f (N - i) (R.drop c)).map (Option.map (c + ·))) : manyR f N R = some (some c) := by rw [hM, show N - i = 0 by omega, manyR]; rfl
end
/-- No case of the first ones. -/
def NT (kd : Int) (b : List Int) : Prop := ¬ (kd = 46 ∨ isLine kd = true) ∧ ¬ (many kd = 0 ∧ isBlob kd = false) ∧ ¬ (b = [] ∧ (many kd ≠ 0 ∨ kd = 36)) ∧ ¬ ((many kd ≠ 0 ∨ kd = 36) ∧ b.getD 0 0 = 63)
theorem size_ge {b : List Int} {n : Int} (h : size b = some (some n)) : -1 ≤ n ∧ n ≤ 1048576 := by
  unfold size at h
  split at h
  · split at h
    · cases h
    · rename_i h2; injection h with h; injection h with h; omega
  · cases h
section
variable {f : List Int → Option (Option Nat)} {j m : Nat} {R : List Int} {kd : Int} {b : List Int}
theorem B_line (h : kd = 46 ∨ isLine kd = true) : rawB f j R kd b = some (some (j + 1)) := by rw [rawB, if_pos h]
theorem B_unk (h1 : ¬ (kd = 46 ∨ isLine kd = true)) (h : many kd = 0 ∧ isBlob kd = false) : rawB f j R kd b = some none := by rw [rawB, if_neg h1, if_pos h]
theorem B_empty (h1 : ¬ (kd = 46 ∨ isLine kd = true)) (h2 : ¬ (many kd = 0 ∧ isBlob kd = false)) (h : b = [] ∧ (many kd ≠ 0 ∨ kd = 36)) : rawB f j R kd b = none := by rw [rawB, if_neg h1, if_neg h2, if_pos h]
theorem B_q (h1 : ¬ (kd = 46 ∨ isLine kd = true)) (h2 : ¬ (many kd = 0 ∧ isBlob kd = false)) (h3 : ¬ (b = [] ∧ (many kd ≠ 0 ∨ kd = 36))) (h : (many kd ≠ 0 ∨ kd = 36) ∧ b.getD 0 0 = 63) : rawB f j R kd b = some (some (j + 1)) := by rw [rawB, if_neg h1, if_neg h2, if_neg h3, if_pos h]
theorem B_rest (h : NT kd b) : rawB f j R kd b = match size b with
    | none => none
    | some none => some none
    | some (some m) => if m = -1 ∨ (m = 0 ∧ kd = 59) then some (some (j + 1))
      else if many kd ≠ 0 then (manyR f (m.toNat * many kd) R).map (Option.map (j + 1 + ·))
      else (bodyR m.toNat R).map (Option.map (j + 1 + ·)) := by
  rw [rawB, if_neg h.1, if_neg h.2.1, if_neg h.2.2.1, if_neg h.2.2.2]
theorem B_odd (h : NT kd b) (hs : size b = none) : rawB f j R kd b = none := by rw [B_rest h, hs]
theorem B_no (h : NT kd b) (hs : size b = some none) : rawB f j R kd b = some none := by rw [B_rest h, hs]
theorem B_stop {n : Int} (h : NT kd b) (hs : size b = some (some n)) (h1 : n = -1 ∨ (n = 0 ∧ kd = 59)) : rawB f j R kd b = some (some (j + 1)) := by
  rw [B_rest h, hs]; simp only [if_pos h1]
theorem B_many {r : Option (Option Nat)} (h : NT kd b) (hs : size b = some (some (m : Int))) (h1 : ¬ ((m : Int) = -1 ∨ ((m : Int) = 0 ∧ kd = 59))) (hmk : many kd ≠ 0) (hr : manyR f (m * many kd) R = r) : rawB f j R kd b = r.map (Option.map (j + 1 + ·)) := by
  rw [B_rest h, hs]; simp only [if_neg h1, if_pos hmk, Int.toNat_natCast, hr]
theorem B_body {r : Option (Option Nat)} (h : NT kd b) (hs : size b = some (some (m : Int))) (h1 : ¬ ((m : Int) = -1 ∨ ((m : Int) = 0 ∧ kd = 59))) (hmk : many kd = 0) (hr : bodyR m R = r) : rawB f j R kd b = r.map (Option.map (j + 1 + ·)) := by
  rw [B_rest h, hs]; simp only [if_neg h1, if_neg (show ¬ many kd ≠ 0 from fun h => h hmk), Int.toNat_natCast, hr]
end
theorem body_le {m c : Nat} {R : List Int} (h : bodyR m R = some (some c)) : c ≤ R.length := by
  unfold bodyR at h
  split at h
  · cases h
  · split at h
    · rename_i h1 h2
      split at h
      · injection h with h; injection h with h; rw [List.length_drop] at h2; omega
      · cases h
    · cases h
theorem fi_drop {l : List Int} {k i : Nat} (h : fi (l.drop k) = some i) (hk : ∀ j, j < k → l.getD j 0 ≠ 10) : fi l = some (i + k) := by
  obtain ⟨h1, h2, h3⟩ := fi_some.1 h
  rw [List.length_drop] at h1
  rw [drop_getD] at h2
  refine fi_some.2 ⟨by omega, by rw [Nat.add_comm]; exact h2, fun j hj => ?_⟩
  rcases Nat.lt_or_ge j k with h4 | h4
  · exact hk j h4
  · have := h3 (j - k) (by omega)
    rwa [drop_getD, show k + (j - k) = j by omega] at this
theorem fi_append {l t : List Int} {i : Nat} (h : fi l = some i) : fi (l ++ t) = some i := by
  obtain ⟨h1, h2, h3⟩ := fi_some.1 h
  refine fi_some.2 ⟨by rw [List.length_append]; omega, ?_, fun j hj => ?_⟩
  · rw [List.getD_eq_getElem?_getD, List.getElem?_append_left h1, ← List.getD_eq_getElem?_getD]; exact h2
  · rw [List.getD_eq_getElem?_getD, List.getElem?_append_left (by omega), ← List.getD_eq_getElem?_getD]; exact h3 j hj
theorem no_more {l : List Int} {k : Nat} (h : fi (l.drop k) = none) (hk : ∀ j, j < k → l.getD j 0 ≠ 10) : ∀ j, j < l.length → l.getD j 0 ≠ 10 := by
  intro j hj
  rcases Nat.lt_or_ge j k with h4 | h4
  · exact hk j h4
  · have := fi_none.1 h (j - k) (by rw [List.length_drop]; omega)
    rwa [drop_getD, show k + (j - k) = j by omega] at this
/-- A part of the buffer, read. -/
theorem view {B : Nat} {w0 w : World} {L : List (Nat × Obj)} {gb r c k : Nat} {cs : Array Value} {te : TypeId} {f : Nat × Nat} {vis : List Int} (H : HH B w0 w L) (hm : (gb, Obj.cells cs te f) ∈ L) (h : bf.Row cs r vis) (hw : r + vis.length ≤ c) :
    ∀ i, i < (vis.drop k).length → w.cell? ⟨gb, offAt 0 c (r + k) + i, none⟩ = some (.int .u8 ((vis.drop k).getD i 0)) := by
  intro i hi
  rw [List.length_drop] at hi
  have h1 := h (k + i) (vis.getD (k + i) 0) (get_some 0 (by omega))
  have hat := H.at_ _ hm
  simp only at hat
  unfold offAt
  rw [if_neg (by omega), drop_getD]
  simp only [World.cell?, hat]
  rw [show 0 + (r + k) + i = r + (k + i) by omega]
  exact h1
theorem view_C {B : Nat} {w0 w : World} {L : List (Nat × Obj)} {gb r : Nat} {cs : Array Value} {te : TypeId} {f : Nat × Nat} {l : List Int} (H : HH B w0 w L) (hm : (gb, Obj.cells cs te f) ∈ L) (h : bf.Row cs r l) (hl : l.length ≤ 9223372036854775807) : (Kd.int .u8).C w (some ⟨gb, r, none⟩) l.length l := by
  refine RB.C (fun i v hi => ?_) hl
  have hat := H.at_ _ hm
  simp only at hat
  simp only [World.cell?, hat]
  exact h i v hi
theorem row_take {cs : Array Value} {r k : Nat} {vis : List Int} (h : bf.Row cs r vis) : bf.Row cs r (vis.take k) := fun i v hi => h i v (by
  have h1 := (List.getElem?_eq_some_iff.1 hi).1
  rw [List.length_take] at h1
  rwa [List.getElem?_take_of_lt (by omega)] at hi)
theorem ral_case {nn n o : Nat} {vis v2 : List Int} {cm c2 : Array Value} {EV : Value} (hnn : nn = 0) (hv : v2 = vis) (hc : c2 = cm) (hv0 : 0 < v2.length) (hn0 : 0 < n) :
    (nn + min v2.length (n - nn) = 0 ∧ Value.nilIface = .nilIface ∧ v2.drop (min v2.length (n - nn)) = vis ∧ spl c2 (o + nn) ((v2.take (min v2.length (n - nn))).map (Value.int .u8)) = cm ∧ (if n ≤ vis.length then 0 else 1) = 2) ∨
    (nn + min v2.length (n - nn) = n ∧ Value.nilIface = .nilIface ∧ n ≤ vis.length ∧ v2.drop (min v2.length (n - nn)) = vis.drop n ∧ spl c2 (o + nn) ((v2.take (min v2.length (n - nn))).map (Value.int .u8)) = spl cm o ((vis.take n).map (Value.int .u8))) ∨
    (Value.nilIface = .nilIface ∧ 0 < nn + min v2.length (n - nn) ∧ nn + min v2.length (n - nn) < n ∧ v2.drop (min v2.length (n - nn)) = [] ∧ vis.length < n ∧ (if n ≤ vis.length then 0 else 1) = 1) ∨
    (Value.nilIface = EV ∧ nn + min v2.length (n - nn) < n ∧ v2.drop (min v2.length (n - nn)) = [] ∧ vis.length < n) := by
  subst hnn hv hc
  rw [Nat.zero_add, Nat.sub_zero, Nat.add_zero]
  by_cases h : n ≤ v2.length
  · rw [Nat.min_eq_right h]; exact .inr (.inl ⟨rfl, rfl, h, rfl, rfl⟩)
  · rw [Nat.min_eq_left (by omega)]
    exact .inr (.inr (.inl ⟨rfl, hv0, by omega, by simp, by omega, by rw [if_neg h]⟩))
end Go.Proofs.YtnmelglnkefjfaaGreatDoor.rp
