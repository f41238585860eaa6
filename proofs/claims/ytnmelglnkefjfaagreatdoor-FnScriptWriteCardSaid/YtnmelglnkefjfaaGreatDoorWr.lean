/- FnScriptWrite: what the reference's functions compute, in plain words: numerals, blobs, lists of texts, hexadecimal digits. -/
import Derived.Test.YtnmelglnkefjfaaGreatDoorWq
namespace Go.Proofs.YtnmelglnkefjfaaGreatDoor.px
open Go.RowKit Go.Proofs.HHW Go.Proofs.YtnmelglnkefjfaaGreatDoorW.PrintWords
set_option linter.unusedVariables false
set_option linter.unusedSimpArgs false
theorem sapp (a b : List Int) : strOfNums (a ++ b) = strOfNums a ++ strOfNums b := by
  apply ByteArray.ext
  rw [ByteArray.data_append]
  simp [strOfNums]
theorem sint (s : ByteArray) : strOfNums (ints s) = s := by
  apply ByteArray.ext
  apply Array.toList_inj.1
  rw [strOfNums_data]
  unfold ints
  rw [List.map_map]
  conv => rhs; rw [← List.map_id s.data.toList]
  apply List.map_congr_left
  intro b _
  simp
theorem u64w {n : Int} (h : 0 ≤ n ∧ n < 18446744073709551616) : IntKind.u64.wrap n = n := by rw [IntKind.wrap_u64]; omega
theorem w64 {n : Int} (h : -9223372036854775808 ≤ n ∧ n ≤ 9223372036854775807) : wrap64 n = n := by unfold wrap64; omega
/-- The digits that are left. -/
def dz (n : Nat) : List Int := if n = 0 then [] else wq.dec n
theorem dz_step (n : Nat) : wq.dec n = dz (n / 10) ++ [((48 + n % 10 : Nat) : Int)] := by
  unfold dz
  by_cases h : n < 10
  · rw [wq.dec_small h, if_pos (by omega), show n % 10 = n by omega]
    simp
  · rw [wq.dec_big h, if_neg (by omega)]
theorem dz_pos {n : Nat} (h : n ≠ 0) : dz n = dz (n / 10) ++ [((48 + n % 10 : Nat) : Int)] := by
  rw [← dz_step]
  unfold dz
  rw [if_neg h]
theorem dec_le {u : Nat} (h : u ≤ 1000000) : (wq.dec u).length ≤ 7 := by
  rw [wq.dec_len]
  exact wq.nDigits_le (k := 6) (by omega)
/-- A text as a blob on the wire. -/
def blob (k : Int) (s : ByteArray) : List Int := k :: (wq.dec s.size ++ [13, 10] ++ ints s ++ [13, 10])
theorem blob_len (k : Int) (s : ByteArray) (h : s.size ≤ 1000000) : (blob k s).length ≤ s.size + 12 := by
  have := dec_le h
  unfold blob
  simp only [List.length_cons, List.length_append, List.length_nil, ints_len]
  omega
theorem blob_str (k : Int) (s : ByteArray) : strOfNums [k] ++ strOfNums (wq.dec s.size) ++ ⟨#[13, 10]⟩ ++ s ++ ⟨#[13, 10]⟩ = strOfNums (blob k s) := by
  unfold blob
  have e : (⟨#[13, 10]⟩ : ByteArray) = strOfNums [13, 10] := rfl
  rw [e, show (k :: (wq.dec s.size ++ [13, 10] ++ ints s ++ [13, 10])) = [k] ++ wq.dec s.size ++ [13, 10] ++ ints s ++ [13, 10] by simp]
  simp only [sapp, sint]
/-- The header of an array of so many. -/
def hdr (k : Int) (n : Nat) : List Int := k :: (wq.dec n ++ [13, 10])
def blobs (l : List ByteArray) : List Int := (l.map (blob 36)).flatten
def texts (l : List ByteArray) : List Int := hdr 42 l.length ++ blobs l
theorem blobs_app (a b : List ByteArray) : blobs (a ++ b) = blobs a ++ blobs b := by unfold blobs; simp
theorem blobs_cons (s : ByteArray) (l : List ByteArray) : blobs (s :: l) = blob 36 s ++ blobs l := by unfold blobs; simp
theorem blobs_succ {l : List ByteArray} {i : Nat} (h : i < l.length) : blobs (l.take (i + 1)) = blobs (l.take i) ++ blob 36 (l.getD i ByteArray.empty) := by
  rw [List.take_add_one, get_some ByteArray.empty h, blobs_app]
  simp [blobs]
theorem blobs_len {l : List ByteArray} {m : Nat} (hm : m ≤ 1000000) (h : ∀ s ∈ l, s.size ≤ m) : (blobs l).length ≤ l.length * (m + 12) := by
  induction l with
  | nil => simp [blobs]
  | cons s l ih =>
    have h1 := h s List.mem_cons_self
    have h2 := ih fun x hx => h x (List.mem_cons_of_mem _ hx)
    have h3 := blob_len 36 s (by omega)
    rw [blobs_cons, List.length_append, List.length_cons, Nat.add_mul, Nat.one_mul]
    omega
theorem hdr_len (k : Int) (n : Nat) (h : n ≤ 1000000) : (hdr k n).length ≤ 10 := by
  have := dec_le h
  unfold hdr
  simp only [List.length_cons, List.length_append, List.length_nil]
  omega
/-! ### hexadecimal digits -/
def hexT : ByteArray := ⟨#[48, 49, 50, 51, 52, 53, 54, 55, 56, 57, 97, 98, 99, 100, 101, 102]⟩
def hexd (n : Int) : Int := Go.Proofs.HHW.bt hexT n
def hexB (x : List Int) : List Int := (x.map fun b => [hexd (b / 16), hexd (b % 16)]).flatten
theorem hexB_len (x : List Int) : (hexB x).length = 2 * x.length := by
  unfold hexB
  induction x with
  | nil => rfl
  | cons a x ih => rw [List.map_cons, List.flatten_cons, List.length_append, ih]; simp only [List.length_cons, List.length_nil]; omega
theorem hexB_succ {x : List Int} {i : Nat} (h : i < x.length) : hexB (x.take (i + 1)) = hexB (x.take i) ++ [hexd (x.getD i 0 / 16), hexd (x.getD i 0 % 16)] := by
  unfold hexB
  rw [List.take_add_one, get_some 0 h]
  simp
theorem and15 {b : Int} (h : 0 ≤ b ∧ b ≤ 255) : Go.bits .and .u8 b 15 = b % 16 := by
  obtain ⟨n, rfl⟩ : ∃ n : Nat, b = (n : Int) := ⟨b.toNat, by omega⟩
  have hn : n ≤ 255 := by omega
  have e : (n : Int) = ((BitVec.ofNat 8 n).toNat : Int) := by rw [BitVec.toNat_ofNat]; omega
  have h1 := and8 (BitVec.ofNat 8 n) 15#8
  rw [← e, show ((15#8).toNat : Int) = 15 from rfl] at h1
  rw [show Go.bits .and .u8 (n : Int) 15 = IntKind.u8.wrap (BitVec.ofInt IntKind.u8.bits (n : Int) &&& BitVec.ofInt IntKind.u8.bits 15).toNat from rfl, h1]
  have h2 : (BitVec.ofNat 8 n).toNat &&& (15#8).toNat = n % 16 := by
    rw [BitVec.toNat_ofNat, Nat.mod_eq_of_lt (by omega), show (15#8).toNat = 2 ^ 4 - 1 from rfl, Nat.and_two_pow_sub_one_eq_mod]
  rw [BitVec.toNat_and, h2]
  omega
theorem set_two {a : List Int} {n : Nat} (u v : Int) (ha : a.length = 2 * n) (r : Nat) (x5 : Int) (h5 : x5 = ((2 * n : Nat) : Int)) (x6 : Int) (h6 : x6 = ((2 * n + 1 : Nat) : Int)) : ((a ++ List.replicate (r + 2) 0).set x5.toNat u).set x6.toNat v = (a ++ [u, v]) ++ List.replicate r 0 := by
  subst h5; subst h6
  rw [Int.toNat_natCast, Int.toNat_natCast, List.set_append_right _ _ (by omega), List.set_append_right _ _ (by omega), show 2 * n - a.length = 0 by omega, show 2 * n + 1 - a.length = 1 by omega, show r + 2 = (r + 1) + 1 from rfl, List.replicate_succ, List.replicate_succ]
  simp
end Go.Proofs.YtnmelglnkefjfaaGreatDoor.px
