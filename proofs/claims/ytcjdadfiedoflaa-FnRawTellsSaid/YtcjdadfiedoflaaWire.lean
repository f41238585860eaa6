/- FnRawTells: what a value is on the wire. -/
import Derived.Test.YtcjdadfiedoflaaWgp
import Derived.Test.YtcjdadfiedoflaaRt4
namespace Go.Proofs.Ytcjdadfiedoflaa.tells
open Go.RowKit Go.Proofs.HHW Go.Proofs.YtcjdadfiedoflaaW.PrintWords Go.Proofs.YtcjdadfiedoflaaW.PrintMore PFnRawTells
set_option linter.unusedVariables false
set_option linter.unusedSimpArgs false
def dl (n : Nat) (acc : List Int) : List Int := if h : n = 0 then acc else dl (n / 10) ((48 + (n % 10 : Nat) : Int) :: acc)
termination_by n
decreasing_by omega
theorem dl_len (n : Nat) : ∀ acc : List Int, (dl n acc).length ≤ n + acc.length ∧ acc.length ≤ (dl n acc).length := by
  induction n using Nat.strongRecOn with
  | _ n ih =>
    intro acc
    rw [dl]
    split
    · omega
    · have := ih (n / 10) (by omega) ((48 + (n % 10 : Nat) : Int) :: acc)
      simp only [List.length_cons] at this
      omega
def digs (n : Nat) : ByteArray := strOfNums (dl (n / 10) [(48 + (n % 10 : Nat) : Int)])
theorem digs_size (n : Nat) : (digs n).size ≤ n + 1 := by
  unfold digs
  rw [strOfNums_size]
  have := (dl_len (n / 10) [(48 + (n % 10 : Nat) : Int)]).1
  simp only [List.length_singleton] at this
  omega
theorem u64w {n : Int} (h : 0 ≤ n ∧ n < 18446744073709551616) : IntKind.u64.wrap n = n := by rw [IntKind.wrap_u64]; omega
theorem u64n (n : Nat) (h : n ≤ 50000) : IntKind.u64.wrap (n : Int) = (n : Int) := u64w (by omega)
theorem digs_l (n : Nat) : ∀ (acc : List Int) (k : Nat), n < k → n + acc.length ≤ 100000 → spec_Digits.l0 k (n : Int) acc = some (strOfNums (dl n acc)) := by
  induction n using Nat.strongRecOn with
  | _ n ih =>
    intro acc k hk hs
    obtain ⟨k, rfl⟩ : ∃ m, k = m + 1 := ⟨k - 1, by omega⟩
    rw [spec_Digits.l0, dl]
    by_cases h : n = 0
    · subst h; simp
    · rw [if_pos (by omega), dif_neg h]
      have e1 : (IntKind.u64.wrap (48 + Int.tmod (n : Int) 10)) % 256 = (48 + (n % 10 : Nat) : Int) := by
        rw [Int.tmod_eq_emod_of_nonneg (by omega), u64w (by omega)]; omega
      have e2 : IntKind.u64.wrap (Int.tdiv (n : Int) 10) = ((n / 10 : Nat) : Int) := by
        rw [Int.tdiv_eq_ediv_of_nonneg (by omega), u64w (by omega)]; omega
      simp only [Option.bind_some, e1, e2, List.length_singleton]
      rw [if_pos (by omega)]
      exact ih (n / 10) (by omega) _ k (by omega) (by simp; omega)
theorem digs_f (n : Nat) (h : n ≤ 50000) : spec_Digits.f (n + 1) (n : Int) = some (digs n) := by
  unfold spec_Digits.f digs
  have e1 : (IntKind.u64.wrap (48 + Int.tmod (n : Int) 10)) % 256 = (48 + (n % 10 : Nat) : Int) := by
    rw [Int.tmod_eq_emod_of_nonneg (by omega), u64w (by omega)]; omega
  have e2 : IntKind.u64.wrap (Int.tdiv (n : Int) 10) = ((n / 10 : Nat) : Int) := by
    rw [Int.tdiv_eq_ediv_of_nonneg (by omega), u64w (by omega)]; omega
  rw [e1, e2]
  exact digs_l (n / 10) _ _ (by omega) (by simp; omega)
def CRLF : ByteArray := ⟨#[13, 10]⟩
def blobW (k : Int) (s : ByteArray) : ByteArray := strOfNums [k] ++ digs s.size ++ CRLF ++ s ++ CRLF
theorem blob_w (k : Int) (s : ByteArray) (h : s.size ≤ 50000) : spec_BlobWire.f (s.size + 1) k s = some (blobW k s) := by
  unfold spec_BlobWire.f blobW
  have e : IntKind.u64.wrap (s.size : Int) = (s.size : Int) := u64w (by omega)
  have hd := digs_size s.size
  have h1 : (strOfNums [k]).size = 1 := strOfNums_size _
  have h2 : (⟨#[13, 10]⟩ : ByteArray).size = 2 := rfl
  simp only [Option.bind_some, e, digs_f s.size h]
  rw [if_pos (by omega), if_pos (by rw [ByteArray.size_append]; omega), if_pos (by simp only [ByteArray.size_append, h2]; omega), if_pos (by simp only [ByteArray.size_append, h2]; omega)]
  rfl
theorem wire40 (k : Int) (s : ByteArray) (w0 : World) (h : s.size ≤ 50000) : Calls Try.prog 40 #[.int .u8 k, .string s] w0 fun e w' => e = .returned (.string (blobW k s)) ∧ Below w0.heap.size w0 w' :=
  spec_BlobWire.calls (s.size + 1) k s (blobW k s) w0 (blob_w k s h)
theorem wire42 (n : Nat) (w0 : World) (h : n ≤ 50000) : Calls Try.prog 42 #[.int .u64 (n : Int)] w0 fun e w' => e = .returned (.string (digs n)) ∧ Below w0.heap.size w0 w' :=
  spec_Digits.calls (n + 1) (n : Int) (digs n) w0 (digs_f n h)
theorem blobW_size (k : Int) (s : ByteArray) : (blobW k s).size ≤ 2 * s.size + 6 := by
  have hd := digs_size s.size
  have h1 : (strOfNums [k]).size = 1 := strOfNums_size _
  have h2 : CRLF.size = 2 := rfl
  unfold blobW
  simp only [ByteArray.size_append, h1, h2]
  omega
def kidsW (f : S43 → ByteArray) (l : List S43) (acc : ByteArray) : ByteArray := l.foldl (fun acc k => acc ++ f k) acc
def wireF : Nat → S43 → ByteArray
  | 0, _ => ⟨#[]⟩
  | n + 1, v => if v.f4 = true then strOfNums [v.f0] ++ ⟨#[45, 49]⟩ ++ CRLF
    else if v.f0 = 61 then blobW 61 (v.f2 ++ ⟨#[58]⟩ ++ v.f1)
    else if blobOf v.f0 = true then blobW v.f0 v.f1
    else if (manyOf v.f0).2 = false then strOfNums [v.f0] ++ v.f1 ++ CRLF
    else kidsW (wireF n) v.f3 (strOfNums [v.f0] ++ digs (v.f3.length / (manyOf v.f0).1.toNat) ++ CRLF)
theorem wire_null {n : Nat} {v : S43} (h : v.f4 = true) : wireF (n + 1) v = strOfNums [v.f0] ++ ⟨#[45, 49]⟩ ++ CRLF := by rw [wireF, if_pos h]
theorem wire_eq {n : Nat} {v : S43} (h : v.f4 = false) (h1 : v.f0 = 61) : wireF (n + 1) v = blobW 61 (v.f2 ++ ⟨#[58]⟩ ++ v.f1) := by rw [wireF, if_neg (by simp [h]), if_pos h1]
theorem wire_blob {n : Nat} {v : S43} (h : v.f4 = false) (h1 : v.f0 ≠ 61) (h2 : blobOf v.f0 = true) : wireF (n + 1) v = blobW v.f0 v.f1 := by rw [wireF, if_neg (by simp [h]), if_neg h1, if_pos h2]
theorem wire_line {n : Nat} {v : S43} (h : v.f4 = false) (h1 : v.f0 ≠ 61) (h2 : blobOf v.f0 = false) (h3 : (manyOf v.f0).2 = false) : wireF (n + 1) v = strOfNums [v.f0] ++ v.f1 ++ CRLF := by rw [wireF, if_neg (by simp [h]), if_neg h1, if_neg (by simp [h2]), if_pos h3]
theorem wire_many {n : Nat} {v : S43} (h : v.f4 = false) (h1 : v.f0 ≠ 61) (h2 : blobOf v.f0 = false) (h3 : (manyOf v.f0).2 = true) : wireF (n + 1) v = kidsW (wireF n) v.f3 (strOfNums [v.f0] ++ digs (v.f3.length / (manyOf v.f0).1.toNat) ++ CRLF) := by rw [wireF, if_neg (by simp [h]), if_neg h1, if_neg (by simp [h2]), if_neg (by simp [h3])]
theorem kidsW_succ {f : S43 → ByteArray} {l : List S43} {j : Nat} (acc : ByteArray) (h : j < l.length) : kidsW f (l.take (j + 1)) acc = kidsW f (l.take j) acc ++ f (l.getD j z43) := by
  have hg := get_some z43 h
  obtain ⟨h3, h4⟩ := List.getElem?_eq_some_iff.1 hg
  unfold kidsW
  rw [List.take_succ_eq_append_getElem h3, List.foldl_append, h4]
  rfl
theorem kidsW_grow (f : S43 → ByteArray) : ∀ (l : List S43) (acc : ByteArray), acc.size ≤ (kidsW f l acc).size
  | [], acc => Nat.le_refl _
  | x :: l, acc => by
    have := kidsW_grow f l (acc ++ f x)
    rw [ByteArray.size_append] at this
    show _ ≤ (kidsW f l (acc ++ f x)).size
    omega
theorem kidsW_part (f : S43 → ByteArray) (l : List S43) (acc : ByteArray) (j : Nat) : (kidsW f (l.take j) acc).size ≤ (kidsW f l acc).size := by
  have : kidsW f l acc = kidsW f (l.drop j) (kidsW f (l.take j) acc) := by
    unfold kidsW
    rw [← List.foldl_append, List.take_append_drop]
  rw [this]
  exact kidsW_grow _ _ _
theorem kids_fit {f : S43 → ByteArray} {l : List S43} {j : Nat} {acc : ByteArray} (h : j < l.length) (hs : (kidsW f l acc).size ≤ 1000000000) : (kidsW f (l.take j) acc ++ f (l.getD j z43)).size ≤ 9223372036854775807 := by
  have := kidsW_part f l acc (j + 1)
  rw [kidsW_succ _ h] at this
  exact Nat.le_trans this (Nat.le_trans hs (by decide))
theorem fit3 {a b : ByteArray} (h1 : a.size ≤ 1000) (h2 : b.size ≤ 1000) : (b ++ ⟨#[58]⟩ ++ a).size ≤ 50000 := by
  simp only [ByteArray.size_append]
  have : (⟨#[58]⟩ : ByteArray).size = 1 := rfl
  omega
def good : Nat → S43 → Prop
  | 0, _ => False
  | n + 1, v => v.f5 = false ∧ v.f1.size ≤ 1000 ∧ v.f2.size ≤ 1000 ∧ v.f3.length ≤ 40000 ∧ (wireF (n + 1) v).size ≤ 1000000000 ∧ ∀ k ∈ v.f3, good n k
theorem good_kid {n j : Nat} {v : S43} (h : good (n + 1) v) (hj : j < v.f3.length) : good n (v.f3.getD j z43) := h.2.2.2.2.2 _ (List.mem_of_getElem? (get_some z43 hj))
end Go.Proofs.Ytcjdadfiedoflaa.tells
