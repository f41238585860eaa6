/- FnRawTells: what the weighing computes. -/
import Derived.Test.YtcjdadfiedoflaaBs
import Derived.Test.YtcjdadfiedoflaaPFnRawTellsx1
import Derived.Test.YtcjdadfiedoflaaPFnRawTellsx2
namespace Go.Proofs.Ytcjdadfiedoflaa.tells
open Go.RowKit Go.Proofs.HHW Go.Proofs.YtcjdadfiedoflaaW.PrintWords PFnRawTells
set_option linter.unusedVariables false
set_option linter.unusedSimpArgs false
def manyOf (k : Int) : Int × Bool := if k = 42 ∨ k = 126 ∨ k = 62 then (1, true) else if k = 37 ∨ k = 124 then (2, true) else (0, false)
def lineOf (k : Int) : Bool := decide (k = 43 ∨ k = 45 ∨ k = 58 ∨ k = 95 ∨ k = 44 ∨ k = 35 ∨ k = 40)
def blobOf (k : Int) : Bool := decide (k = 36 ∨ k = 33 ∨ k = 61 ∨ k = 59)
theorem many_f (k : Int) : spec_Many.f 5 k = some ((manyOf k).1, (manyOf k).2) := by
  unfold spec_Many.f manyOf
  simp only [spec_Many.j0]
  grind
theorem line_f (k : Int) : spec_Line.f k = some (lineOf k) := by
  unfold spec_Line.f lineOf
  grind
theorem blob_f (k : Int) : spec_Blob.f k = some (blobOf k) := by
  unfold spec_Blob.f blobOf
  grind
theorem many_pos {k : Int} (h : (manyOf k).2 = true) : (manyOf k).1 = 1 ∨ (manyOf k).1 = 2 := by
  unfold manyOf at h ⊢
  grind
def M : Nat := 140737488355328
def sizes (v : S43) : Prop := v.f1.size ≤ 140737488355328 ∧ v.f2.size ≤ 140737488355328 ∧ v.f3.length ≤ 140737488355328 ∧ v.f6.length ≤ 140737488355328 ∧ ∀ s ∈ v.f6, s.size ≤ 140737488355328
def ok : Nat → S43 → Prop
  | 0, v => sizes v
  | n + 1, v => sizes v ∧ ∀ k ∈ v.f3, ok n k
theorem ok_sizes {n : Nat} {v : S43} (h : ok n v) : v.f1.size ≤ 140737488355328 ∧ v.f2.size ≤ 140737488355328 ∧ v.f3.length ≤ 140737488355328 ∧ v.f6.length ≤ 140737488355328 := by
  cases n with
  | zero => exact ⟨h.1, h.2.1, h.2.2.1, h.2.2.2.1⟩
  | succ n => exact ⟨h.1.1, h.1.2.1, h.1.2.2.1, h.1.2.2.2.1⟩
theorem ok_chunk {n i : Nat} {v : S43} (h : ok n v) (hi : i < v.f6.length) : (v.f6.getD i ByteArray.empty).size ≤ 140737488355328 := by
  have hm : v.f6.getD i ByteArray.empty ∈ v.f6 := List.mem_of_getElem? (get_some ByteArray.empty hi)
  cases n with
  | zero => exact h.2.2.2.2 _ hm
  | succ n => exact h.1.2.2.2.2 _ hm
theorem ok_kid {n j : Nat} {v : S43} (h : ok n v) (hn : 1 ≤ n) (hj : j < v.f3.length) : ok (n - 1) (v.f3.getD j z43) := by
  cases n with
  | zero => omega
  | succ n => exact h.2 _ (List.mem_of_getElem? (get_some z43 hj))
def cc1 (n : Nat) (m : Int) (v : S43) : Bool := decide ((n : Int) < 1 ∨ m - (1 + v.f1.size + v.f2.size) < 0 ∨ ((manyOf v.f0).2 = false ∧ (v.f3.length : Int) > 0) ∨ ((manyOf v.f0).2 = true ∧ ((v.f1.size : Int) > 0 ∨ (v.f3.length : Int) % (manyOf v.f0).1 ≠ 0)) ∨ (v.f0 ≠ 61 ∧ (v.f2.size : Int) > 0) ∨ (v.f0 = 61 ∧ (v.f2.size : Int) ≠ 3))
def cc2 (v : S43) : Bool := decide (v.f4 = true ∧ ((v.f0 ≠ 36 ∧ v.f0 ≠ 42) ∨ v.f5 = true ∨ (v.f1.size : Int) + v.f3.length > 0))
def cc3 (v : S43) : Bool := decide (v.f5 = true ∧ v.f0 ≠ 36 ∧ v.f0 ≠ 42 ∧ v.f0 ≠ 126 ∧ v.f0 ≠ 37)
def cc4 (v : S43) : Bool := decide (((v.f6.length : Int) > 0 ∧ (v.f0 ≠ 36 ∨ v.f5 = false)) ∨ (v.f0 = 36 ∧ v.f5 = true ∧ (v.f1.size : Int) > 0))
def cc5 (v : S43) : Bool := decide (((manyOf v.f0).2 = false ∧ lineOf v.f0 = false ∧ blobOf v.f0 = false) ∨ v.f0 = 59)
def crlf (x : Int) : Bool := decide (x = 13 ∨ x = 10)
def badLine (v : S43) : Bool := lineOf v.f0 && (ints v.f1).any crlf
def chunksF (l : List ByteArray) (m : Int) : Int := l.foldl (fun m c => wrap64 (m - (1 + c.size))) m
def kidsF (f : S43 → Int → Int) : List S43 → Int → Int
  | [], m => m
  | k :: r, m => if m < 0 then -1 else kidsF f r (f k m)
def weighF : Nat → S43 → Int → Int
  | 0, _, _ => -1
  | n + 1, v, m => if (cc1 (n + 1) m v || cc2 v || cc3 v || cc4 v || cc5 v) = true then -1 else if badLine v = true then -1 else kidsF (weighF n) v.f3 (chunksF v.f6 (m - (1 + v.f1.size + v.f2.size)))
theorem weigh_eq (n : Nat) (v : S43) (m : Int) : weighF n v m = if (cc1 n m v || cc2 v || cc3 v || cc4 v || cc5 v) = true then -1 else if badLine v = true then -1 else kidsF (weighF (n - 1)) v.f3 (chunksF v.f6 (m - (1 + v.f1.size + v.f2.size))) := by
  cases n with
  | zero => simp [weighF, cc1]
  | succ n => rfl
theorem chunks_hi (l : List ByteArray) {m : Int} (h : m ≤ 9223372036854775807) : chunksF l m ≤ 9223372036854775807 := by
  unfold chunksF
  induction l generalizing m with
  | nil => exact h
  | cons x l ih => exact ih (by show wrap64 (m - (1 + x.size)) ≤ _; unfold wrap64; omega)
theorem kids_hi {f : S43 → Int → Int} (hf : ∀ v m, m ≤ 9223372036854775807 → f v m ≤ 9223372036854775807) : ∀ (l : List S43) {m : Int}, m ≤ 9223372036854775807 → kidsF f l m ≤ 9223372036854775807
  | [], m, h => h
  | x :: l, m, h => by
    rw [kidsF]
    split
    · omega
    · exact kids_hi hf l (hf _ _ h)
theorem weigh_hi (n : Nat) : ∀ (v : S43) {m : Int}, m ≤ 9223372036854775807 → weighF n v m ≤ 9223372036854775807 := by
  induction n with
  | zero => intro v m h; simp [weighF]
  | succ n ih =>
    intro v m h
    rw [weighF]
    split
    · omega
    · split
      · omega
      · exact kids_hi (fun v m => ih v (m := m)) _ (chunks_hi _ (by omega))
theorem good_succ {s : ByteArray} {i : Nat} (h : i < s.size) (hg : ((ints s).take i).any crlf = false) (h1 : ¬ HHW.bt s (i : Int) = 13) (h2 : ¬ HHW.bt s (i : Int) = 10) : ((ints s).take (i + 1)).any crlf = false := by
  have hb := ints_bt s h
  have hr := HHW.bt_range s (i : Int)
  rw [Int.toNat_of_nonneg hr.1] at hb
  obtain ⟨h3, h4⟩ := List.getElem?_eq_some_iff.1 hb
  rw [List.take_succ_eq_append_getElem h3, List.any_append, hg, h4]
  simp [crlf, h1, h2]
theorem good_all {s : ByteArray} {i : Nat} (h : s.size ≤ i) (hg : ((ints s).take i).any crlf = false) : (ints s).any crlf = false := by
  rwa [List.take_of_length_le (by rw [ints_len]; exact h)] at hg
theorem bad_at {v : S43} {i : Nat} (h : i < v.f1.size) (hl : lineOf v.f0 = true) (h1 : HHW.bt v.f1 (i : Int) = 13 ∨ HHW.bt v.f1 (i : Int) = 10) : badLine v = true := by
  have hb := ints_bt v.f1 h
  have hr := HHW.bt_range v.f1 (i : Int)
  rw [Int.toNat_of_nonneg hr.1] at hb
  unfold badLine
  rw [hl, Bool.true_and, List.any_eq_true]
  exact ⟨_, List.mem_of_getElem? hb, by simp [crlf, h1]⟩
theorem chunks_succ {l : List ByteArray} {i : Nat} (m : Int) (h : i < l.length) : chunksF (l.take (i + 1)) m = wrap64 (chunksF (l.take i) m - (1 + (l.getD i ByteArray.empty).size)) := by
  have hg := get_some ByteArray.empty h
  obtain ⟨h3, h4⟩ := List.getElem?_eq_some_iff.1 hg
  unfold chunksF
  rw [List.take_succ_eq_append_getElem h3, List.foldl_append, h4]
  rfl
theorem kids_step {f : S43 → Int → Int} {l : List S43} {j : Nat} {m : Int} (h : j < l.length) (hm : ¬ m < 0) : kidsF f (l.drop j) m = kidsF f (l.drop (j + 1)) (f (l.getD j z43) m) := by
  have hg := get_some z43 h
  obtain ⟨h3, h4⟩ := List.getElem?_eq_some_iff.1 hg
  rw [List.drop_eq_getElem_cons h3, h4, kidsF, if_neg hm]
theorem kids_neg {f : S43 → Int → Int} {l : List S43} {j : Nat} {m : Int} (h : j < l.length) (hm : m < 0) : kidsF f (l.drop j) m = -1 := by
  have hg := get_some z43 h
  obtain ⟨h3, h4⟩ := List.getElem?_eq_some_iff.1 hg
  rw [List.drop_eq_getElem_cons h3, h4, kidsF, if_pos hm]
end Go.Proofs.Ytcjdadfiedoflaa.tells
