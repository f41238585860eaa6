/- FnRawTells: what the three questions answer of a value on the wire. -/
import Derived.Test.YtcjdadfiedoflaaTp
namespace Go.Proofs.Ytcjdadfiedoflaa.tells
open Go.RowKit Go.Proofs.HHW Go.Proofs.YtcjdadfiedoflaaW.PrintWords PFnRawTells
set_option linter.unusedVariables false
theorem nums1 {k : Int} (h : 0 ≤ k ∧ k ≤ 255) : ints (strOfNums [k]) = [k] := ints_nums (fun x hx => by have : x = k := by simpa using hx
                                                                                                        subst this; exact h)
theorem crlf_ints : ints CRLF = [13, 10] := by decide
theorem null_digit {k x : Int} {r : List Int} (hk : k ≠ 95) (hx : 48 ≤ x ∧ x ≤ 57) : t.nullF (k :: x :: r) = false := by
  unfold t.nullF
  have h1 : ¬ (k :: x :: r = [95, 13, 10]) := by intro e; injection e with e1; exact hk e1
  have h2 : ¬ (((k :: x :: r).take 4).drop 1 = [45, 49, 13]) := by
    intro e
    have : x = 45 := by simp at e; exact e.1
    omega
  rw [decide_eq_false h1, decide_eq_false h2]; simp
theorem stream_digit {k x : Int} {r : List Int} (hx : 48 ≤ x ∧ x ≤ 57) : t.streamF (k :: x :: r) = false := by
  unfold t.streamF
  have h2 : ¬ ((k :: x :: r).drop 1 = [63, 13, 10]) := by
    intro e
    have : x = 63 := by simp at e; exact e.1
    omega
  rw [decide_eq_false h2]; simp
theorem empty_no {k : Int} {l : List Int} (hk : (manyOf k).2 = false) : t.emptyF (k :: l) = false := by
  unfold t.emptyF
  have h : ¬ ((k :: l).getD 0 0 = 42 ∨ (k :: l).getD 0 0 = 37 ∨ (k :: l).getD 0 0 = 126 ∨ (k :: l).getD 0 0 = 124 ∨ (k :: l).getD 0 0 = 62) := by
    unfold manyOf at hk
    simp only [List.getD_cons_zero]
    grind
  rw [decide_eq_false h]; simp
theorem blob_ints {k : Int} (s : ByteArray) (h : 0 ≤ k ∧ k ≤ 255) : ∃ x r, ints (blobW k s) = k :: x :: r ∧ 48 ≤ x ∧ x ≤ 57 := by
  obtain ⟨x, r, e, h1, h2, _⟩ := digs_head s.size
  refine ⟨x, r ++ ints CRLF ++ ints s ++ ints CRLF, ?_, h1, h2⟩
  unfold blobW
  simp only [ints_app, nums1 h, e, List.cons_append, List.nil_append]
theorem three {n : Nat} {v : S43} {m : Int} (hw : weighF (n + 1) v m ≥ 0) (ho : odd43 v = false) (hg : ¬ law.gd v) :
    t.nullF (ints (wireF (n + 1) v)) = (v.f4 || (v.f0 == 95)) ∧ t.emptyF (ints (wireF (n + 1) v)) = ((manyOf v.f0).2 && !v.f4 && ((v.f3.length : Int) == 0)) ∧ t.streamF (ints (wireF (n + 1) v)) = false := by
  obtain ⟨hcc, hbl, he⟩ := weigh_pos hw
  simp only [Bool.or_eq_false_iff] at hcc
  obtain ⟨⟨⟨⟨c1, c2⟩, c3⟩, c4⟩, c5⟩ := hcc
  have hk : 0 ≤ v.f0 ∧ v.f0 ≤ 255 := by
    unfold cc5 manyOf lineOf blobOf at c5
    grind
  cases hf4 : v.f4 with
  | true =>
    rw [wire_null hf4]
    have h36 : v.f0 = 36 ∨ v.f0 = 42 := by unfold cc2 at c2; grind
    have e : ints (strOfNums [v.f0] ++ ⟨#[45, 49]⟩ ++ CRLF) = [v.f0, 45, 49, 13, 10] := by
      rw [ints_app, ints_app, nums1 hk, crlf_ints]; rfl
    rw [e]
    rcases h36 with h | h <;> rw [h]
    · exact ⟨by decide, by rw [show t.emptyF [36, 45, 49, 13, 10] = false by decide]; simp, by decide⟩
    · exact ⟨by decide, by rw [show t.emptyF [42, 45, 49, 13, 10] = false by decide]; simp, by decide⟩
  | false =>
    by_cases h61 : v.f0 = 61
    · rw [wire_eq hf4 h61]
      obtain ⟨x, r, e, hx⟩ := blob_ints (v.f2 ++ ⟨#[58]⟩ ++ v.f1) (k := 61) (by omega)
      rw [e]
      exact ⟨by rw [null_digit (by omega) hx, h61]; rfl, by rw [empty_no (by decide), h61]; rfl, stream_digit hx⟩
    · cases hb1 : blobOf v.f0 with
      | true =>
        rw [wire_blob hf4 h61 hb1]
        obtain ⟨x, r, e, hx⟩ := blob_ints v.f1 hk
        have hm : (manyOf v.f0).2 = false := by unfold blobOf at hb1; unfold manyOf; grind
        have h95 : v.f0 ≠ 95 := by unfold blobOf at hb1; grind
        rw [e]
        exact ⟨by rw [null_digit h95 hx]; simp [h95], by rw [empty_no hm, hm]; rfl, stream_digit hx⟩
      | false =>
        cases hm2 : (manyOf v.f0).2 with
        | false =>
          rw [wire_line hf4 h61 hb1 hm2]
          have hl : lineOf v.f0 = true := by unfold cc5 at c5; grind
          rw [ints_app, ints_app, nums1 hk, crlf_ints]
          refine ⟨?_, by rw [List.singleton_append, List.cons_append, empty_no hm2]; rfl, ?_⟩
          · by_cases h95 : v.f0 = 95
            · have h0 : v.f1.size = 0 := by unfold odd43 at ho; grind
              have : ints v.f1 = [] := List.length_eq_zero_iff.1 (by rw [ints_len]; exact h0)
              rw [this, h95]; decide
            · have hnn : ¬ ([v.f0] ++ ints v.f1 ++ [13, 10] = [95, 13, 10]) := by intro e; simp at e; exact h95 e.1
              have hn2 : ¬ ((([v.f0] ++ ints v.f1 ++ [13, 10]).take 4).drop 1 = [45, 49, 13]) := by
                intro e
                cases hi : ints v.f1 with
                | nil => rw [hi] at e; simp at e
                | cons y l =>
                  cases l with
                  | nil => rw [hi] at e; simp at e
                  | cons z l =>
                    rw [hi] at e
                    simp at e
                    apply hg
                    have hlen := ints_len v.f1
                    rw [hi] at hlen
                    simp only [List.length_cons] at hlen
                    refine ⟨hl, by omega, ?_⟩
                    have e3 : v.f1.extract 0 (Int.toNat 2) = ⟨#[45, 49]⟩ := by
                      have hd : v.f1.data.toList.map (fun b => (b.toNat : Int)) = y :: z :: l := hi
                      have hdl : v.f1.data.toList.take 2 = [45, 49] := by
                        cases hq : v.f1.data.toList with
                        | nil => rw [hq] at hd; simp at hd
                        | cons p q =>
                          cases q with
                          | nil => rw [hq] at hd; simp at hd
                          | cons p2 q =>
                            rw [hq] at hd
                            simp at hd
                            have e1 : p = 45 := by apply UInt8.toNat_inj.1; have := hd.1; have := e.1; show p.toNat = 45; omega
                            have e2 : p2 = 49 := by apply UInt8.toNat_inj.1; have := hd.2.1; have := e.2.1; show p2.toNat = 49; omega
                            rw [e1, e2]; rfl
                      apply ByteArray.ext
                      apply Array.toList_inj.1
                      rw [ByteArray.data_extract, Array.toList_extract]
                      simpa [List.extract_eq_take_drop] using hdl
                    rw [e3]; exact beq_self_eq_true _
              unfold t.nullF
              rw [decide_eq_false hnn, decide_eq_false hn2]
              simp [h95]
          · unfold t.streamF
            have h : ¬ (([v.f0] ++ ints v.f1 ++ [13, 10]).getD 0 0 = 42 ∨ ([v.f0] ++ ints v.f1 ++ [13, 10]).getD 0 0 = 37 ∨ ([v.f0] ++ ints v.f1 ++ [13, 10]).getD 0 0 = 126 ∨ ([v.f0] ++ ints v.f1 ++ [13, 10]).getD 0 0 = 124 ∨ ([v.f0] ++ ints v.f1 ++ [13, 10]).getD 0 0 = 62 ∨ ([v.f0] ++ ints v.f1 ++ [13, 10]).getD 0 0 = 36) := by
              have : ([v.f0] ++ ints v.f1 ++ [13, 10]).getD 0 0 = v.f0 := by simp
              rw [this]
              unfold lineOf at hl
              have hl' := of_decide_eq_true hl
              omega
            rw [decide_eq_false h]; simp
        | true =>
          rw [wire_many hf4 h61 hb1 hm2]
          obtain ⟨r1, h1, h2⟩ := kidsW_ints (wireF n) v.f3 (strOfNums [v.f0] ++ digs (v.f3.length / (manyOf v.f0).1.toNat) ++ CRLF)
          obtain ⟨x, r, e, hx1, hx2, hx3⟩ := digs_head (v.f3.length / (manyOf v.f0).1.toNat)
          have h95 : v.f0 ≠ 95 := by unfold manyOf at hm2; grind
          have e2 : ints (kidsW (wireF n) v.f3 (strOfNums [v.f0] ++ digs (v.f3.length / (manyOf v.f0).1.toNat) ++ CRLF)) = v.f0 :: x :: (r ++ [13, 10] ++ r1) := by
            rw [h1, ints_app, ints_app, nums1 hk, crlf_ints, e]; simp
          rw [e2]
          refine ⟨by rw [null_digit h95 ⟨hx1, hx2⟩]; simp [h95], ?_, stream_digit ⟨hx1, hx2⟩⟩
          by_cases h0 : v.f3 = []
          · have hz : v.f3.length / (manyOf v.f0).1.toNat = 0 := by rw [h0]; simp
            rw [hz, digs_zero] at e
            injection e with ex er
            have h10 : r1 = [] := h2 h0
            rw [← ex, ← er, h10, h0]
            unfold t.emptyF
            have h : ((v.f0 :: 48 :: ([] ++ [13, 10] ++ [])).getD 0 0 = 42 ∨ (v.f0 :: 48 :: ([] ++ [13, 10] ++ [])).getD 0 0 = 37 ∨ (v.f0 :: 48 :: ([] ++ [13, 10] ++ [])).getD 0 0 = 126 ∨ (v.f0 :: 48 :: ([] ++ [13, 10] ++ [])).getD 0 0 = 124 ∨ (v.f0 :: 48 :: ([] ++ [13, 10] ++ ([] : List Int))).getD 0 0 = 62) := by
              simp only [List.getD_cons_zero]
              unfold manyOf at hm2
              grind
            rw [decide_eq_true h]
            simp
          · have hlen : 0 < v.f3.length := List.length_pos_iff.2 h0
            have hmod : (v.f3.length : Int) % (manyOf v.f0).1 = 0 := by unfold cc1 at c1; grind
            have hpos : 0 < v.f3.length / (manyOf v.f0).1.toNat := by
              rcases many_pos hm2 with h | h <;> rw [h] at hmod ⊢
              · show 0 < v.f3.length / 1; omega
              · show 0 < v.f3.length / 2; omega
            have hx49 := hx3 hpos
            have hne : ((v.f3.length : Int) == 0) = false := by rw [beq_eq_false_iff_ne]; omega
            rw [hne]
            unfold t.emptyF
            have h : ¬ ((v.f0 :: x :: (r ++ [13, 10] ++ r1)).drop 1 = [48, 13, 10]) := by
              intro e
              have : x = 48 := by simp at e; exact e.1
              omega
            rw [decide_eq_false h]
            simp
/-- What the walk asks of the plain law. -/
theorem law_plain (v : S43) (hok : ok 20 v) : ∃ (k : Nat) (b bf : Bool), laws_zzFits16.f k v.f0 v.f1 v.f2 v.f3 v.f4 v.f5 v.f6 = some bf ∧ (weighF 20 v 300 ≥ 0 → laws_plainly.f k v.f0 v.f1 v.f2 v.f3 v.f4 v.f5 v.f6 false = some b) ∧
    ((decide (weighF 20 v 300 ≥ 0) && b) = true → ¬ law.gd v → good 20 v ∧ (ints (wireF 20 v)).length ≤ 1000000 ∧ t.nullF (ints (wireF 20 v)) = (v.f4 || (v.f0 == 95)) ∧ t.emptyF (ints (wireF 20 v)) = ((manyOf v.f0).2 && !v.f4 && ((v.f3.length : Int) == 0)) ∧ t.streamF (ints (wireF 20 v)) = false) := by
  obtain ⟨k1, bf, h1⟩ := fits16 v
  by_cases hw : weighF 20 v 300 ≥ 0
  · obtain ⟨k2, b, h2, h3⟩ := claim 20 (by decide) v 300 hok (by decide) hw
    refine ⟨max k1 k2, b, bf, at_rounds (laws_zzFits16.mono _ _ _ _ _ _ _) (Nat.le_max_left k1 k2) h1, fun _ => at_rounds (laws_plainly.mono _ _ _ _ _ _ _ _) (Nat.le_max_right k1 k2) h2, fun hb hg => ?_⟩
    have hb' : b = true := by simp at hb; exact hb.2
    obtain ⟨g1, g2, g3⟩ := h3 hb'
    refine ⟨g1, ?_, three (n := 19) hw g2 hg⟩
    rw [ints_len]
    omega
  · exact ⟨k1, false, bf, h1, fun h => absurd h hw, fun h => by simp at h⟩
end Go.Proofs.Ytcjdadfiedoflaa.tells
