/- FnPairKeys: what the functions compute, no program in sight. -/
import Derived.Test.YtcjdadfiedoflaaPkFns
namespace Go.Proofs.Ytcjdadfiedoflaa.pkp
open Go.RowKit Go.Proofs.YtcjdadfiedoflaaW.PrintWords PFnPairKeys
theorem w64 {n : Int} (h : -9223372036854775808 ≤ n ∧ n ≤ 9223372036854775807) : wrap64 n = n := by unfold wrap64; omega
theorem fits_l (l : List ByteArray) (n : Nat) (hn : l.length = n) (hb : n ≤ 2147483647) : ∀ d i k : Nat, i ≤ n → n - i = d → d < k → ∃ b, laws_zzFits12.l0 k l n i = some b := by
  intro d
  induction d with
  | zero =>
    intro i k hi hd hk
    obtain ⟨k, rfl⟩ : ∃ m, k = m + 1 := ⟨k - 1, by omega⟩
    refine ⟨true, ?_⟩
    unfold laws_zzFits12.l0
    rw [if_neg (by omega)]
  | succ d ih =>
    intro i k hi hd hk
    obtain ⟨k, rfl⟩ : ∃ m, k = m + 1 := ⟨k - 1, by omega⟩
    unfold laws_zzFits12.l0
    rw [if_pos (by omega), if_pos (by omega), if_pos (by omega)]
    split
    · exact ⟨_, rfl⟩
    · rw [w64 (by omega)]
      exact ih (i + 1) k (by omega) (by omega) (by omega)
theorem fits (l : List ByteArray) : ∃ k b, laws_zzFits12.f k l = some b := by
  unfold laws_zzFits12.f
  by_cases h : (l.length : Int) > 2147483647
  · exact ⟨0, false, by rw [if_pos h]⟩
  · obtain ⟨b, hb⟩ := fits_l l l.length rfl (by omega) _ 0 (l.length - 0 + 1) (by omega) rfl (by omega)
    exact ⟨_, b, by rw [if_neg h]; exact hb⟩
theorem right_l (l : List ByteArray) (n : Nat) (hn : l.length = n) : ∀ d i k : Nat, i ≤ n → i ≤ 50 → 50 - i = d → d + 1 < k → ∃ b, laws_aRight.l0 k ⟨#[]⟩ l n i = some b ∧ (b = true → n ≤ 50) := by
  intro d
  induction d with
  | zero =>
    intro i k hi hj hd hk
    obtain ⟨k, rfl⟩ : ∃ m, k = m + 2 := ⟨k - 2, by omega⟩
    unfold laws_aRight.l0
    by_cases h : (i : Int) < n
    · rw [if_pos h, if_pos (by omega), if_pos (by omega), if_pos (by omega)]
      exact ⟨false, rfl, by simp⟩
    · rw [if_neg h, if_pos (by decide)]
      exact ⟨true, by simp [spec_ASCII.f, spec_ASCII.l0]; intro h; exact absurd h (by decide), by omega⟩
  | succ d ih =>
    intro i k hi hj hd hk
    obtain ⟨k, rfl⟩ : ∃ m, k = m + 2 := ⟨k - 2, by omega⟩
    unfold laws_aRight.l0
    by_cases h : (i : Int) < n
    · rw [if_pos h, if_pos (by omega), if_pos (by omega), if_neg (by omega)]
      split
      · exact ⟨false, rfl, by simp⟩
      · rw [w64 (by omega)]
        exact ih (i + 1) (k + 1) (by omega) (by omega) (by omega) (by omega)
    · rw [if_neg h, if_pos (by decide)]
      exact ⟨true, by simp [spec_ASCII.f, spec_ASCII.l0]; intro h; exact absurd h (by decide), by omega⟩
theorem right (l : List ByteArray) : ∃ k b, laws_aRight.f k ⟨#[]⟩ l = some b ∧ (b = true → l.length ≤ 50) := by
  obtain ⟨b, hb⟩ := right_l l l.length rfl 50 0 52 (by omega) (by omega) rfl (by omega)
  exact ⟨_, b, hb⟩
def P (l : List ByteArray) (m : Nat) : List ByteArray := (List.range m).map fun j => rdOf ByteArray.empty l ((2 * j : Nat) : Int)
theorem P_succ (l : List ByteArray) (m : Nat) : P l (m + 1) = P l m ++ [rdOf ByteArray.empty l ((2 * m : Nat) : Int)] := by simp [P, List.range_succ]
theorem P_len (l : List ByteArray) (m : Nat) : (P l m).length = m := by simp [P]
theorem keys_l (l : List ByteArray) (n h : Nat) (hn : l.length = n) (hh : n / 2 = h) (hs : n ≤ 50) : ∀ d i k : Nat, i ≤ h → h - i = d → d < k →
    radix_keysFromKeyValuePairs.l0 k l (P l i ++ List.replicate d ⟨#[]⟩) h i = some (P l h) := by
  intro d
  induction d with
  | zero =>
    intro i k hi hd hk
    obtain ⟨k, rfl⟩ : ∃ m, k = m + 1 := ⟨k - 1, by omega⟩
    obtain rfl : i = h := by omega
    unfold radix_keysFromKeyValuePairs.l0
    rw [if_neg (by omega)]
    simp
  | succ d ih =>
    intro i k hi hd hk
    obtain ⟨k, rfl⟩ : ∃ m, k = m + 1 := ⟨k - 1, by omega⟩
    unfold radix_keysFromKeyValuePairs.l0
    have e1 : wrap64 ((i : Int) * 2) = ((2 * i : Nat) : Int) := by rw [w64 (by omega)]; omega
    rw [if_pos (by omega), e1, if_pos (by omega), if_pos (by omega), if_pos (by omega), if_pos (by simp [P_len]; omega), w64 (by omega)]
    have := ih (i + 1) k (by omega) (by omega) (by omega)
    rw [P_succ] at this
    rw [← this]
    congr 1
    simp only [Int.toNat_natCast]
    rw [List.set_append, if_neg (by rw [P_len]; omega), P_len, List.replicate_succ]
    simp
theorem keys (l : List ByteArray) (hs : l.length ≤ 50) : radix_DoorPairKeys.f 52 l = some (P l (l.length / 2)) := by
  unfold radix_DoorPairKeys.f radix_keysFromKeyValuePairs.f
  have e1 : wrap64 ((l.length : Int) / 2) = ((l.length / 2 : Nat) : Int) := by rw [w64 (by omega)]; omega
  rw [e1, if_pos (by omega), if_pos (by simp; omega)]
  simp only [Option.bind_some, List.length_replicate, Int.toNat_natCast]
  have := keys_l l l.length (l.length / 2) rfl rfl hs (l.length / 2) 0 52 (by omega) (by omega) (by omega)
  simp [P] at this
  simp [P, this]
theorem spec_l (l : List ByteArray) (n : Nat) (hn : l.length = n) (hs : n ≤ 50) : ∀ d i k : Nat, i ≤ n / 2 → n / 2 - i = d → d < k →
    spec_PairKeys.l0 k l (P l i) ((2 * i : Nat) : Int) = some (P l (n / 2)) := by
  intro d
  induction d with
  | zero =>
    intro i k hi hd hk
    obtain ⟨k, rfl⟩ : ∃ m, k = m + 1 := ⟨k - 1, by omega⟩
    obtain rfl : i = n / 2 := by omega
    unfold spec_PairKeys.l0
    rw [if_neg (by rw [w64 (by omega)]; omega)]
  | succ d ih =>
    intro i k hi hd hk
    obtain ⟨k, rfl⟩ : ∃ m, k = m + 1 := ⟨k - 1, by omega⟩
    unfold spec_PairKeys.l0
    rw [if_pos (by rw [w64 (by omega)]; omega), if_pos (by omega), if_pos (by omega), if_pos (by rw [P_len]; omega), w64 (by omega), ← P_succ]
    have := ih (i + 1) k (by omega) (by omega) (by omega)
    rw [show ((2 * i : Nat) : Int) + 2 = ((2 * (i + 1) : Nat) : Int) by omega]
    exact this
theorem spec (l : List ByteArray) (hs : l.length ≤ 50) : spec_PairKeys.f 52 l = some (P l (l.length / 2)) := by
  have := spec_l l l.length rfl hs (l.length / 2) 0 52 (by omega) (by omega) (by omega)
  simpa [spec_PairKeys.f, P] using this
theorem same_l (l : List ByteArray) (n : Nat) (hn : l.length = n) (hs : n ≤ 50) : ∀ d i k : Nat, i ≤ n → n - i = d → d < k → spec_SameTexts.l0 k l l n i = some true := by
  intro d
  induction d with
  | zero =>
    intro i k hi hd hk
    obtain ⟨k, rfl⟩ : ∃ m, k = m + 1 := ⟨k - 1, by omega⟩
    unfold spec_SameTexts.l0
    rw [if_neg (by omega)]
  | succ d ih =>
    intro i k hi hd hk
    obtain ⟨k, rfl⟩ : ∃ m, k = m + 1 := ⟨k - 1, by omega⟩
    unfold spec_SameTexts.l0
    rw [if_pos (by omega), if_pos (by omega), if_pos (by omega), if_pos (by omega), if_pos rfl, w64 (by omega)]
    exact ih (i + 1) k (by omega) (by omega) (by omega)
theorem same (l : List ByteArray) (hs : l.length ≤ 50) : spec_SameTexts.f 52 l l = some true := by
  unfold spec_SameTexts.f
  rw [if_pos rfl]
  exact same_l l l.length rfl hs l.length 0 52 (by omega) (by omega) (by omega)
theorem all (l : List ByteArray) : ∃ k b1 b2 r, laws_zzFits12.f k l = some b1 ∧ laws_aRight.f k ⟨#[]⟩ l = some b2 ∧
    (b1 = true → b2 = true → l.length ≤ 1000000 ∧ r.length ≤ 1000000 ∧ radix_DoorPairKeys.f k l = some r ∧ spec_PairKeys.f k l = some r ∧ spec_SameTexts.f k r r = some true) := by
  obtain ⟨k1, b1, h1⟩ := fits l
  obtain ⟨k2, b2, h2, h3⟩ := right l
  have m1 : k1 ≤ max (max k1 k2) 52 := by omega
  have m2 : k2 ≤ max (max k1 k2) 52 := by omega
  have m3 : 52 ≤ max (max k1 k2) 52 := by omega
  refine ⟨_, b1, b2, P l (l.length / 2), at_rounds (laws_zzFits12.mono _) m1 h1, at_rounds (laws_aRight.mono _ _) m2 h2, fun _ hb => ?_⟩
  have hs := h3 hb
  have hp : (P l (l.length / 2)).length ≤ 50 := by rw [P_len]; omega
  exact ⟨by omega, by omega, at_rounds (radix_DoorPairKeys.mono _) m3 (keys l hs), at_rounds (spec_PairKeys.mono _) m3 (spec l hs), at_rounds (spec_SameTexts.mono _ _) m3 (same _ hp)⟩
end Go.Proofs.Ytcjdadfiedoflaa.pkp
