/- FnRawTells: the plain law. -/
import Derived.Test.YtcjdadfiedoflaaLaw6
namespace Go.Proofs.Ytcjdadfiedoflaa.tells
open Go.RowKit Go.Proofs.HHW Go.Proofs.YtcjdadfiedoflaaW.PrintWords PFnRawTells
set_option linter.unusedVariables false
theorem w64 {n : Int} (h : -9223372036854775808 ≤ n ∧ n ≤ 9223372036854775807) : wrap64 n = n := by unfold wrap64; omega
theorem fits_l (l : List ByteArray) (n : Nat) (hn : l.length = n) (hb : n ≤ 2147483647) : ∀ d i k : Nat, i ≤ n → n - i = d → d < k → ∃ b, laws_zzFits12.l0 k l n i = some b := by
  intro d
  induction d with
  | zero =>
    intro i k hi hd hk
    obtain ⟨k, rfl⟩ : ∃ m, k = m + 1 := ⟨k - 1, by omega⟩
    refine ⟨true, ?_⟩
    unfold laws_zzFits12.l0
    rw [if_neg (by omega)]
  | succ d ih =>
    intro i k hi hd hk
    obtain ⟨k, rfl⟩ : ∃ m, k = m + 1 := ⟨k - 1, by omega⟩
    unfold laws_zzFits12.l0
    rw [if_pos (by omega), if_pos (by omega), if_pos (by omega)]
    split
    · exact ⟨_, rfl⟩
    · rw [w64 (by omega)]
      exact ih (i + 1) k (by omega) (by omega) (by omega)
theorem fits12 (l : List ByteArray) : ∃ k b, laws_zzFits12.f k l = some b := by
  unfold laws_zzFits12.f
  by_cases h : (l.length : Int) > 2147483647
  · exact ⟨0, false, by rw [if_pos h]⟩
  · obtain ⟨b, hb⟩ := fits_l l l.length rfl (by omega) _ 0 (l.length - 0 + 1) (by omega) rfl (by omega)
    exact ⟨_, b, by rw [if_neg h]; exact hb⟩
theorem fits16 (v : S43) : ∃ k b, laws_zzFits16.f k v.f0 v.f1 v.f2 v.f3 v.f4 v.f5 v.f6 = some b := by
  obtain ⟨k, b, h⟩ := fits12 v.f6
  unfold laws_zzFits16.f
  refine ⟨k, ?_⟩
  rw [h]
  split
  · exact ⟨_, rfl⟩
  · split
    · exact ⟨_, rfl⟩
    · split
      · exact ⟨_, rfl⟩
      · cases b <;> simp
theorem plain_j0_true (k : Nat) (v : S43) : laws_plainly.j0 (k + 1) false true v.f0 v.f1 v.f2 v.f3 v.f4 v.f5 v.f6 = some false := by
  unfold laws_plainly.j0; rfl
/-- One step of 'plainly'. -/
def odd43 (v : S43) : Bool := v.f5 || (v.f0 == 95 && decide (0 < v.f1.size)) || (v.f0 == 35 && !(v.f1.toList == [116]) && !(v.f1.toList == [102])) || (v.f0 == 124)
theorem plain_f (k : Nat) (v : S43) : laws_plainly.f (k + 2) v.f0 v.f1 v.f2 v.f3 v.f4 v.f5 v.f6 false = if odd43 v = true then some false else laws_plainly.l0 k false v.f3 (v.f3.length : Int) 0 := by
  simp only [laws_plainly.f, laws_plainly.j0, odd43]
  grind
theorem plain_l0_end (k : Nat) (l : List S43) : laws_plainly.l0 (k + 1) false l (l.length : Int) (l.length : Int) = some true := by
  rw [laws_plainly.l0, if_neg (by omega)]
theorem plain_l0_step (k j : Nat) (l : List S43) (hj : j < l.length) (hs : l.length ≤ 140737488355328) : laws_plainly.l0 (k + 1) false l (l.length : Int) (j : Int) =
    (laws_plainly.f k (l.getD j z43).f0 (l.getD j z43).f1 (l.getD j z43).f2 (l.getD j z43).f3 (l.getD j z43).f4 (l.getD j z43).f5 (l.getD j z43).f6 false).bind fun t => if t = true then laws_plainly.l0 k false l (l.length : Int) ((j + 1 : Nat) : Int) else some false := by
  rw [laws_plainly.l0, if_pos (by omega), if_pos (by omega), if_pos (by omega), w64 (by omega)]
  rfl
theorem weigh_pos {n : Nat} {v : S43} {m : Int} (h : weighF n v m ≥ 0) : (cc1 n m v || cc2 v || cc3 v || cc4 v || cc5 v) = false ∧ badLine v = false ∧ weighF n v m = kidsF (weighF (n - 1)) v.f3 (chunksF v.f6 (m - (1 + v.f1.size + v.f2.size))) := by
  rw [weigh_eq] at h
  by_cases h1 : (cc1 n m v || cc2 v || cc3 v || cc4 v || cc5 v) = true
  · rw [if_pos h1] at h; omega
  · rw [if_neg h1] at h
    by_cases h2 : badLine v = true
    · rw [if_pos h2] at h; omega
    · refine ⟨by simpa using h1, by simpa using h2, ?_⟩
      rw [weigh_eq, if_neg h1, if_neg h2]
/-- What the weighing of the parts shows. -/
theorem kids_all {f : S43 → Int → Int} : ∀ (l : List S43) (m : Int), kidsF f l m ≥ 0 → m ≥ 0
  | [], m, h => h
  | x :: l, m, h => by
    rw [kidsF] at h
    split at h
    · omega
    · omega
/-- The claim on one value. -/
def Cl (n : Nat) : Prop := ∀ (v : S43) (m : Int), ok n v → m ≤ 300 → weighF n v m ≥ 0 → ∃ k b, laws_plainly.f k v.f0 v.f1 v.f2 v.f3 v.f4 v.f5 v.f6 false = some b ∧
  (b = true → good n v ∧ odd43 v = false ∧ ((wireF n v).size : Int) + 1 ≤ 10 * (m - weighF n v m))
theorem kids_cl {n : Nat} (hc : Cl n) (l : List S43) (hs : l.length ≤ 140737488355328) (hok : ∀ x ∈ l, ok n x) : ∀ d j : Nat, j ≤ l.length → l.length - j = d → ∀ m : Int, m ≤ 300 → kidsF (weighF n) (l.drop j) m ≥ 0 →
    ∃ k b, laws_plainly.l0 k false l (l.length : Int) (j : Int) = some b ∧ (b = true → (∀ x ∈ l.drop j, good n x) ∧ ∀ acc : ByteArray, ((kidsW (wireF n) (l.drop j) acc).size : Int) + d ≤ acc.size + 10 * (m - kidsF (weighF n) (l.drop j) m) ∧ (d : Int) ≤ 10 * (m - kidsF (weighF n) (l.drop j) m)) := by
  intro d
  induction d with
  | zero =>
    intro j hj hd m hm h
    obtain rfl : j = l.length := by omega
    refine ⟨1, true, plain_l0_end 0 l, fun _ => ?_⟩
    rw [List.drop_length]
    refine ⟨by simp, fun acc => ?_⟩
    simp [kidsW, kidsF]
  | succ d ih =>
    intro j hj hd m hm h
    have hj' : j < l.length := by omega
    have hm0 := kids_all _ _ h
    rw [kids_step hj' (by omega)] at h
    have hw0 := kids_all _ _ h
    obtain ⟨k1, b1, hp, hg⟩ := hc (l.getD j z43) m (hok _ (List.mem_of_getElem? (get_some z43 hj'))) hm hw0
    have hdrop : l.drop j = l.getD j z43 :: l.drop (j + 1) := by
      have hg := get_some z43 hj'
      obtain ⟨h3, h4⟩ := List.getElem?_eq_some_iff.1 hg
      rw [List.drop_eq_getElem_cons h3, h4]
    cases b1 with
    | false =>
      refine ⟨k1 + 1, false, ?_, by simp⟩
      rw [plain_l0_step k1 j l hj' hs, hp]
      rfl
    | true =>
      obtain ⟨hg1, hg2, hg3⟩ := hg rfl
      obtain ⟨k2, b2, hp2, hg4⟩ := ih (j + 1) (by omega) (by omega) _ (by omega) h
      refine ⟨max k1 k2 + 1, b2, ?_, fun hb => ?_⟩
      · rw [plain_l0_step _ j l hj' hs, at_rounds (laws_plainly.mono _ _ _ _ _ _ _ _) (Nat.le_max_left k1 k2) hp]
        simp only [Option.bind_some, if_true]
        exact at_rounds (fun k => (laws_plainly.mono_l k).2.2 _ _ _ _) (Nat.le_max_right k1 k2) hp2
      · obtain ⟨h5, h6⟩ := hg4 hb
        refine ⟨?_, fun acc => ?_⟩
        · rw [hdrop]
          intro x hx
          rcases List.mem_cons.1 hx with rfl | hx
          · exact hg1
          · exact h5 x hx
        · rw [kids_step hj' (by omega)]
          obtain ⟨h7, h8⟩ := h6 (acc ++ wireF n (l.getD j z43))
          rw [ByteArray.size_append] at h7
          have e : kidsW (wireF n) (l.drop j) acc = kidsW (wireF n) (l.drop (j + 1)) (acc ++ wireF n (l.getD j z43)) := by rw [hdrop]; rfl
          rw [e]
          omega
theorem chunks_none {v : S43} {m : Int} (h : cc4 v = false) (h5 : v.f5 = false) : chunksF v.f6 m = m := by
  have : v.f6 = [] := by
    unfold cc4 at h
    rw [h5] at h
    have h' := of_decide_eq_false h
    cases hv : v.f6 with
    | nil => rfl
    | cons x l => exfalso; apply h'; left; rw [hv]; simp
  rw [this]; rfl
theorem claim : ∀ n, n ≤ 100 → Cl n := by
  intro n
  induction n using Nat.strongRecOn with
  | _ n ih =>
    intro hn v m hok hm h
    obtain ⟨hcc, hbl, he⟩ := weigh_pos h
    simp only [Bool.or_eq_false_iff] at hcc
    obtain ⟨⟨⟨⟨c1, c2⟩, c3⟩, c4⟩, c5⟩ := hcc
    have hn1 : 1 ≤ n := by unfold cc1 at c1; grind
    have hm1 : m - (1 + v.f1.size + v.f2.size) ≥ 0 := by unfold cc1 at c1; grind
    by_cases ho : odd43 v = true
    · exact ⟨2, false, by rw [plain_f 0 v, if_pos ho], by simp⟩
    · have ho' : odd43 v = false := by simpa using ho
      have h5 : v.f5 = false := by unfold odd43 at ho'; grind
      rw [chunks_none c4 h5] at he
      rw [he] at h
      have hlen := (ok_sizes hok).2.2.1
      have hkid : ∀ x ∈ v.f3, ok (n - 1) x := by
        cases n with
        | zero => omega
        | succ n => exact hok.2
      obtain ⟨k, b, hp, hg⟩ := kids_cl (ih (n - 1) (by omega) (by omega)) v.f3 hlen hkid v.f3.length 0 (Nat.zero_le _) (by omega) (m - (1 + v.f1.size + v.f2.size)) (by omega) (by rw [List.drop_zero]; exact h)
      refine ⟨k + 2, b, by rw [plain_f k v, if_neg ho]; exact hp, fun hb => ?_⟩
      obtain ⟨hg1, hg2⟩ := hg hb
      rw [List.drop_zero] at hg1 hg2
      have hk95 : blobOf v.f0 = true ∨ lineOf v.f0 = true ∨ (manyOf v.f0).2 = true := by unfold cc5 at c5; grind
      have hgd := hg2 (strOfNums [v.f0] ++ digs (v.f3.length / (manyOf v.f0).1.toNat) ++ CRLF)
      obtain ⟨hsz, hcnt⟩ := hgd
      have hds := digs_size (v.f3.length / (manyOf v.f0).1.toNat)
      have hdv := Nat.div_le_self v.f3.length (manyOf v.f0).1.toNat
      have h1 : (strOfNums [v.f0]).size = 1 := strOfNums_size _
      have h2 : CRLF.size = 2 := rfl
      have h3 : (⟨#[45, 49]⟩ : ByteArray).size = 2 := rfl
      have h4 : (⟨#[58]⟩ : ByteArray).size = 1 := rfl
      simp only [ByteArray.size_append, h1, h2] at hsz
      have hpos : kidsF (weighF (n - 1)) v.f3 (m - (1 + v.f1.size + v.f2.size)) ≤ m - (1 + v.f1.size + v.f2.size) := by omega
      have hsize : ((wireF n v).size : Int) + 1 ≤ 10 * (m - weighF n v m) := by
        rw [he]
        obtain ⟨n, rfl⟩ : ∃ q, n = q + 1 := ⟨n - 1, by omega⟩
        cases hf4 : v.f4 with
        | true =>
          rw [wire_null hf4]
          simp only [ByteArray.size_append, h1, h2, h3]
          omega
        | false =>
          by_cases h61 : v.f0 = 61
          · rw [wire_eq hf4 h61]
            have := blobW_size 61 (v.f2 ++ ⟨#[58]⟩ ++ v.f1)
            simp only [ByteArray.size_append, h4] at this
            omega
          · cases hb1 : blobOf v.f0 with
            | true =>
              rw [wire_blob hf4 h61 hb1]
              have := blobW_size v.f0 v.f1
              omega
            | false =>
              cases hm2 : (manyOf v.f0).2 with
              | false =>
                rw [wire_line hf4 h61 hb1 hm2]
                simp only [ByteArray.size_append, h1, h2]
                omega
              | true =>
                rw [wire_many hf4 h61 hb1 hm2]
                simp only [Nat.add_sub_cancel] at hsz hcnt hpos ⊢
                omega
      refine ⟨?_, ho', hsize⟩
      obtain ⟨n, rfl⟩ : ∃ q, n = q + 1 := ⟨n - 1, by omega⟩
      rw [he] at hsize
      exact ⟨h5, by omega, by omega, by omega, by omega, hg1⟩
theorem ints_app (a b : ByteArray) : ints (a ++ b) = ints a ++ ints b := by
  unfold ints
  rw [ByteArray.data_append, Array.toList_append, List.map_append]
theorem ints_nums {l : List Int} (h : ∀ x ∈ l, 0 ≤ x ∧ x ≤ 255) : ints (strOfNums l) = l := by
  unfold ints
  rw [strOfNums_data, List.map_map]
  conv => rhs; rw [← List.map_id l]
  apply List.map_congr_left
  intro x hx
  have := h x hx
  simp only [Function.comp, id]
  obtain ⟨a, rfl⟩ := Int.eq_ofNat_of_zero_le this.1
  simp
  omega
theorem dl_head (n : Nat) : ∀ acc : List Int, 0 < n → ∃ x r, dl n acc = x :: r ∧ 49 ≤ x ∧ x ≤ 57 := by
  induction n using Nat.strongRecOn with
  | _ n ih =>
    intro acc hn
    rw [dl, dif_neg (by omega)]
    by_cases h : n / 10 = 0
    · rw [dl, dif_pos h]
      exact ⟨_, _, rfl, by omega, by omega⟩
    · exact ih (n / 10) (by omega) _ (by omega)
theorem dl_range (n : Nat) : ∀ acc : List Int, (∀ x ∈ acc, 0 ≤ x ∧ x ≤ 255) → ∀ x ∈ dl n acc, 0 ≤ x ∧ x ≤ 255 := by
  induction n using Nat.strongRecOn with
  | _ n ih =>
    intro acc h
    rw [dl]
    split
    · exact h
    · refine ih (n / 10) (by omega) _ ?_
      intro x hx
      rcases List.mem_cons.1 hx with rfl | hx
      · omega
      · exact h x hx
theorem digs_ints (n : Nat) : ints (digs n) = dl (n / 10) [(48 + (n % 10 : Nat) : Int)] := by
  unfold digs
  refine ints_nums (dl_range _ _ ?_)
  intro x hx
  have : x = (48 + (n % 10 : Nat) : Int) := by simpa using hx
  omega
theorem digs_head (n : Nat) : ∃ x r, ints (digs n) = x :: r ∧ 48 ≤ x ∧ x ≤ 57 ∧ (0 < n → 49 ≤ x) := by
  rw [digs_ints]
  by_cases h : n / 10 = 0
  · rw [dl, dif_pos h]
    exact ⟨_, _, rfl, by omega, by omega, by omega⟩
  · obtain ⟨x, r, e, h1, h2⟩ := dl_head (n / 10) [(48 + (n % 10 : Nat) : Int)] (by omega)
    exact ⟨x, r, e, by omega, by omega, fun _ => h1⟩
theorem digs_zero : ints (digs 0) = [48] := by rw [digs_ints, dl, dif_pos (by decide)]; rfl
theorem kidsW_ints (f : S43 → ByteArray) : ∀ (l : List S43) (acc : ByteArray), ∃ r, ints (kidsW f l acc) = ints acc ++ r ∧ (l = [] → r = [])
  | [], acc => ⟨[], by simp [kidsW], fun _ => rfl⟩
  | x :: l, acc => by
    obtain ⟨r, h, _⟩ := kidsW_ints f l (acc ++ f x)
    refine ⟨ints (f x) ++ r, ?_, by simp⟩
    show ints (kidsW f l (acc ++ f x)) = _
    rw [h, ints_app, List.append_assoc]
end Go.Proofs.Ytcjdadfiedoflaa.tells
