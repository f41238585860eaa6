/- UTF-8, plainly: what a text's bytes say from a place on, a lead byte at a time. -/
import Derived.Lib.ValidLaws
import Derived.Test.YtbahngfpadjbhaaDoorSy
namespace Go.Proofs.YtbahngfpadjbhaaDoor.up
open Go.Lib Go.Proofs.HHW
set_option linter.unusedVariables false
set_option linter.unusedSimpArgs false
theorem sz (s : ByteArray) : s.data.toList.length = s.size := Array.length_toList
/-- Valid from place i on. -/
def V (s : ByteArray) (i : Nat) : Bool := validD (s.data.toList.drop i)
/-- A lead byte: how many bytes follow, and between what the first of them must be. -/
def Lead (c : Int) (need : Nat) (lo hi : Int) : Prop :=
  (c < 128 ∧ need = 0) ∨ (194 ≤ c ∧ c ≤ 223 ∧ need = 1 ∧ lo = 128 ∧ hi = 191) ∨
  (224 ≤ c ∧ c ≤ 239 ∧ need = 2 ∧ (c = 224 → lo = 160) ∧ (c ≠ 224 → lo = 128) ∧ (c = 237 → hi = 159) ∧ (c ≠ 237 → hi = 191)) ∨
  (240 ≤ c ∧ c ≤ 244 ∧ need = 3 ∧ (c = 240 → lo = 144) ∧ (c ≠ 240 → lo = 128) ∧ (c = 244 → hi = 143) ∧ (c ≠ 244 → hi = 191))
theorem bt_drop (s : ByteArray) (i k : Nat) (x : Int) (hx : x = ((i + k : Nat) : Int)) : (((s.data.toList.drop i).getD k 0).toNat : Int) = bt s x := by
  subst hx
  unfold bt
  rw [List.getD_eq_getElem?_getD, List.getElem?_drop]
  split
  · rename_i h
    rw [Int.toNat_natCast] at h
    have h2 : i + k < s.data.toList.length := by rw [sz]; exact h
    rw [List.getElem?_eq_getElem h2]
    rfl
  · rename_i h
    rw [Int.toNat_natCast] at h
    have h2 : s.data.toList.length ≤ i + k := by rw [sz]; omega
    rw [List.getElem?_eq_none h2]
    rfl
theorem ne_nil {s : ByteArray} {i : Nat} (h : i < s.size) : s.data.toList.drop i ≠ [] := by
  intro e
  have := congrArg List.length e
  rw [List.length_drop, sz] at this
  simp at this
  omega
theorem V_end (s : ByteArray) (i : Nat) (h : s.size ≤ i) : V s i = true := by
  unfold V
  rw [List.drop_eq_nil_of_le (by rw [sz]; exact h)]
  rfl
theorem V_ascii {s : ByteArray} {i : Nat} (h : i < s.size) (hc : bt s (i : Int) < 128) : V s i = V s (i + 1) := by
  unfold V
  have hd : s.data.toList.drop i = (s.data.toList.drop i).getD 0 0 :: s.data.toList.drop (i + 1) := by
    have h2 : i < s.data.toList.length := by rw [sz]; exact h
    rw [List.getD_eq_getElem?_getD, List.getElem?_drop, Nat.add_zero, List.getElem?_eq_getElem h2]
    exact List.drop_eq_getElem_cons h2
  rw [hd]
  refine validD_cons _ _ ?_
  have := bt_drop s i 0 i rfl
  omega
theorem V_lead {s : ByteArray} {i : Nat} (h : i < s.size) (hc : 128 ≤ bt s (i : Int)) :
    V s i = match checkN (s.size - i) (bt s ((i + 1 : Nat) : Int)).toNat (bt s ((i + 2 : Nat) : Int)).toNat (bt s ((i + 3 : Nat) : Int)).toNat (firstT (bt s (i : Int)).toNat % 8) (accLo (firstT (bt s (i : Int)).toNat / 16)) (accHi (firstT (bt s (i : Int)).toNat / 16)) with
      | none => false
      | some k => V s (i + k) := by
  have e0 := bt_drop s i 0 i rfl
  have e1 := bt_drop s i 1 _ rfl
  have e2 := bt_drop s i 2 _ rfl
  have e3 := bt_drop s i 3 _ rfl
  have hl : (s.data.toList.drop i).length = s.size - i := by rw [List.length_drop, sz]
  unfold V
  rw [validD_lead _ (ne_nil h) (by omega), hl, ← e0, ← e1, ← e2, ← e3]
  simp only [Int.toNat_natCast, List.drop_drop]
  rfl
theorem bad {s : ByteArray} {i : Nat} (h : i < s.size) (hc : ¬ (bt s (i : Int) < 128 ∨ (194 ≤ bt s (i : Int) ∧ bt s (i : Int) ≤ 244))) : V s i = false := by
  have hr := HHW.bt_range s i
  rw [V_lead h (by omega)]
  generalize bt s (i : Int) = c at *
  obtain ⟨n, rfl⟩ := Int.eq_ofNat_of_zero_le hr.1
  have h1 : ¬ n < 128 := by omega
  have h2 : firstT n = 241 := by
    unfold firstT
    split
    · omega
    · split
      · rfl
      · repeat' split
        all_goals omega
  rw [Int.toNat_natCast, h2]
  rfl
/-- All that must follow. -/
def Ok (s : ByteArray) (i need : Nat) (lo hi : Int) : Prop :=
  (1 ≤ need → i + 1 < s.size ∧ lo ≤ bt s ((i + 1 : Nat) : Int) ∧ bt s ((i + 1 : Nat) : Int) ≤ hi) ∧
  (2 ≤ need → i + 2 < s.size ∧ 128 ≤ bt s ((i + 2 : Nat) : Int) ∧ bt s ((i + 2 : Nat) : Int) ≤ 191) ∧
  (3 ≤ need → i + 3 < s.size ∧ 128 ≤ bt s ((i + 3 : Nat) : Int) ∧ bt s ((i + 3 : Nat) : Int) ≤ 191)
theorem step {s : ByteArray} {i need : Nat} {lo hi : Int} (h : i < s.size) (hl : Lead (bt s (i : Int)) need lo hi) : (Ok s i need lo hi → V s i = V s (i + (need + 1))) ∧ (¬ Ok s i need lo hi → V s i = false) := by
  have r0 := HHW.bt_range s i
  have r1 := HHW.bt_range s ((i + 1 : Nat) : Int)
  have r2 := HHW.bt_range s ((i + 2 : Nat) : Int)
  have r3 := HHW.bt_range s ((i + 3 : Nat) : Int)
  unfold Ok
  rcases hl with ⟨hc, rfl⟩ | hl
  · refine ⟨fun _ => V_ascii h hc, fun hn => absurd ⟨by omega, by omega, by omega⟩ hn⟩
  · rw [V_lead h (by omega)]
    generalize bt s (i : Int) = c at *
    generalize bt s ((i + 1 : Nat) : Int) = c1 at *
    generalize bt s ((i + 2 : Nat) : Int) = c2 at *
    generalize bt s ((i + 3 : Nat) : Int) = c3 at *
    obtain ⟨n, rfl⟩ := Int.eq_ofNat_of_zero_le r0.1
    obtain ⟨n1, rfl⟩ := Int.eq_ofNat_of_zero_le r1.1
    obtain ⟨n2, rfl⟩ := Int.eq_ofNat_of_zero_le r2.1
    obtain ⟨n3, rfl⟩ := Int.eq_ofNat_of_zero_le r3.1
    simp only [Int.toNat_natCast]
    have key : ∀ (f l' h' sz : Nat), firstT n = f → f % 8 = sz → accLo (f / 16) = l' → accHi (f / 16) = h' → sz = need + 1 → 1 ≤ need → need ≤ 3 → lo = l' → hi = h' →
        (((1 ≤ need → i + 1 < s.size ∧ lo ≤ (n1 : Int) ∧ (n1 : Int) ≤ hi) ∧ (2 ≤ need → i + 2 < s.size ∧ 128 ≤ (n2 : Int) ∧ (n2 : Int) ≤ 191) ∧ (3 ≤ need → i + 3 < s.size ∧ 128 ≤ (n3 : Int) ∧ (n3 : Int) ≤ 191)) →
          (match checkN (s.size - i) n1 n2 n3 (firstT n % 8) (accLo (firstT n / 16)) (accHi (firstT n / 16)) with | none => false | some k => V s (i + k)) = V s (i + (need + 1))) ∧
        (¬ ((1 ≤ need → i + 1 < s.size ∧ lo ≤ (n1 : Int) ∧ (n1 : Int) ≤ hi) ∧ (2 ≤ need → i + 2 < s.size ∧ 128 ≤ (n2 : Int) ∧ (n2 : Int) ≤ 191) ∧ (3 ≤ need → i + 3 < s.size ∧ 128 ≤ (n3 : Int) ∧ (n3 : Int) ≤ 191)) →
          (match checkN (s.size - i) n1 n2 n3 (firstT n % 8) (accLo (firstT n / 16)) (accHi (firstT n / 16)) with | none => false | some k => V s (i + k)) = false) := by
      intro f l' h' sz e1 e2 e3 e4 e5 e6 e7 e8 e9
      rw [e1, e2, e3, e4]
      subst e8 e9 e5
      unfold checkN
      rcases (show need = 1 ∨ need = 2 ∨ need = 3 by omega) with rfl | rfl | rfl <;> simp only [Nat.reduceAdd, Nat.reduceEqDiff, if_true, if_false]
      all_goals
        constructor
        · intro hok
          rw [if_neg (by omega)]
        · intro hno
          rw [if_pos (by omega)]
    rcases hl with ⟨h1, h2, rfl, rfl, rfl⟩ | ⟨h1, h2, rfl, h3, h4, h5, h6⟩ | ⟨h1, h2, rfl, h3, h4, h5, h6⟩
    · exact key 2 128 191 2 (firstT_C2 (by omega)) rfl rfl rfl rfl (by omega) (by omega) rfl rfl
    · by_cases a1 : n = 224
      · exact key 19 160 191 3 (firstT_E0 a1) rfl rfl rfl rfl (by omega) (by omega) (by omega) (by omega)
      · by_cases a2 : n = 237
        · exact key 35 128 159 3 (firstT_ED a2) rfl rfl rfl rfl (by omega) (by omega) (by omega) (by omega)
        · exact key 3 128 191 3 (firstT_E1 (by omega)) rfl rfl rfl rfl (by omega) (by omega) (by omega) (by omega)
    · by_cases a1 : n = 240
      · exact key 52 144 191 4 (firstT_F0 a1) rfl rfl rfl rfl (by omega) (by omega) (by omega) (by omega)
      · by_cases a2 : n = 244
        · exact key 68 128 143 4 (firstT_F4 a2) rfl rfl rfl rfl (by omega) (by omega) (by omega) (by omega)
        · exact key 4 128 191 4 (firstT_F1 (by omega)) rfl rfl rfl rfl (by omega) (by omega) (by omega) (by omega)
/-- What is known on the way through what follows a lead byte. -/
def Inn (s : ByteArray) (i need : Nat) (lo hi : Int) (j : Nat) (l h : Int) : Prop :=
  1 ≤ j ∧ j ≤ need + 1 ∧ need ≤ 3 ∧ (j = 1 → l = lo ∧ h = hi) ∧ (1 < j → l = 128 ∧ h = 191) ∧
  (1 < j → i + 1 < s.size ∧ lo ≤ bt s ((i + 1 : Nat) : Int) ∧ bt s ((i + 1 : Nat) : Int) ≤ hi) ∧
  (2 < j → i + 2 < s.size ∧ 128 ≤ bt s ((i + 2 : Nat) : Int) ∧ bt s ((i + 2 : Nat) : Int) ≤ 191) ∧
  (3 < j → i + 3 < s.size ∧ 128 ≤ bt s ((i + 3 : Nat) : Int) ∧ bt s ((i + 3 : Nat) : Int) ≤ 191)
theorem Inn.start {s : ByteArray} {i need : Nat} {lo hi : Int} (h : need ≤ 3) : Inn s i need lo hi 1 lo hi := by unfold Inn; omega
theorem Inn.next {s : ByteArray} {i need : Nat} {lo hi : Int} {j : Nat} {l h : Int} (H : Inn s i need lo hi j l h) (hj : j ≤ need) (h1 : i + j < s.size) (h2 : l ≤ bt s ((i + j : Nat) : Int)) (h3 : bt s ((i + j : Nat) : Int) ≤ h) : Inn s i need lo hi (j + 1) 128 191 := by
  unfold Inn at *
  rcases (show j = 1 ∨ j = 2 ∨ j = 3 by omega) with rfl | rfl | rfl <;> omega
theorem Inn.bad {s : ByteArray} {i need : Nat} {lo hi : Int} {j : Nat} {l h : Int} (H : Inn s i need lo hi j l h) (hj : j ≤ need) (hn : ¬ (i + j < s.size ∧ l ≤ bt s ((i + j : Nat) : Int) ∧ bt s ((i + j : Nat) : Int) ≤ h)) : ¬ Ok s i need lo hi := by
  unfold Inn at H
  unfold Ok
  rcases (show j = 1 ∨ j = 2 ∨ j = 3 by omega) with rfl | rfl | rfl <;> omega
theorem Inn.done {s : ByteArray} {i need : Nat} {lo hi : Int} {j : Nat} {l h : Int} (H : Inn s i need lo hi j l h) (hj : need < j) : Ok s i need lo hi ∧ j = need + 1 ∧ (1 ≤ need → i + need < s.size) := by
  unfold Inn at H
  unfold Ok
  rcases (show j = 1 ∨ j = 2 ∨ j = 3 ∨ j = 4 by omega) with rfl | rfl | rfl | rfl
  all_goals
    first
      | (have : need = 0 := by omega
         subst this; omega)
      | (have : need = 1 := by omega
         subst this; omega)
      | (have : need = 2 := by omega
         subst this; omega)
      | (have : need = 3 := by omega
         subst this; omega)
theorem Lead.le {c : Int} {need : Nat} {lo hi : Int} (h : Lead c need lo hi) : need ≤ 3 := by unfold Lead at h; omega
theorem V0 (s : ByteArray) : V s 0 = validD s.data.toList := by unfold V; rw [List.drop_zero]
end Go.Proofs.YtbahngfpadjbhaaDoor.up
