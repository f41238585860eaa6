/- What is escaped is taken back, plainly. -/
import Derived.Test.YtbahngfpadjbhaaDoorTf
namespace Go.Proofs.HHW
open Go.RowKit Go.Proofs.YtbahngfpadjbhaaDoorW.PrintWords
set_option linter.unusedVariables false
set_option linter.unusedSimpArgs false
section
variable {p : Nat → Bool} {f h : Nat → Nat}
theorem tkl_ord {b : Int} (L : List Int) (hb : b ≠ 92) (hp : p b.toNat = true) : tk p h (b :: L) = (b :: (tk p h L).1, (tk p h L).2 + 1) := by
  cases L with
  | nil => rw [tk_1, if_neg hb, if_pos hp]; rfl
  | cons d L => rw [tk_2, if_neg hb, if_pos hp]
theorem tkl_stop {b : Int} (L : List Int) (hb : b ≠ 92) (hp : p b.toNat = false) : tk p h (b :: L) = ([], 0) := by
  cases L with
  | nil => rw [tk_1, if_neg hb, if_neg (by rw [hp]; decide)]
  | cons d L => rw [tk_2, if_neg hb, if_neg (by rw [hp]; decide)]
theorem tkl_esc {d : Int} (L : List Int) (hd : h d.toNat ≠ 0) : tk p h (92 :: d :: L) = ((h d.toNat : Int) :: (tk p h L).1, (tk p h L).2 + 2) := by rw [tk_2, if_pos rfl, if_neg hd]
theorem tkl_bs {d : Int} (L : List Int) (hd : h d.toNat = 0) : tk p h (92 :: d :: L) = (92 :: (tk p h (d :: L)).1, (tk p h (d :: L)).2 + 1) := by rw [tk_2, if_pos rfl, if_pos hd]
theorem escd_cons (f : Nat → Nat) (b : Int) (l : List Int) : escd f (b :: l) = (if f b.toNat = 0 then [b] else [92, (f b.toNat : Int)]) ++ escd f l := by unfold escd; rfl
/-- What is escaped is taken back. -/
theorem back {c : Int} {r : List Int} (hA : ∀ b, b < 256 → f b ≠ 0 → h (f b) = b ∧ b ≠ 0) (hC : f 92 ≠ 0 ∨ (h 92 = 0 ∧ ∀ b, b < 256 → f b = 0 → h b = 0)) (hc : c ≠ 92) (hpc : p c.toNat = false) :
    ∀ l : List Int, (∀ x ∈ l, 0 ≤ x ∧ x < 256) → (∀ x ∈ l, f x.toNat = 0 → x ≠ 92 → p x.toNat = true) → (f 92 ≠ 0 ∨ l.getLast? ≠ some 92) → tk p h (escd f l ++ c :: r) = (l, (escd f l).length)
  | [], _, _, _ => tkl_stop r hc hpc
  | b :: l, hb, hB, hlast => by
    have h1 := hb b List.mem_cons_self
    have ih := back (r := r) hA hC hc hpc l (fun x hx => hb x (List.mem_cons_of_mem _ hx)) (fun x hx => hB x (List.mem_cons_of_mem _ hx)) (hlast.imp id (fun h e => h (by
      cases l with
      | nil => simp at e
      | cons y l => rw [List.getLast?_cons_cons]; exact e)))
    rw [escd_cons]
    by_cases hf : f b.toNat = 0
    · rw [if_pos hf]
      by_cases e : b = 92
      · subst e
        have hf' : f 92 = 0 := hf
        obtain ⟨h92, hz⟩ := hC.resolve_left (fun h => h hf')
        have hl := hlast.resolve_left (fun h => h hf')
        cases l with
        | nil => simp at hl
        | cons y l =>
          have hy := hb y (List.mem_cons_of_mem _ List.mem_cons_self)
          have hsplit : ∃ d L, escd f (y :: l) ++ c :: r = d :: L ∧ h d.toNat = 0 := by
            rw [escd_cons]
            by_cases hfy : f y.toNat = 0
            · rw [if_pos hfy]; exact ⟨y, _, rfl, hz _ (by omega) hfy⟩
            · rw [if_neg hfy]; exact ⟨92, _, rfl, h92⟩
          obtain ⟨d, L, hdl, hd0⟩ := hsplit
          rw [List.append_assoc, List.singleton_append, hdl, tkl_bs L hd0, ← hdl, ih]
          simp
      · rw [List.append_assoc, List.singleton_append, tkl_ord _ e (hB b List.mem_cons_self hf e), ih]
        simp
    · rw [if_neg hf]
      obtain ⟨ha, hn⟩ := hA b.toNat (by omega) hf
      have hd : h ((f b.toNat : Int)).toNat = b.toNat := by rw [Int.toNat_natCast]; exact ha
      show tk p h (92 :: (f b.toNat : Int) :: (escd f l ++ c :: r)) = _
      rw [tkl_esc _ (by rw [hd]; exact hn), ih, hd, Int.toNat_of_nonneg h1.1]
      simp
end
theorem back_A : ∀ k, k < 5 → ∀ b, b < 256 → tabF (ints (escS k)) b ≠ 0 → tabH (ints (escS k)) (tabF (ints (escS k)) b) = b ∧ b ≠ 0 := by
  have h : (List.range 5).all (fun k => (List.range 256).all fun b => decide (tabF (ints (escS k)) b ≠ 0 → tabH (ints (escS k)) (tabF (ints (escS k)) b) = b ∧ b ≠ 0)) = true := by decide +kernel
  intro k hk b hb
  exact of_decide_eq_true (List.all_eq_true.1 (List.all_eq_true.1 h k (List.mem_range.2 hk)) b (List.mem_range.2 hb))
theorem back_B : ∀ k, k < 5 → ∀ b, b < 256 → tabF (ints (escS k)) b = 0 → b ≠ 92 → (k < 4 → odd b = false) → sIn (sK k) b = true := by
  have h : (List.range 5).all (fun k => (List.range 256).all fun b => decide (tabF (ints (escS k)) b = 0 → b ≠ 92 → (k < 4 → odd b = false) → sIn (sK k) b = true)) = true := by decide +kernel
  intro k hk b hb
  exact of_decide_eq_true (List.all_eq_true.1 (List.all_eq_true.1 h k (List.mem_range.2 hk)) b (List.mem_range.2 hb))
theorem back_C : ∀ k, k < 4 → tabH (ints (escS k)) 92 = 0 ∧ ∀ b, b < 256 → tabF (ints (escS k)) b = 0 → tabH (ints (escS k)) b = 0 := by
  have h0 : (List.range 4).all (fun k => decide (tabH (ints (escS k)) 92 = 0)) = true := by decide +kernel
  have h : (List.range 4).all (fun k => (List.range 256).all fun b => decide (tabF (ints (escS k)) b = 0 → tabH (ints (escS k)) b = 0)) = true := by decide +kernel
  intro k hk
  exact ⟨of_decide_eq_true (List.all_eq_true.1 h0 k (List.mem_range.2 hk)), fun b hb => of_decide_eq_true (List.all_eq_true.1 (List.all_eq_true.1 h k (List.mem_range.2 hk)) b (List.mem_range.2 hb))⟩
theorem back_D : tabF (ints (escS 4)) 92 ≠ 0 := by decide +kernel
/-- The bytes that may end a token of some kind. -/
def endOk (k c : Nat) : Prop := (k = 4 ∧ c = 34) ∨ (k < 4 ∧ (c = 44 ∨ c = 32 ∨ (c = 61 ∧ k ≠ 0)))
theorem back_E {k c : Nat} (h : endOk k c) : (c : Int) ≠ 92 ∧ sIn (sK k) c = false := by
  rcases h with ⟨rfl, rfl⟩ | ⟨hk, hc⟩
  · exact ⟨by decide, by decide⟩
  · rcases (show k = 0 ∨ k = 1 ∨ k = 2 ∨ k = 3 by omega) with rfl | rfl | rfl | rfl <;> rcases hc with rfl | rfl | ⟨rfl, hc⟩ <;> first | exact ⟨by decide, by decide⟩ | exact absurd rfl hc
/-- A text that a name or a key can be. -/
def keyOk (s : ByteArray) : Prop := s.size ≠ 0 ∧ (∀ x ∈ ints s, odd x.toNat = false) ∧ (ints s).getLast? ≠ some 92
theorem take_back {k c : Nat} {s t : ByteArray} (hk : k < 5) (hc : endOk k c) (hs : k < 4 → keyOk s) : tk (sIn (sK k)) (tabH (ints (escS k))) (escd (tabF (ints (escS k))) (ints s) ++ (c : Int) :: ints t) = (ints s, (escd (tabF (ints (escS k))) (ints s)).length) := by
  have hby : ∀ x ∈ ints s, 0 ≤ x ∧ x < 256 := by have := ints_by s 0; rwa [List.drop_zero] at this
  obtain ⟨e1, e2⟩ := back_E hc
  refine back (back_A k hk) ?_ e1 (by rw [Int.toNat_natCast]; exact e2) _ hby (fun x hx h0 h1 => ?_) ?_
  · by_cases h4 : k < 4
    · exact .inr (back_C k h4)
    · obtain rfl : k = 4 := by omega
      exact .inl back_D
  · have h2 := hby x hx
    exact back_B k hk x.toNat (by omega) h0 (by omega) (fun h4 => (hs h4).2.1 x hx)
  · by_cases h4 : k < 4
    · exact .inr (hs h4).2.2
    · obtain rfl : k = 4 := by omega
      exact .inl back_D
theorem ints_app (a b : ByteArray) : ints (a ++ b) = ints a ++ ints b := by simp [ints]
theorem nums_back (s : ByteArray) : strOfNums (ints s) = s := by
  have h : (strOfNums (ints s)).data.toList = s.data.toList := by
    unfold strOfNums ints
    simp only [List.map_map]
    conv => rhs; rw [← List.map_id s.data.toList]
    apply List.map_congr_left
    intro b _
    simp
  have h2 : (strOfNums (ints s)).data = s.data := Array.toList_inj.1 h
  cases s
  cases hh : strOfNums (ints _)
  rw [hh] at h2
  simp only at h2
  rw [h2]
theorem escd_by {f : Nat → Nat} (hf : ∀ b, f b < 256) {l : List Int} (hl : ∀ x ∈ l, 0 ≤ x ∧ x < 256) : ∀ x ∈ escd f l, 0 ≤ x ∧ x < 256 := by
  intro x hx
  unfold escd at hx
  obtain ⟨b, hb, hx⟩ := List.mem_flatMap.1 hx
  split at hx
  · rw [List.mem_singleton] at hx; rw [hx]; exact hl b hb
  · simp only [List.mem_cons, List.not_mem_nil, or_false] at hx
    rcases hx with rfl | rfl
    · decide
    · have := hf b.toNat; omega
theorem last_bt {s : ByteArray} (h : s.size ≠ 0) : (ints s).getLast? = some (HHW.bt s ((s.size - 1 : Nat) : Int)) := by
  rw [List.getLast?_eq_getElem?, ints_len, ints_bt s (by omega)]
  have := HHW.bt_range s ((s.size - 1 : Nat) : Int)
  rw [Int.toNat_of_nonneg this.1]
end Go.Proofs.HHW
