/- Part of the proof that FnDecodeCRLF answers true at every text, in every world that its card's statement admits; no condition beyond those. -/
import Derived.Test.YtbahngfpadjbhaaGreatDoorR17
import Derived.Test.YtbahngfpadjbhaaGreatDoorR23
import Derived.Test.YtbahngfpadjbhaaGreatDoorR05
import Derived.Test.YtbahngfpadjbhaaGreatDoorR04
import Derived.Test.YtbahngfpadjbhaaGreatDoorR15
set_option linter.unusedVariables false
set_option linter.unusedSimpArgs false
section
namespace Go.Proofs.YtbahngfpadjbhaaGreatDoor.dt
open Go.RowKit Go.Proofs.HHW Go.Proofs.YtbahngfpadjbhaaGreatDoorW.PrintWords Go.Proofs.YtbahngfpadjbhaaGreatDoor.dc
section
variable {X : List Int} {a : Nat}
theorem tkT_sh (k s p : Nat) : tkT k s (X.drop a) p = tkT k s X (a + p) := by
 show (tk (sIn s) (tabH (ints (escS k))) ((X.drop a).drop p)).1 = (tk (sIn s) (tabH (ints (escS k))) (X.drop (a + p))).1
 rw [List.drop_drop]
theorem tkQ_sh (k s p : Nat) : tkQ k s X (a + p) = a + tkQ k s (X.drop a) p := by
 unfold tkQ
 rw [List.drop_drop]
 omega
theorem run_sh (k p : Nat) : run k X (a + p) = a + run k (X.drop a) p := by
 unfold run
 rw [List.drop_drop]
 omega
theorem get_sh (p : Nat) : X.getD (a + p) 0 = (X.drop a).getD p 0 := (drop_getD X a p).symm
theorem le_sh (p : Nat) : (X.length ≤ a + p) ↔ ((X.drop a).length ≤ p) := by rw [List.length_drop]; omega
theorem lt_sh (p : Nat) : (a + p < X.length) ↔ (p < (X.drop a).length) := by rw [List.length_drop]; omega
theorem comma_sh (p : Nat) : comma X (a + p) = (a + (comma (X.drop a) p).1, (comma (X.drop a) p).2) := by
 unfold comma
 have e1 : decide (X.length ≤ a + p + 1) = decide ((X.drop a).length ≤ p + 1) := by rw [Nat.add_assoc, decide_eq_decide]; exact le_sh _
 simp only [lt_sh (X := X) (a := a), get_sh (X := X) (a := a), Nat.add_assoc]
 rw [show decide (X.length ≤ a + (p + 1)) = decide ((X.drop a).length ≤ p + 1) from by rw [decide_eq_decide]; exact le_sh _]
 split <;> rfl
theorem eol_sh (p : Nat) : dc.eol X (a + p) = dc.eol (X.drop a) p := by
 unfold dc.eol
 simp only [le_sh (X := X) (a := a), get_sh (X := X) (a := a), Nat.add_assoc]
theorem skip_sh : ∀ (f p l l' : Nat), (skipP X f (a + p) l).1 = a + (skipP (X.drop a) f p l').1 := by
 intro f
 induction f with
 | zero => intro p l l'; rfl
 | succ f ih =>
  intro p l l'
  rw [skipP, skipP]
  simp only [run_sh (X := X) (a := a), le_sh (X := X) (a := a), get_sh (X := X) (a := a), eol_sh (X := X) (a := a), Nat.add_assoc]
  by_cases h1 : (X.drop a).length ≤ run 0 (X.drop a) p
  ·
   simp only [if_pos h1]
  simp only [if_neg h1]
  by_cases h2 : (X.drop a).getD (run 0 (X.drop a) p) 0 = 35
  ·
   simp only [if_pos h2]
   by_cases h3 : (dc.eol (X.drop a) (run 11 (X.drop a) (run 0 (X.drop a) p))).1 = true
   ·
    simp only [if_pos h3]; exact ih _ _ _
   ·
    simp only [if_neg h3]
  simp only [if_neg h2]
  by_cases h3 : (X.drop a).getD (run 0 (X.drop a) p) 0 = 10 ∨ (X.drop a).getD (run 0 (X.drop a) p) 0 = 13
  ·
   simp only [if_pos h3]
   by_cases h4 : (dc.eol (X.drop a) (run 0 (X.drop a) p)).1 = true
   ·
    simp only [if_pos h4]; exact ih _ _ _
   ·
    simp only [if_neg h4]
  ·
   simp only [if_neg h3]
theorem name_sh (l : Nat) : nameA X a = (a + (nameP (X.drop a) l).p, (nameP (X.drop a) l).sec, (nameP (X.drop a) l).f.isSome) := by
 have e0 := tkT_sh (X := X) (a := a) 0 5 0
 have e1 := tkQ_sh (X := X) (a := a) 0 5 0
 rw [Nat.add_zero] at e0 e1
 unfold nameA nameP
 rw [← e0, e1, comma_sh (X := X) (a := a)]
 by_cases h1 : val (tkT 0 5 (X.drop a) 0) = false
 ·
  simp only [if_pos h1]; rfl
 simp only [if_neg h1]
 by_cases h2 : tkT 0 5 (X.drop a) 0 = []
 ·
  simp only [if_pos h2]; rfl
 simp only [if_neg h2]
 by_cases h3 : (tkT 0 5 (X.drop a) 0).getD 0 0 = 35
 ·
  simp only [if_pos h3]; rfl
 simp only [if_neg h3]
 by_cases h4 : (comma (X.drop a) (tkQ 0 5 (X.drop a) 0)).2 = true
 ·
  simp only [if_pos h4]; rfl
 ·
  simp only [if_neg h4]; rfl
theorem tag_sh (p l l' : Nat) : (tagP X (a + p) l).p = a + (tagP (X.drop a) p l').p ∧ (tagP X (a + p) l).sec = (tagP (X.drop a) p l').sec ∧ (tagP X (a + p) l).f.isSome = (tagP (X.drop a) p l').f.isSome ∧ (tagP X (a + p) l).r.isSome = (tagP (X.drop a) p l').r.isSome := by
 unfold tagP
 simp only [← tkT_sh (X := X) (a := a), tkQ_sh (X := X) (a := a), run_sh (X := X) (a := a), le_sh (X := X) (a := a), lt_sh (X := X) (a := a), get_sh (X := X) (a := a), comma_sh (X := X) (a := a), Nat.add_assoc]
 by_cases h1 : p < (X.drop a).length ∧ (X.drop a).getD p 0 = 32
 ·
  simp only [if_pos h1]; refine ⟨?_, ?_, ?_, ?_⟩ <;> first | rfl | trivial
 simp only [if_neg h1]
 by_cases h2 : val (tkT 1 2 (X.drop a) p) = false
 ·
  simp only [if_pos h2]; refine ⟨?_, ?_, ?_, ?_⟩ <;> first | rfl | trivial
 simp only [if_neg h2]
 by_cases h3 : tkT 1 2 (X.drop a) p = [] ∨ (X.drop a).length ≤ tkQ 1 2 (X.drop a) p ∨ (X.drop a).getD (tkQ 1 2 (X.drop a) p) 0 ≠ 61
 ·
  simp only [if_pos h3]; refine ⟨?_, ?_, ?_, ?_⟩ <;> first | rfl | trivial
 simp only [if_neg h3]
 by_cases h4 : val (tkT 2 6 (X.drop a) (tkQ 1 2 (X.drop a) p + 1)) = false
 ·
  simp only [if_pos h4]; refine ⟨?_, ?_, ?_, ?_⟩ <;> first | rfl | trivial
 simp only [if_neg h4]
 by_cases h5 : tkT 2 6 (X.drop a) (tkQ 1 2 (X.drop a) p + 1) = []
 ·
  simp only [if_pos h5]; refine ⟨?_, ?_, ?_, ?_⟩ <;> first | rfl | trivial
 simp only [if_neg h5]
 by_cases h6 : (X.drop a).length ≤ tkQ 2 6 (X.drop a) (tkQ 1 2 (X.drop a) p + 1)
 ·
  simp only [if_pos h6]; refine ⟨?_, ?_, ?_, ?_⟩ <;> first | rfl | trivial
 simp only [if_neg h6]
 by_cases h7 : (comma (X.drop a) (tkQ 2 6 (X.drop a) (tkQ 1 2 (X.drop a) p + 1))).2 = true
 ·
  simp only [if_pos h7]; refine ⟨?_, ?_, ?_, ?_⟩ <;> first | rfl | trivial
 ·
  simp only [if_neg h7]; refine ⟨?_, ?_, ?_, ?_⟩ <;> first | rfl | trivial
theorem behind_sh (key raw : List Int) (kind : Int) (raw' : List Int) (kind' : Int) (q l l' : Nat) : (behindP X key kind raw (a + q) l).p = a + (behindP (X.drop a) key kind' raw' q l').p ∧ (behindP X key kind raw (a + q) l).sec = (behindP (X.drop a) key kind' raw' q l').sec ∧ (behindP X key kind raw (a + q) l).f.isSome = (behindP (X.drop a) key kind' raw' q l').f.isSome ∧ (behindP X key kind raw (a + q) l).r.isSome = (behindP (X.drop a) key kind' raw' q l').r.isSome := by
 unfold behindP
 simp only [run_sh (X := X) (a := a), le_sh (X := X) (a := a), get_sh (X := X) (a := a), eol_sh (X := X) (a := a), Nat.add_assoc]
 by_cases h1 : (X.drop a).length ≤ q
 ·
  simp only [if_pos h1]; refine ⟨?_, ?_, ?_, ?_⟩ <;> first | rfl | trivial
 simp only [if_neg h1]
 by_cases h2 : (X.drop a).getD q 0 = 44
 ·
  simp only [if_pos h2]; refine ⟨?_, ?_, ?_, ?_⟩ <;> first | rfl | trivial
 simp only [if_neg h2]
 by_cases h3 : sIn 1 ((X.drop a).getD q 0).toNat = false
 ·
  simp only [if_pos h3]; refine ⟨?_, ?_, ?_, ?_⟩ <;> first | rfl | trivial
 simp only [if_neg h3]
 by_cases h4 : (dc.eol (X.drop a) (run 0 (X.drop a) q)).1 = true
 ·
  simp only [if_pos h4]; refine ⟨?_, ?_, ?_, ?_⟩ <;> first | rfl | trivial
 ·
  simp only [if_neg h4]; refine ⟨?_, ?_, ?_, ?_⟩ <;> first | rfl | trivial
theorem field_sh (p l l' : Nat) : (fieldQ X (a + p) l).p = a + (fieldQ (X.drop a) p l').p ∧ (fieldQ X (a + p) l).sec = (fieldQ (X.drop a) p l').sec ∧ (fieldQ X (a + p) l).f.isSome = (fieldQ (X.drop a) p l').f.isSome ∧ (fieldQ X (a + p) l).r.isSome = (fieldQ (X.drop a) p l').r.isSome := by
 unfold fieldQ fieldP
 simp only [← tkT_sh (X := X) (a := a), tkQ_sh (X := X) (a := a), run_sh (X := X) (a := a), le_sh (X := X) (a := a), lt_sh (X := X) (a := a), get_sh (X := X) (a := a), Nat.add_assoc]
 by_cases h1 : val (tkT 3 7 (X.drop a) p) = false
 ·
  simp only [if_pos h1]; refine ⟨?_, ?_, ?_, ?_⟩ <;> first | rfl | trivial
 simp only [if_neg h1]
 by_cases h2 : tkT 3 7 (X.drop a) p = []
 ·
  simp only [if_pos h2]; refine ⟨?_, ?_, ?_, ?_⟩ <;> first | rfl | trivial
 simp only [if_neg h2]
 by_cases h3 : (X.drop a).length ≤ tkQ 3 7 (X.drop a) p ∨ (X.drop a).getD (tkQ 3 7 (X.drop a) p) 0 ≠ 61
 ·
  simp only [if_pos h3]; refine ⟨?_, ?_, ?_, ?_⟩ <;> first | rfl | trivial
 simp only [if_neg h3]
 by_cases h4 : (X.drop a).length ≤ tkQ 3 7 (X.drop a) p + 1
 ·
  simp only [if_pos h4]; refine ⟨?_, ?_, ?_, ?_⟩ <;> first | rfl | trivial
 simp only [if_neg h4]
 by_cases h5 : (X.drop a).getD (tkQ 3 7 (X.drop a) p + 1) 0 = 34
 ·
  simp only [if_pos h5]
  by_cases h6 : val (tkT 4 8 (X.drop a) (tkQ 3 7 (X.drop a) p + 2)) = false
  ·
   simp only [if_pos h6]; refine ⟨?_, ?_, ?_, ?_⟩ <;> first | rfl | trivial
  simp only [if_neg h6]
  by_cases h7 : (X.drop a).length ≤ tkQ 4 8 (X.drop a) (tkQ 3 7 (X.drop a) p + 2)
  ·
   simp only [if_pos h7]; refine ⟨?_, ?_, ?_, ?_⟩ <;> first | rfl | trivial
  simp only [if_neg h7]
  exact behind_sh _ _ _ _ _ _ _ _
 simp only [if_neg h5]
 by_cases h6 : (X.drop a).getD (tkQ 3 7 (X.drop a) p + 1) 0 = 116 ∨ (X.drop a).getD (tkQ 3 7 (X.drop a) p + 1) 0 = 84 ∨ (X.drop a).getD (tkQ 3 7 (X.drop a) p + 1) 0 = 102 ∨ (X.drop a).getD (tkQ 3 7 (X.drop a) p + 1) 0 = 70
 ·
  simp only [if_pos h6]
  exact behind_sh _ _ _ _ _ _ _ _
 simp only [if_neg h6]
 by_cases h7 : (X.drop a).getD (tkQ 3 7 (X.drop a) p + 1) 0 = 45 ∨ (X.drop a).getD (tkQ 3 7 (X.drop a) p + 1) 0 = 46 ∨ (48 ≤ (X.drop a).getD (tkQ 3 7 (X.drop a) p + 1) 0 ∧ (X.drop a).getD (tkQ 3 7 (X.drop a) p + 1) 0 ≤ 57)
 ·
  simp only [if_pos h7]
  exact behind_sh _ _ _ _ _ _ _ _
 ·
  simp only [if_neg h7]; refine ⟨?_, ?_, ?_, ?_⟩ <;> first | rfl | trivial
theorem time_sh (p l l' : Nat) : (timeP X (a + p) l).p = a + (timeP (X.drop a) p l').p ∧ (timeP X (a + p) l).sec = (timeP (X.drop a) p l').sec ∧ (timeP X (a + p) l).f.isSome = (timeP (X.drop a) p l').f.isSome := by
 unfold timeP
 simp only [run_sh (X := X) (a := a), le_sh (X := X) (a := a), get_sh (X := X) (a := a), eol_sh (X := X) (a := a), Nat.add_assoc]
 have e0 : (a + run 10 (X.drop a) p = a + p) ↔ (run 10 (X.drop a) p = p) := by omega
 simp only [e0]
 by_cases h1 : (X.drop a).length ≤ run 10 (X.drop a) p
 ·
  simp only [if_pos h1]; refine ⟨?_, ?_, ?_⟩ <;> first | rfl | trivial
 simp only [if_neg h1]
 by_cases h2 : sIn 1 ((X.drop a).getD (run 10 (X.drop a) p) 0).toNat = false
 ·
  simp only [if_pos h2]; refine ⟨?_, ?_, ?_⟩ <;> first | rfl | trivial
 simp only [if_neg h2]
 by_cases h3 : (dc.eol (X.drop a) (run 0 (X.drop a) (run 10 (X.drop a) p))).1 = true
 ·
  simp only [if_pos h3]; refine ⟨?_, ?_, ?_⟩ <;> first | rfl | trivial
 ·
  simp only [if_neg h3]; refine ⟨?_, ?_, ?_⟩ <;> first | rfl | trivial
end
def tagsA (X : List Int) : Nat → Nat → Int → Nat × Int × Bool
 | 0, p, sec => (p, sec, false)
 | f + 1, p, sec => if sec ≠ 1 then (p, sec, false) else if (tagP X p 0).f.isSome = true then ((tagP X p 0).p, (tagP X p 0).sec, true) else if (tagP X p 0).r.isSome = true then tagsA X f (tagP X p 0).p (tagP X p 0).sec else ((tagP X p 0).p, (tagP X p 0).sec, false)
def fieldsA (X : List Int) : Nat → Nat → Int → Nat × Int × Bool
 | 0, p, sec => (p, sec, false)
 | f + 1, p, sec => if sec ≠ 2 then (p, sec, false) else if (fieldQ X p 0).f.isSome = true then ((fieldQ X p 0).p, (fieldQ X p 0).sec, true) else if (fieldQ X p 0).r.isSome = true then fieldsA X f (fieldQ X p 0).p (fieldQ X p 0).sec else ((fieldQ X p 0).p, (fieldQ X p 0).sec, false)
def tagB (X : List Int) (p : Nat) : Nat × Int × Bool := tagsA X (X.length + 2) (nameA X p).1 1
def fieldB (X : List Int) (p : Nat) : Nat × Int × Bool := fieldsA X (X.length + 2) (tagB X p).1 (tagB X p).2.1
def entA (X : List Int) (p : Nat) : Nat × Int :=
 if (nameA X p).2.2 = true then ((nameA X p).1, (nameA X p).2.1)
 else if (tagB X p).2.2 = true then ((tagB X p).1, (tagB X p).2.1)
 else if (fieldB X p).2.2 = true then ((fieldB X p).1, (fieldB X p).2.1)
 else if (fieldB X p).2.1 = 5 then ((fieldB X p).1, 5)
 else ((timeP X (fieldB X p).1 0).p, (timeP X (fieldB X p).1 0).sec)
theorem some_ne {α : Type} {o : Option α} : o.isSome = true ↔ o ≠ none := by cases o <;> simp
theorem tagsA_eq {X : List Int} {a : Nat} : ∀ (f : Nat) (acc : List (List Int × List Int)) (p : Nat) (sec : Int) (l : Nat), tagsA X f (a + p) sec = (a + (tagsP (X.drop a) f acc p sec l).p, (tagsP (X.drop a) f acc p sec l).sec, (tagsP (X.drop a) f acc p sec l).f.isSome) := by
 intro f
 induction f with
 | zero => intro acc p sec l; rfl
 | succ f ih =>
  intro acc p sec l
  obtain ⟨h1, h2, h3, h4⟩ := tag_sh (X := X) (a := a) p 0 l
  rw [tagsA, tagsP]
  by_cases hs : sec ≠ 1
  ·
   rw [if_pos hs, if_pos hs]; rfl
  rw [if_neg hs, if_neg hs, h1, h2, h3, h4]
  cases hf : (tagP (X.drop a) p l).f with
  | some x => rfl
  | none =>
   cases hr : (tagP (X.drop a) p l).r with
   | none => rfl
   | some kv => exact ih _ _ _ _
theorem fieldsA_eq {X : List Int} {a : Nat} : ∀ (f : Nat) (acc : List (List Int × Int × List Int)) (p : Nat) (sec : Int) (l : Nat), fieldsA X f (a + p) sec = (a + (fieldsP (X.drop a) f acc p sec l).p, (fieldsP (X.drop a) f acc p sec l).sec, (fieldsP (X.drop a) f acc p sec l).f.isSome) := by
 intro f
 induction f with
 | zero => intro acc p sec l; rfl
 | succ f ih =>
  intro acc p sec l
  obtain ⟨h1, h2, h3, h4⟩ := field_sh (X := X) (a := a) p 0 l
  rw [fieldsA, fieldsP]
  by_cases hs : sec ≠ 2
  ·
   rw [if_pos hs, if_pos hs]; rfl
  rw [if_neg hs, if_neg hs, h1, h2, h3, h4]
  cases hf : (fieldQ (X.drop a) p l).f with
  | some x => rfl
  | none =>
   cases hr : (fieldQ (X.drop a) p l).r with
   | none => rfl
   | some kv => exact ih _ _ _ _
theorem tagsA_fuel {X : List Int} : ∀ (f f' p : Nat) (sec : Int), p ≤ X.length → X.length - p < f → X.length - p < f' → tagsA X f p sec = tagsA X f' p sec := by
 intro f
 induction f with
 | zero => intro f' p sec _ h; exact absurd h (Nat.not_lt_zero _)
 | succ f ih =>
  intro f' p sec hp h h'
  obtain ⟨f', rfl⟩ : ∃ k, f' = k + 1 := ⟨f' - 1, by omega⟩
  rw [tagsA, tagsA]
  split
  ·
   rfl
  ·
   split
   ·
    rfl
   ·
    split
    ·
     rename_i hr
     obtain ⟨kv, hkv⟩ := Option.isSome_iff_exists.1 hr
     have h1 := (tag_far hp hkv).1
     have h2 := tag_le (line := 0) hp
     exact ih _ _ _ h2 (by omega) (by omega)
    ·
     rfl
theorem fieldsA_fuel {X : List Int} : ∀ (f f' p : Nat) (sec : Int), p ≤ X.length → X.length - p < f → X.length - p < f' → fieldsA X f p sec = fieldsA X f' p sec := by
 intro f
 induction f with
 | zero => intro f' p sec _ h; exact absurd h (Nat.not_lt_zero _)
 | succ f ih =>
  intro f' p sec hp h h'
  obtain ⟨f', rfl⟩ : ∃ k, f' = k + 1 := ⟨f' - 1, by omega⟩
  rw [fieldsA, fieldsA]
  split
  ·
   rfl
  ·
   split
   ·
    rfl
   ·
    split
    ·
     rename_i hr
     have h1 := (field_far (line := 0) hp).2.2 (some_ne.1 hr)
     have h2 := field_le (line := 0) hp
     exact ih _ _ _ h2 (by omega) (by omega)
    ·
     rfl
theorem entA_eq {X : List Int} {a : Nat} (ha : a ≤ X.length) (l : Nat) : entA X a = (a + (entP (X.drop a) l).p, (entP (X.drop a) l).sec) := by
 have hn := name_sh (X := X) (a := a) l
 have hY : (X.drop a).length = X.length - a := List.length_drop
 have n3 := name_le (X.drop a) l
 obtain ⟨n1, n2⟩ := name_far (X.drop a) l
 unfold entA entP
 simp only
 by_cases h1 : (nameP (X.drop a) l).f ≠ none
 ·
  rw [if_pos (by rw [hn]; exact some_ne.2 h1), if_pos h1, hn]
 rw [if_neg (by rw [hn]; exact fun h => h1 (some_ne.1 h)), if_neg h1]
 have hs1 : (nameP (X.drop a) l).sec = 1 := by
  rcases n2 with ⟨_, _, h⟩ | ⟨h, _⟩
  ·
   exact h
  ·
   exact absurd h h1
 have hT : tagB X a = (a + (tagsP (X.drop a) ((X.drop a).length + 2) [] (nameP (X.drop a) l).p (nameP (X.drop a) l).sec (nameP (X.drop a) l).line).p, (tagsP (X.drop a) ((X.drop a).length + 2) [] (nameP (X.drop a) l).p (nameP (X.drop a) l).sec (nameP (X.drop a) l).line).sec, (tagsP (X.drop a) ((X.drop a).length + 2) [] (nameP (X.drop a) l).p (nameP (X.drop a) l).sec (nameP (X.drop a) l).line).f.isSome) := by
  unfold tagB
  rw [hn, ← tagsA_eq, hs1]
  exact tagsA_fuel _ _ _ _ (by simp only; omega) (by simp only; omega) (by simp only; omega)
 have t4 := tags_le (X.drop a) ((X.drop a).length + 2) [] (nameP (X.drop a) l).p (nameP (X.drop a) l).sec (nameP (X.drop a) l).line n3
 generalize tagsP (X.drop a) ((X.drop a).length + 2) [] (nameP (X.drop a) l).p (nameP (X.drop a) l).sec (nameP (X.drop a) l).line = T at *
 by_cases h2 : T.f ≠ none
 ·
  rw [if_pos (by rw [hT]; exact some_ne.2 h2), if_pos h2, hT]
 rw [if_neg (by rw [hT]; exact fun h => h2 (some_ne.1 h)), if_neg h2]
 have hD : fieldB X a = (a + (fieldsP (X.drop a) ((X.drop a).length + 2) [] T.p T.sec T.line).p, (fieldsP (X.drop a) ((X.drop a).length + 2) [] T.p T.sec T.line).sec, (fieldsP (X.drop a) ((X.drop a).length + 2) [] T.p T.sec T.line).f.isSome) := by
  unfold fieldB
  rw [hT, ← fieldsA_eq]
  exact fieldsA_fuel _ _ _ _ (by simp only; omega) (by simp only; omega) (by simp only; omega)
 generalize fieldsP (X.drop a) ((X.drop a).length + 2) [] T.p T.sec T.line = D at *
 by_cases h3 : D.f ≠ none
 ·
  rw [if_pos (by rw [hD]; exact some_ne.2 h3), if_pos h3, hD]
 rw [if_neg (by rw [hD]; exact fun h => h3 (some_ne.1 h)), if_neg h3]
 by_cases h4 : D.sec = 5
 ·
  rw [if_pos (by rw [hD]; exact h4), if_pos h4, hD]
 rw [if_neg (by rw [hD]; exact h4), if_neg h4, hD]
 obtain ⟨m1, m2, _⟩ := time_sh (X := X) (a := a) D.p 0 D.line
 simp only [m1, m2]
 split <;> rfl
theorem nameA_ok {X : List Int} {p : Nat} (h : (nameA X p).2.2 = false) : (nameA X p).2.1 = 1 ∧ p ≤ (nameA X p).1 ∧ (p ≤ X.length → (nameA X p).1 ≤ X.length) := by
 have hn := name_sh (X := X) (a := p) 0
 have hl := name_le (X.drop p) 0
 rw [List.length_drop] at hl
 obtain ⟨_, n2⟩ := name_far (X.drop p) 0
 rw [hn] at h ⊢
 simp only at h ⊢
 rcases n2 with ⟨_, _, hs⟩ | ⟨h', _⟩
 ·
  exact ⟨hs, by omega, fun h => by omega⟩
 ·
  exact absurd (some_ne.2 h') (by rw [h]; decide)
theorem behind_x {X key raw : List Int} {kind : Int} {q line : Nat} : ((behindP X key kind raw q line).r.isSome || (behindP X key kind raw q line).f.isSome) = true := by
 unfold behindP
 (repeat' split) <;> rfl
theorem field_x {X : List Int} {p : Nat} : ((fieldQ X p 0).r.isSome || (fieldQ X p 0).f.isSome) = true := by
 unfold fieldQ fieldP
 (repeat' split) <;> first | rfl | exact behind_x
theorem field_rf {X : List Int} {p : Nat} (hr : (fieldQ X p 0).r.isSome = false) (hf : (fieldQ X p 0).f.isSome = false) : False := by
 have h := field_x (X := X) (p := p)
 rw [hr, hf] at h
 cases h
def cntA (X : List Int) : Nat → Nat → Int → Nat
 | 0, _, _ => 0
 | f + 1, q, part => if skipA X (nextA X q part) < X.length then 1 + cntA X f (entA X (skipA X (nextA X q part))).1 (entA X (skipA X (nextA X q part))).2 else 0
theorem skip_ln (X : List Int) (f p l l' : Nat) : (skipP X f p l).1 = (skipP X f p l').1 := by
 have h := skip_sh (X := X) (a := 0) f p l l'
 rw [List.drop_zero, Nat.zero_add, Nat.zero_add] at h
 exact h
theorem nextA_le {X : List Int} {q : Nat} {part : Int} (hq : q ≤ X.length) : nextA X q part ≤ X.length := by
 unfold nextA
 split
 ·
  exact hq
 ·
  omega
theorem skipA_le {X : List Int} {m : Nat} (hm : m ≤ X.length) : m ≤ skipA X m ∧ skipA X m ≤ X.length := by
 unfold skipA
 have h := skip_far (X := X.drop m) ((X.drop m).length + 1) 0 0 (Nat.zero_le _)
 rw [List.length_drop] at h
 rw [List.length_drop]
 omega
theorem next_sh {X : List Int} {b p : Nat} {sec : Int} (hs : sec = 5 ∨ sec = 4) (hb : b + p ≤ X.length) (l : Nat) : (nextP (X.drop b) p l sec).1 = X.drop (skipA X (nextA X (b + p) sec)) := by
 have hlen : (X.drop b).length = X.length - b := List.length_drop
 rcases hs with rfl | rfl
 ·
  rw [show nextA X (b + p) 5 = b + p from if_pos rfl]
  unfold nextP skipA
  rw [if_pos rfl]
  have h := skip_sh (X := X.drop b) (a := p) ((X.drop b).length - p + 1) 0 l 0
  simp only [Nat.add_zero, List.drop_drop] at h
  simp only
  rw [h, List.drop_drop, show (X.drop b).length - p + 1 = (X.drop (b + p)).length + 1 by rw [List.length_drop, List.length_drop]; omega, Nat.add_assoc]
 ·
  rw [show nextA X (b + p) 4 = min (run 13 X (b + p) + 1) X.length from if_neg (by decide)]
  have hrest : (restP (X.drop b) p l).1 = X.drop (min (run 13 X (b + p) + 1) X.length) := by
   have hr := run_sh (X := X) (a := b) 13 p
   have hrl := run_le (k := 13) (X := X.drop b) (p := p) (by omega)
   unfold restP
   split
   ·
    rename_i h
    simp only
    rw [List.drop_drop, show min (run 13 X (b + p) + 1) X.length = b + (run 13 (X.drop b) p + 1) by omega]
   ·
    rename_i h
    simp only
    rw [List.drop_drop, show min (run 13 X (b + p) + 1) X.length = b + run 13 (X.drop b) p by omega]
  unfold nextP skipA
  rw [if_neg (by decide)]
  simp only
  rw [hrest, List.drop_drop, skip_ln _ _ _ _ 0, Nat.sub_zero]
theorem cnt_eq {X : List Int} : ∀ (f b p l : Nat) (sec : Int), b + p ≤ X.length → (sec = 5 ∨ sec = 4) → (ents f (X.drop b) p l sec).length = cntA X f (b + p) sec := by
 intro f
 induction f with
 | zero => intro b p l sec _ _; rfl
 | succ f ih =>
  intro b p l sec hb hs
  have hn := next_sh hs hb l
  have hle := (skipA_le (nextA_le (part := sec) hb)).2
  rw [ents, cntA]
  by_cases h : skipA X (nextA X (b + p) sec) < X.length
  ·
   have hne : (nextP (X.drop b) p l sec).1 ≠ [] := by
    rw [hn]
    intro h0
    have := List.drop_eq_nil_iff.1 h0
    omega
   rw [if_neg hne, if_pos h, List.length_cons, hn]
   obtain ⟨e1, _, e3⟩ := ent_far (X.drop (skipA X (nextA X (b + p) sec))) (nextP (X.drop b) p l sec).2
   rw [List.length_drop] at e1
   rw [ih _ _ _ _ (by omega) (e3.imp (fun h => h.1) id), entA_eq hle (nextP (X.drop b) p l sec).2]
   exact Nat.add_comm _ _
  ·
   rw [if_pos (by rw [hn]; exact List.drop_eq_nil_of_le (by omega)), if_neg h]
   rfl
theorem all_cnt (X : List Int) : (all X).length = cntA X (2 * X.length + 2) 0 5 := by
 have h := cnt_eq (X := X) (2 * X.length + 2) 0 0 1 5 (Nat.zero_le _) (.inl rfl)
 rw [List.drop_zero] at h
 exact h
theorem entA_far {X : List Int} {q : Nat} {part : Int} (hq : q ≤ X.length) (hs : part = 5 ∨ part = 4) (h : skipA X (nextA X q part) < X.length) : (entA X (skipA X (nextA X q part))).1 ≤ X.length ∧ ((entA X (skipA X (nextA X q part))).2 = 5 ∨ (entA X (skipA X (nextA X q part))).2 = 4) ∧ msr X (entA X (skipA X (nextA X q part))).1 (entA X (skipA X (nextA X q part))).2 < msr X q part := by
 have hn := next_sh (X := X) (b := q) (p := 0) hs (by omega) 0
 rw [Nat.add_zero] at hn
 have hne : (nextP (X.drop q) 0 0 part).1 ≠ [] := by
  rw [hn]
  intro h0
  have := List.drop_eq_nil_iff.1 h0
  omega
 have hm := msr_lt (line := 0) (Nat.zero_le (X.drop q).length) hs hne
 obtain ⟨e1, _, e3⟩ := ent_far (nextP (X.drop q) 0 0 part).1 (nextP (X.drop q) 0 0 part).2
 rw [hn] at hm e1 e3
 rw [entA_eq (by omega) (nextP (X.drop q) 0 0 part).2]
 unfold msr at hm ⊢
 rw [List.length_drop] at hm e1
 rw [List.length_drop] at hm
 simp only
 refine ⟨by omega, e3.imp (fun h => h.1) id, ?_⟩
 rw [show X.length - (skipA X (nextA X q part) + (entP (X.drop (skipA X (nextA X q part))) (nextP (X.drop q) 0 0 part).2).p) = X.length - skipA X (nextA X q part) - (entP (X.drop (skipA X (nextA X q part))) (nextP (X.drop q) 0 0 part).2).p by omega]
 rw [Nat.sub_zero] at hm
 exact hm
end Go.Proofs.YtbahngfpadjbhaaGreatDoor.dt
end
section
namespace Go.Proofs.YtbahngfpadjbhaaGreatDoor.dec
open Go.Proofs.YtbahngfpadjbhaaGreatDoor.fx
open Go.RowKit Go.Proofs.HHW Go.Proofs.YtbahngfpadjbhaaGreatDoorW.PrintWords Go.Proofs.YtbahngfpadjbhaaGreatDoor.dt
namespace jg
theorem litE (w : World) (x1 x4 : ByteArray) (A2 A3 : Option Addr) (n2 c2 n3 c3 : Nat) (b5 b6 b9 : Bool) (k7 k8 k10 : Int) : (Instr.buildSlice 24 1 #[(0, .agg #[.string x1, .slice A2 n2 c2, .slice A3 n3 c3, .string x4, .bool b5, .bool b6, .int .i64 k7, .int .i64 k8, .bool b9, .int .i64 k10])]).run Tryz.prog w = .ok (.slice (some ⟨w.heap.size, 0, none⟩) 1 1) (w.alloc (.cells #[.string x1, .slice A2 n2 c2, .slice A3 n3 c3, .string x4, .bool b5, .bool b6, .int .i64 k7, .int .i64 k8, .bool b9, .int .i64 k10] 40 (0, 0))) := by kernel_rfl
set_option maxHeartbeats 2000000 in
theorem entry_ (wb w0 : World) (g : Nat) (s : ByteArray) (q : Nat) (fr : Nat) (L0 : dc.Bk) (hs : s.size ≤ 100000) (hq : q ≤ s.size) (hfr : fr ≤ 100000) (H : HH wb.heap.size wb w0 ((g, Obj.cells #[.string s, .int .i64 ((q : Nat) : Int), .int .i64 0, .int .i64 ((fr : Nat) : Int)] 73 (0, 0)) :: L0)) : Calls Tryz.prog 16 #[.pointer (some ⟨g, 0, none⟩)] w0 fun e w' => ∃ (x1 : ByteArray) (A2 : Option Addr) (n2 c2 : Nat) (A3 : Option Addr) (n3 c3 : Nat) (x4 : ByteArray) (b5 b6 : Bool) (k7 k8 : Int) (b9 : Bool) (k10 : Int), e = .returned (.agg #[.string x1, .slice A2 n2 c2, .slice A3 n3 c3, .string x4, .bool b5, .bool b6, .int .i64 k7, .int .i64 k8, .bool b9, .int .i64 k10]) ∧ HH wb.heap.size wb w' ((g, Obj.cells #[.string s, .int .i64 (((entA (ints s) q).1 : Nat) : Int), .int .i64 ((entA (ints s) q).2), .int .i64 ((fr : Nat) : Int)] 73 (0, 0)) :: L0) := by
 refine c_enter (args := [.pointer (some ⟨g, 0, none⟩)]) (k := 74) Tryz.func16 rfl rfl rfl ?_
 refine pS (pG ?_);intro a S
 refine l_alloc (cs := #[.string ⟨#[]⟩, .slice none 0 0, .slice none 0 0, .string ⟨#[]⟩, .bool false, .bool false, .int .i64 0, .int .i64 0, .bool false, .int .i64 0]) S H rfl (fun w => al zv40) rfl rfl rfl ?_; clear S a H; intro ge w a H S
 revert a;refine pL (pT (pS (pS (pG (pM 1 rfl ?_)))))
 replace H := HH.pull1 H
 have hcon := dec.je.name_ _ _ _ _ _ _ _ hs hq hfr H
 refine pC Tryz.func32 hcon ?_
 rintro e w ⟨nm, sm, l1, k1, rfl, hH⟩
 refine ⟨_, rfl, ?_⟩
 clear H hcon; have H := hH; clear hH
 refine pM 4 rfl (pA fa40_0 rfl rfl rfl (pE H rfl rfl rfl (.there .here) (by first | decide | (simp [spl_size]; done) | simp [Value.cells]) sz9 ?_));clear H;intro w H
 refine pA fa40_5 rfl rfl rfl ?_;intro a S
 refine l_stores (vs := [.bool (nameA (ints s) q).2.2, .int .i64 l1, .int .i64 k1, .bool false]) S H rfl rfl rfl sz38 (.there .here) (by simp) (fun v hv => by simp only [List.mem_cons, List.not_mem_nil, or_false] at hv; rcases hv with rfl | rfl | rfl | rfl <;> rfl) rfl rfl ?_; clear S a H; intro w a H S
 revert a;refine pL (pT (pS (pG (pA fa40_5 rfl rfl rfl (pA fa38_0 rfl rfl rfl (pD H rfl rfl m1 rfl ag4 rfl (pL (pT (zc rfl (fun bc3 => ?_) (fun bc3 => ?_))))))))))
 ·
  have c3 := bc3
  refine pS (pG (pR H (r_loadn (m := 10) (vs := [.string nm, .slice none 0 0, .slice none 0 0, .string ⟨#[]⟩, .bool false, .bool (nameA (ints s) q).2.2, .int .i64 l1, .int .i64 k1, .bool false, .int .i64 0]) rfl m1 ag40 sz40 rfl rfl) rfl (pF [.string nm, .slice none 0 0, .slice none 0 0, .string ⟨#[]⟩, .bool false, .bool (nameA (ints s) q).2.2, .int .i64 l1, .int .i64 k1, .bool false, .int .i64 0] H rfl rfl sz40 (.there .here) ?_)));clear H;intro w H
  refine pL (pT (pZ (pU ?_)))
  have hR : (entA (ints s) q) = ((nameA (ints s) q).1, (nameA (ints s) q).2.1) := if_pos bc3
  intro a S
  rw [hR]
  exact r_retc1 S rfl rfl (lva (cs := [.string nm, .slice none 0 0, .slice none 0 0, .string ⟨#[]⟩, .bool false, .bool (nameA (ints s) q).2.2, .int .i64 l1, .int .i64 k1, .bool false, .int .i64 0]) ag40 sz40 rfl H m1) ⟨_, _, _, _, _, _, _, _, _, _, _, _, _, _, rfl, (H.sub (.cons_cons _ (.cons _ (.refl _))))⟩
 have c3 := bc3
 have hnf : (nameA (ints s) q).2.2 = false := by simpa using bc3
 obtain ⟨hn1, hn2, hn3⟩ := nameA_ok (X := (ints s)) (p := q) hnf
 have hil := ints_len s
 rw [hn1] at H
 refine pK (pT ?_);intro a S
 refine c_cut (fun a w => ∃ (tv : Value) (xs : List Value) (n : Nat) (owT : dc.Bk) (q' : Nat), SL a 75 [] [(0, .pointer (some ⟨g, 0, none⟩)), (2, .pointer (some ⟨ge, 0, none⟩))] ∧ HH wb.heap.size wb w ((g, Obj.cells #[.string s, .int .i64 ((q' : Nat) : Int), .int .i64 2, .int .i64 ((fr : Nat) : Int)] 73 (0, 0)) :: (ge, Obj.cells #[.string nm, tv, .slice none 0 0, .string ⟨#[]⟩, .bool false, .bool (nameA (ints s) q).2.2, .int .i64 l1, .int .i64 k1, .bool false, .int .i64 0] 40 (0, 0)) :: (owT ++ L0)) ∧ Own 66 2 tv n xs owT ∧ q' ≤ s.size ∧ (tagB (ints s) q) = (q', 2, false)) ?_ ?_
 ·
  clear S a H; rintro a w ⟨tv, xsT, nT, owT, q1, S, H, hoT, hq1, hTB⟩
  obtain ⟨At, ct, rfl, _⟩ := hoT.slice
  refine c_cut (fun a w => ∃ (fv : Value) (xs : List Value) (n : Nat) (owF : dc.Bk) (q' : Nat) (sec : Int), SL a 75 [] [(0, .pointer (some ⟨g, 0, none⟩)), (2, .pointer (some ⟨ge, 0, none⟩))] ∧ HH wb.heap.size wb w ((g, Obj.cells #[.string s, .int .i64 ((q' : Nat) : Int), .int .i64 sec, .int .i64 ((fr : Nat) : Int)] 73 (0, 0)) :: (ge, Obj.cells #[.string nm, .slice At nT ct, fv, .string ⟨#[]⟩, .bool false, .bool (nameA (ints s) q).2.2, .int .i64 l1, .int .i64 k1, .bool false, .int .i64 0] 40 (0, 0)) :: (owF ++ (owT ++ L0))) ∧ Own 71 3 fv n xs owF ∧ q' ≤ s.size ∧ (sec = 3 ∨ sec = 5) ∧ (fieldB (ints s) q) = (q', sec, false)) ?_ ?_
  ·
   clear S a H; rintro a w ⟨fv, xsF, n, owF, q', sec, S, H, hoF, hq2, hsc, hFB⟩
   obtain ⟨Af, cf, rfl, _⟩ := hoF.slice
   rcases hsc with rfl | rfl
   ·
    revert a;refine pS (pS (pG (pM 1 rfl ?_)))
    have hcon := dec.je.time_ _ _ _ _ _ _ _ hs (by omega) hfr H
    refine pC Tryz.func35 hcon ?_
    rintro e w ⟨tm, st_, l2, k2, rfl, hH⟩
    refine ⟨_, rfl, ?_⟩
    clear H hcon; have H := hH; clear hH
    refine pM 4 rfl (pA fa40_3 rfl rfl rfl (pE H rfl rfl rfl (.there .here) (by first | decide | (simp [spl_size]; done) | simp [Value.cells]) sz9 ?_));clear H;intro w H
    refine pA fa40_4 rfl rfl rfl (pE H rfl rfl rfl (.there .here) (by first | decide | (simp [spl_size]; done) | simp [Value.cells]) sz4 ?_);clear H;intro w H
    refine pA fa40_5 rfl rfl rfl ?_;intro a S
    refine l_stores (vs := [.bool (timeP (ints s) q' 0).f.isSome, .int .i64 l2, .int .i64 k2, .bool false]) S H rfl rfl rfl sz38 (.there .here) (by simp) (fun v hv => by simp only [List.mem_cons, List.not_mem_nil, or_false] at hv; rcases hv with rfl | rfl | rfl | rfl <;> rfl) rfl rfl ?_; clear S a H; intro w a H S
    revert a;refine pL (pT (pS (pG (pA fa40_5 rfl rfl rfl (pA fa38_0 rfl rfl rfl (pD H rfl rfl m1 rfl ag4 rfl (pL (pT (zc rfl (fun bc6 => ?_) (fun bc6 => ?_))))))))))
    ·
     have c6 := bc6
     refine pG (pA fa40_6 rfl rfl rfl (pE H rfl rfl rfl (.there .here) (by first | decide | (simp [spl_size]; done) | simp [Value.cells]) sz3 ?_));clear H;intro w H
     refine pL (pT (pS (pG (pR H (r_loadn (m := 10) (vs := [.string nm, .slice At nT ct, .slice Af n cf, .string tm, .bool st_, .bool (timeP (ints s) q' 0).f.isSome, .int .i64 l2, .int .i64 k2, .bool false, .int .i64 3]) rfl m1 ag40 sz40 rfl rfl) rfl (pF [.string nm, .slice At nT ct, .slice Af n cf, .string tm, .bool st_, .bool (timeP (ints s) q' 0).f.isSome, .int .i64 l2, .int .i64 k2, .bool false, .int .i64 3] H rfl rfl sz40 (.there .here) ?_)))));clear H;intro w H
     refine pL (pT (pZ ?_))
     have hR : (entA (ints s) q) = ((timeP (ints s) q' 0).p, (timeP (ints s) q' 0).sec) := ((if_neg (by rw [hnf]; decide)).trans ((if_neg (by rw [hTB]; simp)).trans ((if_neg (by rw [hFB]; simp)).trans ((if_neg (by rw [hFB]; simp)))))).trans (by rw [hFB])
     intro a S
     rw [hR]
     exact r_retc1 S rfl rfl (lva (cs := [.string nm, .slice At nT ct, .slice Af n cf, .string tm, .bool st_, .bool (timeP (ints s) q' 0).f.isSome, .int .i64 l2, .int .i64 k2, .bool false, .int .i64 3]) ag40 sz40 rfl H m1) ⟨_, _, _, _, _, _, _, _, _, _, _, _, _, _, rfl, (H.sub (.cons_cons _ (.cons _ (((List.Sublist.refl _).trans (List.sublist_append_right owT _)).trans (List.sublist_append_right owF _)))))⟩
    have c6 := bc6
    refine pK (pT (pS (pG (pR H (r_loadn (m := 10) (vs := [.string nm, .slice At nT ct, .slice Af n cf, .string tm, .bool st_, .bool (timeP (ints s) q' 0).f.isSome, .int .i64 l2, .int .i64 k2, .bool false, .int .i64 0]) rfl m1 ag40 sz40 rfl rfl) rfl (pF [.string nm, .slice At nT ct, .slice Af n cf, .string tm, .bool st_, .bool (timeP (ints s) q' 0).f.isSome, .int .i64 l2, .int .i64 k2, .bool false, .int .i64 0] H rfl rfl sz40 (.there .here) ?_)))));clear H;intro w H
    refine pL (pT (pZ ?_))
    have hR : (entA (ints s) q) = ((timeP (ints s) q' 0).p, (timeP (ints s) q' 0).sec) := ((if_neg (by rw [hnf]; decide)).trans ((if_neg (by rw [hTB]; simp)).trans ((if_neg (by rw [hFB]; simp)).trans ((if_neg (by rw [hFB]; simp)))))).trans (by rw [hFB])
    intro a S
    rw [hR]
    exact r_retc1 S rfl rfl (lva (cs := [.string nm, .slice At nT ct, .slice Af n cf, .string tm, .bool st_, .bool (timeP (ints s) q' 0).f.isSome, .int .i64 l2, .int .i64 k2, .bool false, .int .i64 0]) ag40 sz40 rfl H m1) ⟨_, _, _, _, _, _, _, _, _, _, _, _, _, _, rfl, (H.sub (.cons_cons _ (.cons _ (((List.Sublist.refl _).trans (List.sublist_append_right owT _)).trans (List.sublist_append_right owF _)))))⟩
   revert a;refine pS (pS (pG (pM 1 rfl ?_)))
   have hcon := dec.je.time5 _ _ _ _ _ _ _ hs (by omega) hfr H
   refine pC Tryz.func35 hcon ?_
   rintro e w ⟨rfl, hH⟩
   refine ⟨_, rfl, ?_⟩
   clear H hcon; have H := hH; clear hH
   refine pM 4 rfl (pA fa40_3 rfl rfl rfl (pE H rfl rfl rfl (.there .here) (by first | decide | (simp [spl_size]; done) | simp [Value.cells]) sz9 ?_));clear H;intro w H
   refine pA fa40_4 rfl rfl rfl (pE H rfl rfl rfl (.there .here) (by first | decide | (simp [spl_size]; done) | simp [Value.cells]) sz4 ?_);clear H;intro w H
   refine pA fa40_5 rfl rfl rfl ?_;intro a S
   refine l_stores (vs := [.bool false, .int .i64 0, .int .i64 0, .bool false]) S H rfl rfl rfl sz38 (.there .here) (by simp) (fun v hv => by simp only [List.mem_cons, List.not_mem_nil, or_false] at hv; rcases hv with rfl | rfl | rfl | rfl <;> rfl) rfl rfl ?_; clear S a H; intro w a H S
   revert a;refine pL (pT (pS (pG (pA fa40_5 rfl rfl rfl (pA fa38_0 rfl rfl rfl (pD H rfl rfl m1 rfl ag4 rfl (pL (pT (zf (pK (pT (pS (pG (pR H (r_loadn (m := 10) (vs := [.string nm, .slice At nT ct, .slice Af n cf, .string ⟨#[]⟩, .bool false, .bool false, .int .i64 0, .int .i64 0, .bool false, .int .i64 0]) rfl m1 ag40 sz40 rfl rfl) rfl (pF [.string nm, .slice At nT ct, .slice Af n cf, .string ⟨#[]⟩, .bool false, .bool false, .int .i64 0, .int .i64 0, .bool false, .int .i64 0] H rfl rfl sz40 (.there .here) ?_)))))))))))))));clear H;intro w H
   refine pL (pT (pZ ?_))
   have hR : (entA (ints s) q) = (q', 5) := ((if_neg (by rw [hnf]; decide)).trans ((if_neg (by rw [hTB]; simp)).trans ((if_neg (by rw [hFB]; simp)).trans ((if_pos (by rw [hFB])))))).trans (by rw [hFB])
   intro a S
   rw [hR]
   exact r_retc1 S rfl rfl (lva (cs := [.string nm, .slice At nT ct, .slice Af n cf, .string ⟨#[]⟩, .bool false, .bool false, .int .i64 0, .int .i64 0, .bool false, .int .i64 0]) ag40 sz40 rfl H m1) ⟨_, _, _, _, _, _, _, _, _, _, _, _, _, _, rfl, (H.sub (.cons_cons _ (.cons _ (((List.Sublist.refl _).trans (List.sublist_append_right owT _)).trans (List.sublist_append_right owF _)))))⟩
  revert a;refine pB ?_
  have hil := ints_len s
  intro a S
  refine c_loop (σ := Nat × Int × Nat) (fun s_ a w => match s_ with | ⟨q', sec, f⟩ => ∃ (fv : Value) (xs : List Value) (n : Nat) (owF : dc.Bk), SL a 75 [] [(0, .pointer (some ⟨g, 0, none⟩)), (2, .pointer (some ⟨ge, 0, none⟩))] ∧ HH wb.heap.size wb w ((g, Obj.cells #[.string s, .int .i64 ((q' : Nat) : Int), .int .i64 sec, .int .i64 ((fr : Nat) : Int)] 73 (0, 0)) :: (ge, Obj.cells #[.string nm, .slice At nT ct, fv, .string ⟨#[]⟩, .bool false, .bool (nameA (ints s) q).2.2, .int .i64 l1, .int .i64 k1, .bool false, .int .i64 0] 40 (0, 0)) :: (owF ++ (owT ++ L0))) ∧ Own 71 3 fv n xs owF ∧ (sec = 2 ∨ sec = 3 ∨ sec = 5) ∧ n ≤ q' ∧ q' ≤ s.size ∧ s.size - q' < f ∧ (fieldB (ints s) q) = fieldsA (ints s) f q' sec) (fun s_ => match s_ with | ⟨q', sec, f⟩ => s.size - q' + (if sec = 2 then 1 else 0)) ⟨q1, 2, (ints s).length + 2⟩ ⟨_, [], 0, [], S.only ⟨rfl, rfl, trivial⟩, H, own_nil' _ _, .inl rfl, Nat.zero_le _, hq1, by omega, by unfold fieldB; rw [hTB]⟩ ?_
  clear S a H; rintro ⟨q', sec, f⟩ a w ⟨fv, xs, n, owF, S, H, hoF, hsc, hnq, hqs, hf, hT⟩
  obtain ⟨f, rfl⟩ : ∃ k, f = k + 1 := ⟨f - 1, by omega⟩
  obtain ⟨Af, cf, rfl, _⟩ := hoF.slice
  rcases hsc with rfl | rfl | rfl
  ·
   revert a;refine pB (pS (pG (pM 1 rfl ?_)))
   have hcon := dec.jf.field2 _ _ _ _ _ _ _ hs (by omega) hfr H
   refine pC Tryz.func34 hcon ?_
   rintro e w ⟨a1, kd, b1, l2, k2, rfl, hH⟩
   refine ⟨_, rfl, ?_⟩
   clear H hcon; have H := hH; clear hH
   have hil := ints_len s
   have htl := field_le (X := (ints s)) (p := q') (line := 0) (by omega)
   refine pM 4 rfl ?_;intro a S
   refine l_alloc (cs := #[.string ⟨#[]⟩, .int .i64 0, .string ⟨#[]⟩]) S H rfl (fun w => al zv71) rfl rfl rfl ?_; clear S a H; intro g11 w a H S
   refine l_alloc (cs := #[.bool false, .int .i64 0, .int .i64 0, .bool false]) S H rfl (fun w => al zv38) rfl rfl rfl ?_; clear S a H; intro g12 w a H S
   revert a;refine pF [.string a1, .int .i64 kd, .string b1] H rfl rfl sz71 (.there .here) ?_;clear H;intro w H
   refine pM 1 rfl (pF [.bool (fieldQ (ints s) q' 0).f.isSome, .int .i64 l2, .int .i64 k2, .bool false] H rfl rfl sz38 .here ?_);clear H;intro w H
   refine pL (pT (pS (pS (pG (pA fa38_0 rfl rfl rfl (pD H rfl rfl m0 rfl ag4 rfl (pL (pT (zc rfl (fun bc14 => ?_) (fun bc14 => ?_))))))))))
   ·
    have c14 := bc14
    have hfs : (fieldQ (ints s) q' 0).f.isSome = true := by simpa using bc14
    refine pS ?_;intro a S
    refine d_startW (id := 12) (Lr := ((g12, .cells #[.bool (fieldQ (ints s) q' 0).f.isSome, .int .i64 l2, .int .i64 k2, .bool false] 38 (0, 0)) :: (g11, .cells #[.string a1, .int .i64 kd, .string b1] 71 (0, 0)) :: (g, .cells #[.string s, .int .i64 (((fieldQ (ints s) q' 0).p : Nat) : Int), .int .i64 ((fieldQ (ints s) q' 0).sec), .int .i64 ((fr : Nat) : Int)] 73 (0, 0)) :: (owF ++ (owT ++ (L0))))) [4] 5 (bA 5 0) H (fun _ H => H.sub ((.cons_cons _ ((.cons_cons _ ((.cons_cons _ ((.cons _ (.refl _)))))))))) rfl rfl rfl (fun w H => ?_)
    revert a;refine qR 0 (H.sub ((.cons_cons _ ((.cons_cons _ ((.cons_cons _ ((.cons _ (.refl _)))))))))) rfl (r_loadn (m := 4) (vs := [.bool (fieldQ (ints s) q' 0).f.isSome, .int .i64 l2, .int .i64 k2, .bool false]) rfl m0 ag38 sz38 rfl rfl) rfl (qA 1 fa40_6 rfl rfl rfl rfl ?_);intro a S
    refine d_storeN (i := 2) (bA 5 7) S H rfl rfl rfl rfl (.there (.there (.there .here))) (by first | decide | (simp [spl_size]; done) | simp [Value.cells]) (fun w u hc hz => st1 sz3 rfl hc hz) (fun _ H => H.sub ((.cons_cons _ ((.cons_cons _ ((.cons_cons _ ((.cons _ (.refl _)))))))))) (wanted_none rfl) rfl (by kernel_rfl) rfl ?_; clear S a H; intro w a H S
    revert a;refine qA 3 fa40_5 rfl rfl rfl rfl ?_;intro a S
    refine d_stores (i := 4) (vs := [.bool (fieldQ (ints s) q' 0).f.isSome, .int .i64 l2, .int .i64 k2, .bool false]) (bA 5 31) S H rfl rfl rfl rfl sz38 (.there (.there (.there .here))) (by simp) (fun v hv => by simp only [List.mem_cons, List.not_mem_nil, or_false] at hv; rcases hv with rfl | rfl | rfl | rfl <;> rfl) (wanted_none rfl) rfl (by kernel_rfl) rfl ?_; clear S a H; intro w a H S
    revert a;refine qD (pT (pS (pG (pR H (r_loadn (m := 10) (vs := [.string nm, .slice At nT ct, .slice Af n cf, .string ⟨#[]⟩, .bool false, .bool (fieldQ (ints s) q' 0).f.isSome, .int .i64 l2, .int .i64 k2, .bool false, .int .i64 2]) rfl m3 ag40 sz40 rfl rfl) rfl (pF [.string nm, .slice At nT ct, .slice Af n cf, .string ⟨#[]⟩, .bool false, .bool (fieldQ (ints s) q' 0).f.isSome, .int .i64 l2, .int .i64 k2, .bool false, .int .i64 2] H rfl rfl sz40 (.there (.there (.there .here))) ?_)))));clear H;intro w H
    refine pL (pT (pZ (pU (pJ (pU (pJ (pU ?_)))))))
    have hFt : (fieldB (ints s) q) = ((fieldQ (ints s) q' 0).p, (fieldQ (ints s) q' 0).sec, true) := hT.trans (by rw [fieldsA, if_neg (by decide), if_pos hfs])
    have hR : (entA (ints s) q) = ((fieldQ (ints s) q' 0).p, (fieldQ (ints s) q' 0).sec) := ((if_neg (by rw [hnf]; decide)).trans ((if_neg (by rw [hTB]; simp)).trans ((if_pos (by rw [hFt]))))).trans (by rw [hFt])
    intro a S
    rw [hR]
    exact r_retc1 S rfl rfl (lva (cs := [.string nm, .slice At nT ct, .slice Af n cf, .string ⟨#[]⟩, .bool false, .bool (fieldQ (ints s) q' 0).f.isSome, .int .i64 l2, .int .i64 k2, .bool false, .int .i64 2]) ag40 sz40 rfl H m3) ⟨_, _, _, _, _, _, _, _, _, _, _, _, _, _, rfl, ((HH.pull2 H).sub (.cons_cons _ (.cons _ (.cons _ (.cons _ (((List.Sublist.refl _).trans (List.sublist_append_right owT _)).trans (List.sublist_append_right owF _)))))))⟩
   have c14 := bc14
   have hfs : (fieldQ (ints s) q' 0).f.isSome = false := by simpa using bc14
   refine pK (pT (pS (pS (pG (pM 1 rfl (pP (p_not rfl) rfl (pL (pT (zc rfl (fun bc16 => ?_) (fun bc16 => ?_))))))))))
   ·
    have c16 := not_eq_true_ bc16
    have hrs : (fieldQ (ints s) q' 0).r.isSome = false := by simpa using bc16
    refine pX (pV (pY rfl (pV (pW (pT ?_)))))
    replace H := HH.pull2 H
    replace H := H.sub (.cons_cons _ (.cons _ (.cons _ (.refl _))))
    intro a S
    exfalso
    exact field_rf hrs hfs
   have c16 := not_eq_false_ bc16
   have hrs : (fieldQ (ints s) q' 0).r.isSome = true := by simpa using bc16
   refine pK (pT (pG (pA fa40_2 rfl rfl rfl (pD H rfl rfl m3 rfl ag36 rfl (pR H (r_loadn (m := 3) (vs := [.string a1, .int .i64 kd, .string b1]) rfl m1 ag71 sz71 rfl rfl) rfl ?_)))));intro a S
   refine l_litR (ps := [(0, .tmp 57)]) (cells := #[.string a1, .int .i64 kd, .string b1]) (e := 71) S H rfl rfl (fun w => litFd w _ _ _) rfl rfl rfl ?_; clear S a H; intro gl w a H S
   refine l_own (n := n) (m := 1) [_, _, _, _, _] (ow := owF) (L := (owT ++ L0)) S H rfl rfl rfl hoF (src_litS (c := 1) (n := 1) (s := 3) (vs := [.string a1, .int .i64 kd, .string b1]) H m0 Tryz.underlying36 rfl (by simp [Value.oneCell'])) Tryz.underlying36 in71 rfl (by omega) (by decide) rfl rfl rfl ?_; clear S a H; intro v' ow' w a ho' H S
   replace H := H.tail
   obtain ⟨A', c', rfl, _⟩ := ho'.slice
   revert a;refine pA fa40_2 rfl rfl rfl (pE H rfl rfl rfl (.there (.there (.there .here))) (by first | decide | (simp [spl_size]; done) | simp [Value.cells]) sz36 ?_);clear H;intro w H
   refine pL (pI 3 (pT ?_))
   replace H := HH.pull2 H
   replace H := H.sub (.cons_cons _ (.cons _ (.cons _ (.refl _))))
   obtain ⟨kv, hkv⟩ := Option.isSome_iff_exists.1 hrs
   obtain ⟨_, _, hsec⟩ := field_r hkv
   have hfar := (field_far (X := (ints s)) (p := q') (line := 0) (by omega)).2.2 (some_ne.1 hrs)
   intro a S
   exact ⟨⟨(fieldQ (ints s) q' 0).p, (fieldQ (ints s) q' 0).sec, f⟩, ⟨_, _, _, _, S.only ⟨rfl, rfl, trivial⟩, H, ho', hsec, by omega, by omega, by omega, hT.trans (by rw [fieldsA, if_neg (by decide), if_neg (by rw [hfs]; decide), if_pos hrs])⟩, (show s.size - (fieldQ (ints s) q' 0).p + (if (fieldQ (ints s) q' 0).sec = 2 then 1 else 0) < s.size - q' + (if (2 : Int) = 2 then 1 else 0) from by split <;> (rw [if_pos rfl]; omega))⟩
  ·
   revert a;refine pB (pS (pG (pM 1 rfl ?_)))
   have hcon := dec.jf.field3 _ _ _ _ _ _ _ hs (by omega) hfr H
   refine pC Tryz.func34 hcon ?_
   rintro e w ⟨a1, kd, b1, l2, k2, rfl, hH⟩
   refine ⟨_, rfl, ?_⟩
   clear H hcon; have H := hH; clear hH
   refine pM 4 rfl ?_;intro a S
   refine l_alloc (cs := #[.string ⟨#[]⟩, .int .i64 0, .string ⟨#[]⟩]) S H rfl (fun w => al zv71) rfl rfl rfl ?_; clear S a H; intro g18 w a H S
   refine l_alloc (cs := #[.bool false, .int .i64 0, .int .i64 0, .bool false]) S H rfl (fun w => al zv38) rfl rfl rfl ?_; clear S a H; intro g19 w a H S
   revert a;refine pF [.string a1, .int .i64 kd, .string b1] H rfl rfl sz71 (.there .here) ?_;clear H;intro w H
   refine pM 1 rfl (pF [.bool false, .int .i64 l2, .int .i64 k2, .bool false] H rfl rfl sz38 .here ?_);clear H;intro w H
   refine pL (pT (pS (pS (pG (pA fa38_0 rfl rfl rfl (pD H rfl rfl m0 rfl ag4 rfl (pL (pT (zf (pK (pT (pS (pS (pG (pM 1 rfl (pP (p_not rfl) rfl (pL (pT (zt (pX (pV (pY rfl (pV (pW (pT ?_)))))))))))))))))))))))))
   replace H := HH.pull2 H
   replace H := H.sub (.cons_cons _ (.cons _ (.cons _ (.refl _))))
   intro a S
   exact ⟨_, _, _, _, q', 3, S.only ⟨rfl, rfl, trivial⟩, H, hoF, hqs, (by decide), hT.trans (by rw [fieldsA, if_pos (by decide)])⟩
  revert a;refine pB (pS (pG (pM 1 rfl ?_)))
  have hcon := dec.jf.field5 _ _ _ _ _ _ _ hs (by omega) hfr H
  refine pC Tryz.func34 hcon ?_
  rintro e w ⟨a1, kd, b1, l2, k2, rfl, hH⟩
  refine ⟨_, rfl, ?_⟩
  clear H hcon; have H := hH; clear hH
  refine pM 4 rfl ?_;intro a S
  refine l_alloc (cs := #[.string ⟨#[]⟩, .int .i64 0, .string ⟨#[]⟩]) S H rfl (fun w => al zv71) rfl rfl rfl ?_; clear S a H; intro g25 w a H S
  refine l_alloc (cs := #[.bool false, .int .i64 0, .int .i64 0, .bool false]) S H rfl (fun w => al zv38) rfl rfl rfl ?_; clear S a H; intro g26 w a H S
  revert a;refine pF [.string a1, .int .i64 kd, .string b1] H rfl rfl sz71 (.there .here) ?_;clear H;intro w H
  refine pM 1 rfl (pF [.bool false, .int .i64 l2, .int .i64 k2, .bool false] H rfl rfl sz38 .here ?_);clear H;intro w H
  refine pL (pT (pS (pS (pG (pA fa38_0 rfl rfl rfl (pD H rfl rfl m0 rfl ag4 rfl (pL (pT (zf (pK (pT (pS (pS (pG (pM 1 rfl (pP (p_not rfl) rfl (pL (pT (zt (pX (pV (pY rfl (pV (pW (pT ?_)))))))))))))))))))))))))
  replace H := HH.pull2 H
  replace H := H.sub (.cons_cons _ (.cons _ (.cons _ (.refl _))))
  intro a S
  exact ⟨_, _, _, _, q', 5, S.only ⟨rfl, rfl, trivial⟩, H, hoF, hqs, (by decide), hT.trans (by rw [fieldsA, if_pos (by decide)])⟩
 revert a;refine pB ?_;intro a S
 refine c_loop (σ := Nat × Int × Nat) (fun s_ a w => match s_ with | ⟨q', sec, f⟩ => ∃ (tv : Value) (xs : List Value) (n : Nat) (owT : dc.Bk), SL a 75 [] [(0, .pointer (some ⟨g, 0, none⟩)), (2, .pointer (some ⟨ge, 0, none⟩))] ∧ HH wb.heap.size wb w ((g, Obj.cells #[.string s, .int .i64 ((q' : Nat) : Int), .int .i64 sec, .int .i64 ((fr : Nat) : Int)] 73 (0, 0)) :: (ge, Obj.cells #[.string nm, tv, .slice none 0 0, .string ⟨#[]⟩, .bool false, .bool (nameA (ints s) q).2.2, .int .i64 l1, .int .i64 k1, .bool false, .int .i64 0] 40 (0, 0)) :: (owT ++ L0)) ∧ Own 66 2 tv n xs owT ∧ (sec = 1 ∨ sec = 2) ∧ n ≤ q' ∧ q' ≤ s.size ∧ s.size - q' < f ∧ (tagB (ints s) q) = tagsA (ints s) f q' sec) (fun s_ => match s_ with | ⟨q', sec, f⟩ => s.size - q' + (if sec = 1 then 1 else 0)) ⟨(nameA (ints s) q).1, 1, (ints s).length + 2⟩ ⟨_, [], 0, [], S.only ⟨rfl, rfl, trivial⟩, H, own_nil' _ _, .inl rfl, Nat.zero_le _, by omega, by omega, rfl⟩ ?_
 clear S a H; rintro ⟨q', sec, f⟩ a w ⟨tv, xs, n, owT, S, H, hoT, hsc, hnq, hqs, hf, hT⟩
 obtain ⟨f, rfl⟩ : ∃ k, f = k + 1 := ⟨f - 1, by omega⟩
 obtain ⟨At, ct, rfl, _⟩ := hoT.slice
 rcases hsc with rfl | rfl
 ·
  revert a;refine pB (pS (pG (pM 1 rfl ?_)))
  have hcon := dec.je.tag1 _ _ _ _ _ _ _ hs (by omega) hfr H
  refine pC Tryz.func33 hcon ?_
  rintro e w ⟨a1, b1, l2, k2, rfl, hH⟩
  refine ⟨_, rfl, ?_⟩
  clear H hcon; have H := hH; clear hH
  have hil := ints_len s
  have htl := tag_le (X := (ints s)) (p := q') (line := 0) (by omega)
  refine pM 4 rfl ?_;intro a S
  refine l_alloc (cs := #[.string ⟨#[]⟩, .string ⟨#[]⟩]) S H rfl (fun w => al zv66) rfl rfl rfl ?_; clear S a H; intro g32 w a H S
  refine l_alloc (cs := #[.bool false, .int .i64 0, .int .i64 0, .bool false]) S H rfl (fun w => al zv38) rfl rfl rfl ?_; clear S a H; intro g33 w a H S
  revert a;refine pF [.string a1, .string b1] H rfl rfl sz66 (.there .here) ?_;clear H;intro w H
  refine pM 1 rfl (pF [.bool (tagP (ints s) q' 0).f.isSome, .int .i64 l2, .int .i64 k2, .bool false] H rfl rfl sz38 .here ?_);clear H;intro w H
  refine pL (pT (pS (pS (pG (pA fa38_0 rfl rfl rfl (pD H rfl rfl m0 rfl ag4 rfl (pL (pT (zc rfl (fun bc35 => ?_) (fun bc35 => ?_))))))))))
  ·
   have c35 := bc35
   have hfs : (tagP (ints s) q' 0).f.isSome = true := by simpa using bc35
   refine pS ?_;intro a S
   refine d_startW (id := 6) (Lr := ((g33, .cells #[.bool (tagP (ints s) q' 0).f.isSome, .int .i64 l2, .int .i64 k2, .bool false] 38 (0, 0)) :: (g32, .cells #[.string a1, .string b1] 66 (0, 0)) :: (g, .cells #[.string s, .int .i64 (((tagP (ints s) q' 0).p : Nat) : Int), .int .i64 ((tagP (ints s) q' 0).sec), .int .i64 ((fr : Nat) : Int)] 73 (0, 0)) :: (owT ++ (L0)))) [4] 5 (bA 5 0) H (fun _ H => H.sub ((.cons_cons _ ((.cons_cons _ ((.cons_cons _ ((.cons _ (.refl _)))))))))) rfl rfl rfl (fun w H => ?_)
   revert a;refine qR 0 (H.sub ((.cons_cons _ ((.cons_cons _ ((.cons_cons _ ((.cons _ (.refl _)))))))))) rfl (r_loadn (m := 4) (vs := [.bool (tagP (ints s) q' 0).f.isSome, .int .i64 l2, .int .i64 k2, .bool false]) rfl m0 ag38 sz38 rfl rfl) rfl (qA 1 fa40_6 rfl rfl rfl rfl ?_);intro a S
   refine d_storeN (i := 2) (bA 5 7) S H rfl rfl rfl rfl (.there (.there (.there .here))) (by first | decide | (simp [spl_size]; done) | simp [Value.cells]) (fun w u hc hz => st1 sz3 rfl hc hz) (fun _ H => H.sub ((.cons_cons _ ((.cons_cons _ ((.cons_cons _ ((.cons _ (.refl _)))))))))) (wanted_none rfl) rfl (by kernel_rfl) rfl ?_; clear S a H; intro w a H S
   revert a;refine qA 3 fa40_5 rfl rfl rfl rfl ?_;intro a S
   refine d_stores (i := 4) (vs := [.bool (tagP (ints s) q' 0).f.isSome, .int .i64 l2, .int .i64 k2, .bool false]) (bA 5 31) S H rfl rfl rfl rfl sz38 (.there (.there (.there .here))) (by simp) (fun v hv => by simp only [List.mem_cons, List.not_mem_nil, or_false] at hv; rcases hv with rfl | rfl | rfl | rfl <;> rfl) (wanted_none rfl) rfl (by kernel_rfl) rfl ?_; clear S a H; intro w a H S
   revert a;refine qD (pT (pS (pG (pR H (r_loadn (m := 10) (vs := [.string nm, .slice At n ct, .slice none 0 0, .string ⟨#[]⟩, .bool false, .bool (tagP (ints s) q' 0).f.isSome, .int .i64 l2, .int .i64 k2, .bool false, .int .i64 1]) rfl m3 ag40 sz40 rfl rfl) rfl (pF [.string nm, .slice At n ct, .slice none 0 0, .string ⟨#[]⟩, .bool false, .bool (tagP (ints s) q' 0).f.isSome, .int .i64 l2, .int .i64 k2, .bool false, .int .i64 1] H rfl rfl sz40 (.there (.there (.there .here))) ?_)))));clear H;intro w H
   refine pL (pT (pZ (pU (pJ (pU (pJ (pU ?_)))))))
   have hTt : (tagB (ints s) q) = ((tagP (ints s) q' 0).p, (tagP (ints s) q' 0).sec, true) := hT.trans (by rw [tagsA, if_neg (by decide), if_pos hfs])
   have hR : (entA (ints s) q) = ((tagP (ints s) q' 0).p, (tagP (ints s) q' 0).sec) := ((if_neg (by rw [hnf]; decide)).trans ((if_pos (by rw [hTt])))).trans (by rw [hTt])
   intro a S
   rw [hR]
   exact r_retc1 S rfl rfl (lva (cs := [.string nm, .slice At n ct, .slice none 0 0, .string ⟨#[]⟩, .bool false, .bool (tagP (ints s) q' 0).f.isSome, .int .i64 l2, .int .i64 k2, .bool false, .int .i64 1]) ag40 sz40 rfl H m3) ⟨_, _, _, _, _, _, _, _, _, _, _, _, _, _, rfl, ((HH.pull2 H).sub (.cons_cons _ (.cons _ (.cons _ (.cons _ ((List.Sublist.refl _).trans (List.sublist_append_right owT _)))))))⟩
  have c35 := bc35
  have hfs : (tagP (ints s) q' 0).f.isSome = false := by simpa using bc35
  refine pK (pT (pS (pS (pG (pM 1 rfl (pP (p_not rfl) rfl (pL (pT (zc rfl (fun bc37 => ?_) (fun bc37 => ?_))))))))))
  ·
   have c37 := not_eq_true_ bc37
   have hrs : (tagP (ints s) q' 0).r.isSome = false := by simpa using bc37
   refine pX (pV (pY rfl (pV (pW (pT ?_)))))
   replace H := HH.pull2 H
   replace H := H.sub (.cons_cons _ (.cons _ (.cons _ (.refl _))))
   have hfn : (tagP (ints s) q' 0).f = none := by cases h : (tagP (ints s) q' 0).f with
    | none => rfl
    | some x => rw [h] at hfs; cases hfs
   have hrn : (tagP (ints s) q' 0).r = none := by cases h : (tagP (ints s) q' 0).r with
    | none => rfl
    | some x => rw [h] at hrs; cases hrs
   have hs2 := tag_none hfn hrn
   rw [hs2] at H
   intro a S
   exact ⟨_, _, _, _, _, S.only ⟨rfl, rfl, trivial⟩, H, hoT, by omega, hT.trans (by rw [tagsA, if_neg (by decide), if_neg (by rw [hfs]; decide), if_neg (by rw [hrs]; decide), hs2])⟩
  have c37 := not_eq_false_ bc37
  have hrs : (tagP (ints s) q' 0).r.isSome = true := by simpa using bc37
  refine pK (pT (pG (pA fa40_1 rfl rfl rfl (pD H rfl rfl m3 rfl ag35 rfl (pR H (r_loadn (m := 2) (vs := [.string a1, .string b1]) rfl m1 ag66 sz66 rfl rfl) rfl ?_)))));intro a S
  refine l_litR (ps := [(0, .tmp 37)]) (cells := #[.string a1, .string b1]) (e := 66) S H rfl rfl (fun w => litP w _ _) rfl rfl rfl ?_; clear S a H; intro gl w a H S
  refine l_own (n := n) (m := 1) [_, _, _, _, _] (ow := owT) (L := L0) S H rfl rfl rfl hoT (src_litS (c := 1) (n := 1) (s := 2) (vs := [.string a1, .string b1]) H m0 Tryz.underlying35 rfl (by simp [Value.oneCell'])) Tryz.underlying35 in66 rfl (by omega) (by decide) rfl rfl rfl ?_; clear S a H; intro v' ow' w a ho' H S
  replace H := H.tail
  obtain ⟨A', c', rfl, _⟩ := ho'.slice
  revert a;refine pA fa40_1 rfl rfl rfl (pE H rfl rfl rfl (.there (.there (.there .here))) (by first | decide | (simp [spl_size]; done) | simp [Value.cells]) sz35 ?_);clear H;intro w H
  refine pL (pI 1 (pT ?_))
  replace H := HH.pull2 H
  replace H := H.sub (.cons_cons _ (.cons _ (.cons _ (.refl _))))
  obtain ⟨kv, hkv⟩ := Option.isSome_iff_exists.1 hrs
  obtain ⟨hfar, _, hsec⟩ := tag_far (by omega) hkv
  intro a S
  exact ⟨⟨(tagP (ints s) q' 0).p, (tagP (ints s) q' 0).sec, f⟩, ⟨_, _, _, _, S.only ⟨rfl, rfl, trivial⟩, H, ho', hsec, by omega, by omega, by omega, hT.trans (by rw [tagsA, if_neg (by decide), if_neg (by rw [hfs]; decide), if_pos hrs])⟩, (show s.size - (tagP (ints s) q' 0).p + (if (tagP (ints s) q' 0).sec = 1 then 1 else 0) < s.size - q' + (if (1 : Int) = 1 then 1 else 0) from by split <;> (rw [if_pos rfl]; omega))⟩
 revert a;refine pB (pS (pG (pM 1 rfl ?_)))
 have hcon := dec.je.tag2 _ _ _ _ _ _ _ hs (by omega) hfr H
 refine pC Tryz.func33 hcon ?_
 rintro e w ⟨a1, b1, l2, k2, rfl, hH⟩
 refine ⟨_, rfl, ?_⟩
 clear H hcon; have H := hH; clear hH
 refine pM 4 rfl ?_;intro a S
 refine l_alloc (cs := #[.string ⟨#[]⟩, .string ⟨#[]⟩]) S H rfl (fun w => al zv66) rfl rfl rfl ?_; clear S a H; intro g39 w a H S
 refine l_alloc (cs := #[.bool false, .int .i64 0, .int .i64 0, .bool false]) S H rfl (fun w => al zv38) rfl rfl rfl ?_; clear S a H; intro g40 w a H S
 revert a;refine pF [.string a1, .string b1] H rfl rfl sz66 (.there .here) ?_;clear H;intro w H
 refine pM 1 rfl (pF [.bool false, .int .i64 l2, .int .i64 k2, .bool false] H rfl rfl sz38 .here ?_);clear H;intro w H
 refine pL (pT (pS (pS (pG (pA fa38_0 rfl rfl rfl (pD H rfl rfl m0 rfl ag4 rfl (pL (pT (zf (pK (pT (pS (pS (pG (pM 1 rfl (pP (p_not rfl) rfl (pL (pT (zt (pX (pV (pY rfl (pV (pW (pT ?_)))))))))))))))))))))))))
 replace H := HH.pull2 H
 replace H := H.sub (.cons_cons _ (.cons _ (.cons _ (.refl _))))
 intro a S
 exact ⟨_, _, _, _, q', S.only ⟨rfl, rfl, trivial⟩, H, hoT, hqs, hT.trans (by rw [tagsA, if_pos (by decide)])⟩
end jg
end Go.Proofs.YtbahngfpadjbhaaGreatDoor.dec
end
section
namespace Go.Proofs.YtbahngfpadjbhaaGreatDoor.dec
open Go.Proofs.YtbahngfpadjbhaaGreatDoor.fx
open Go.RowKit Go.Proofs.HHW Go.Proofs.YtbahngfpadjbhaaGreatDoorW.PrintWords Go.Proofs.YtbahngfpadjbhaaGreatDoor.dt
namespace jh
theorem bld73_0_2 (x0_0 : ByteArray) (x1_0 : Int) : Tryz.prog.built 73 [(0, (.string x0_0)), (2, (.int .i64 x1_0))] = some #[.string x0_0, .int .i64 0, .int .i64 x1_0, .int .i64 0] := by kernel_rfl
theorem nextG (wb w0 : World) (g : Nat) (s : ByteArray) (q : Nat) (part : Int) (fr : Nat) (L0 : dc.Bk) (hs : s.size ≤ 100000) (hq : q ≤ s.size) (hfr : fr ≤ 100000) (hp : part = 5 ∨ part = 4) (H : HH wb.heap.size wb w0 ((g, Obj.cells #[.string s, .int .i64 ((q : Nat) : Int), .int .i64 part, .int .i64 ((fr : Nat) : Int)] 73 (0, 0)) :: L0)) : Calls Tryz.prog 15 #[.pointer (some ⟨g, 0, none⟩)] w0 fun e w' => e = .returned (.bool (decide ((skipA (ints s) (nextA (ints s) q part)) < s.size))) ∧ HH wb.heap.size wb w' ((g, Obj.cells #[.string s, .int .i64 (((skipA (ints s) (nextA (ints s) q part)) : Nat) : Int), .int .i64 0, .int .i64 (((skipA (ints s) (nextA (ints s) q part)) : Nat) : Int)] 73 (0, 0)) :: L0) := by
 rcases hp with rfl | rfl
 ·
  exact dec.jd.next5 _ _ _ _ _ _ _ hs hq hfr H
 exact dec.jd.next4 _ _ _ _ _ _ _ hs hq hfr H
theorem newD_ (wb w0 : World) (L0 : dc.Bk) (s : ByteArray) (H : HH wb.heap.size wb w0 L0) : Calls Tryz.prog 14 #[.string s] w0 fun e w' => ∃ g, e = .returned (.pointer (some ⟨g, 0, none⟩)) ∧ HH wb.heap.size wb w' ((g, Obj.cells #[.string s, .int .i64 0, .int .i64 5, .int .i64 0] 73 (0, 0)) :: L0) := by
 refine c_enter (args := [.string s]) (k := 5) Tryz.func14 rfl rfl rfl ?_
 refine pS (pG (pM 1 rfl (pL (pT (pS (pG (pM 1 rfl (pP (p_bld (ps := [(0, .tmp 3), (2, .const (.int .i64 5))]) rfl (bld73_0_2 _ _)) rfl ?_))))))));intro a S
 refine l_box (cs := #[.string s, .int .i64 0, .int .i64 5, .int .i64 0]) S H rfl rfl (fun w => bx) rfl rfl rfl ?_; clear S a H; intro g1 w a H S
 revert a;refine pM 1 rfl (pL (pT (pZ ?_)));intro a S
 exact r_ret1 S rfl rfl ⟨g1, rfl, H⟩
set_option maxHeartbeats 1000000 in
theorem entries_ (wb w0 : World) (L0 : dc.Bk) (s : ByteArray) (hs : s.size ≤ 100000) (H : HH wb.heap.size wb w0 L0) : Calls Tryz.prog 8 #[.string s] w0 fun e w' => ∃ (Ae : Option Addr) (ce : Nat), e = .returned (.slice Ae (cntA (ints s) (2 * (ints s).length + 2) 0 5) ce) ∧ HH wb.heap.size wb w' L0 := by
 refine c_enter (args := [.string s]) (k := 14) Tryz.func8 rfl rfl rfl ?_
 refine pS (pG (pM 1 rfl (pL (pT (pS (pG (pM 1 rfl (pL (pT (pS (pG (pM 1 rfl ?_))))))))))))
 have hcon := newD_ wb _ _ s H
 refine pC Tryz.func14 hcon ?_
 rintro e w ⟨g, rfl, hH⟩
 refine ⟨_, rfl, ?_⟩
 clear H hcon; have H := hH; clear hH
 refine pM 1 rfl (pL (pT (pS (pB ?_))))
 have hil := ints_len s
 intro a S
 refine c_loop (σ := Nat × Int × Nat × Nat) (fun s_ a w => match s_ with | ⟨q, part, fr, f⟩ => ∃ (v : Value) (xs : List Value) (n : Nat) (ow : dc.Bk), SL a 15 [] [(3, v), (4, .pointer (some ⟨g, 0, none⟩))] ∧ HH wb.heap.size wb w ((g, Obj.cells #[.string s, .int .i64 ((q : Nat) : Int), .int .i64 part, .int .i64 ((fr : Nat) : Int)] 73 (0, 0)) :: (ow ++ L0)) ∧ Own 40 10 v n xs ow ∧ (part = 5 ∨ part = 4) ∧ q ≤ s.size ∧ fr ≤ 100000 ∧ n + msr (ints s) q part ≤ 300000 ∧ msr (ints s) q part < f ∧ cntA (ints s) (2 * (ints s).length + 2) 0 5 = n + cntA (ints s) f q part) (fun s_ => match s_ with | ⟨q, part, fr, f⟩ => msr (ints s) q part) ⟨0, 5, 0, (2 * (ints s).length + 2)⟩ ⟨.slice none 0 0, [], 0, [], S.only ⟨rfl, rfl, trivial⟩, H, own_nil' _ _, .inl rfl, Nat.zero_le _, Nat.zero_le _, by unfold msr; rw [if_pos rfl]; omega, by unfold msr; rw [if_pos rfl]; omega, (Nat.zero_add _).symm⟩ ?_
 clear S a H; rintro ⟨q, part, fr, f⟩ a w ⟨v, xs, n, ow, S, H, ho, hp, hq, hfr, hnm, hf, hc⟩
 obtain ⟨f, rfl⟩ : ∃ k, f = k + 1 := ⟨f - 1, by omega⟩
 obtain ⟨Ae, ce, rfl, _⟩ := ho.slice
 have hsl := skipA_le (nextA_le (X := (ints s)) (part := part) (q := q) (by omega))
 revert a;refine pS (pS (pG (pM 1 rfl ?_)))
 have hcon := nextG _ _ _ _ _ _ _ _ hs hq hfr hp H
 refine pC Tryz.func15 hcon ?_
 rintro e w ⟨rfl, hH⟩
 refine ⟨_, rfl, ?_⟩
 clear H hcon; have H := hH; clear hH
 refine pL (pT (zc rfl (fun bc2 => ?_) (fun bc2 => ?_)))
 ·
  have c2 := of_decide_eq_true bc2
  refine pK (pT (pB (pG (pM 2 rfl ?_))))
  have hcon := dec.jg.entry_ _ _ _ _ _ _ _ hs (by omega) (by omega) H
  refine pC Tryz.func16 hcon ?_
  rintro e w ⟨x1, A2, n2, c2, A3, n3, c3, x4, b5, b6, k7, k8, b9, k10, rfl, hH⟩
  refine ⟨_, rfl, ?_⟩
  clear H hcon; have H := hH; clear hH
  intro a S
  refine l_litR (ps := [(0, .tmp 11)]) (cells := #[.string x1, .slice A2 n2 c2, .slice A3 n3 c3, .string x4, .bool b5, .bool b6, .int .i64 k7, .int .i64 k8, .bool b9, .int .i64 k10]) (e := 40) S H rfl rfl (fun w => dec.jg.litE w _ _ _ _ _ _ _ _ _ _ _ _ _ _) rfl rfl rfl ?_; clear S a H; intro gl w a H S
  refine l_own (n := n) (m := 1) [_, _] (ow := ow) (L := L0) S H rfl rfl rfl ho (src_litS (c := 1) (n := 1) (s := 10) (vs := [.string x1, .slice A2 n2 c2, .slice A3 n3 c3, .string x4, .bool b5, .bool b6, .int .i64 k7, .int .i64 k8, .bool b9, .int .i64 k10]) H m0 Tryz.underlying24 rfl (by simp [Value.oneCell'])) Tryz.underlying24 in40 rfl (by omega) (by decide) rfl rfl rfl ?_; clear S a H; intro v' ow' w a ho' H S
  replace H := H.tail
  revert a;refine pM 1 rfl (pL (pI 1 (pT ?_)))
  obtain ⟨he1, he2, he3⟩ := entA_far (X := (ints s)) (q := q) (part := part) (by omega) hp (by omega)
  intro a S
  exact ⟨⟨_, _, (skipA (ints s) (nextA (ints s) q part)), f⟩, ⟨_, _, _, _, S.only ⟨rfl, rfl, trivial⟩, H, ho', he2, by omega, by omega, by omega, by omega, hc.trans (by rw [cntA, if_pos (by omega)]; omega)⟩, he3⟩
 have c2 := of_decide_eq_false bc2
 refine pX (pV (pV (pW (pT (pS (pG (pM 2 rfl (pL (pT (pZ ?_))))))))))
 have hn : cntA (ints s) (2 * (ints s).length + 2) 0 5 = n := hc.trans (by rw [cntA, if_neg (by omega)]; rfl)
 intro a S
 rw [hn]
 exact r_ret1 S rfl rfl ⟨Ae, ce, rfl, HH.bring H.tail⟩
end jh
end Go.Proofs.YtbahngfpadjbhaaGreatDoor.dec
end
section
namespace Go.Proofs.YtbahngfpadjbhaaGreatDoor.dt
open Go.RowKit Go.Proofs.HHW Go.Proofs.YtbahngfpadjbhaaGreatDoorW.PrintWords Go.Proofs.YtbahngfpadjbhaaGreatDoor.dc
theorem tagsP_len (X : List Int) : ∀ (f : Nat) (acc : List (List Int × List Int)) (p : Nat) (sec : Int) (line : Nat), (tagsP X f acc p sec line).r.length ≤ acc.length + f := by
 intro f
 induction f with
 | zero => intro acc p sec line; exact Nat.le_refl _
 | succ f ih =>
  intro acc p sec line
  rw [tagsP]
  split
  ·
   simp only; omega
  ·
   split
   ·
    simp only; omega
   ·
    split
    ·
     simp only; omega
    ·
     rename_i kv _
     have := ih (acc ++ [kv]) (tagP X p line).p (tagP X p line).sec (tagP X p line).line
     rw [List.length_append, List.length_singleton] at this
     omega
theorem fieldsP_len (X : List Int) : ∀ (f : Nat) (acc : List (List Int × Int × List Int)) (p : Nat) (sec : Int) (line : Nat), (fieldsP X f acc p sec line).r.length ≤ acc.length + f := by
 intro f
 induction f with
 | zero => intro acc p sec line; exact Nat.le_refl _
 | succ f ih =>
  intro acc p sec line
  rw [fieldsP]
  split
  ·
   simp only; omega
  ·
   split
   ·
    simp only; omega
   ·
    split
    ·
     simp only; omega
    ·
     rename_i kv _
     have := ih (acc ++ [kv]) (fieldQ X p line).p (fieldQ X p line).sec (fieldQ X p line).line
     rw [List.length_append, List.length_singleton] at this
     omega
theorem entP_bd (Y : List Int) (l : Nat) : (entP Y l).r.tags.length ≤ Y.length + 2 ∧ (entP Y l).r.fields.length ≤ Y.length + 2 := by
 have ht := tagsP_len Y (Y.length + 2) [] (nameP Y l).p (nameP Y l).sec (nameP Y l).line
 have hf := fieldsP_len Y (Y.length + 2) [] (tagsP Y (Y.length + 2) [] (nameP Y l).p (nameP Y l).sec (nameP Y l).line).p (tagsP Y (Y.length + 2) [] (nameP Y l).p (nameP Y l).sec (nameP Y l).line).sec (tagsP Y (Y.length + 2) [] (nameP Y l).p (nameP Y l).sec (nameP Y l).line).line
 rw [List.length_nil, Nat.zero_add] at ht hf
 unfold entP
 simp only
 (repeat' split) <;> refine ⟨?_, ?_⟩ <;> first | exact Nat.zero_le _ | exact ht | exact hf
theorem next_len (X : List Int) (p l : Nat) (sec : Int) : (nextP X p l sec).1.length ≤ X.length := by
 unfold nextP
 split
 ·
  simp only [List.length_drop]; omega
 ·
  have h := rest_far X p l
  simp only [List.length_drop]
  omega
theorem ents_bd : ∀ (f : Nat) (X : List Int) (p l : Nat) (sec : Int), X.length ≤ 4000 → (∀ x ∈ ents f X p l sec, x.tags.length ≤ 5000 ∧ x.fields.length ≤ 5000) ∧ (ents f X p l sec).length ≤ f := by
 intro f
 induction f with
 | zero => intro X p l sec _; exact ⟨fun x hx => (by cases hx), Nat.le_refl _⟩
 | succ f ih =>
  intro X p l sec hX
  rw [ents]
  split
  ·
   exact ⟨fun x hx => (by cases hx), Nat.zero_le _⟩
  ·
   have hl := next_len X p l sec
   have hb := entP_bd (nextP X p l sec).1 (nextP X p l sec).2
   obtain ⟨i1, i2⟩ := ih (nextP X p l sec).1 (entP (nextP X p l sec).1 (nextP X p l sec).2).p (entP (nextP X p l sec).1 (nextP X p l sec).2).line (entP (nextP X p l sec).1 (nextP X p l sec).2).sec (by omega)
   refine ⟨fun x hx => ?_, by rw [List.length_cons]; omega⟩
   rcases List.mem_cons.1 hx with rfl | hx
   ·
    omega
   ·
    exact i1 x hx
theorem all_bd {X : List Int} (h : X.length ≤ 4000) : (∀ x ∈ all X, x.tags.length ≤ 5000 ∧ x.fields.length ≤ 5000) ∧ (all X).length ≤ 100000 := by
 obtain ⟨h1, h2⟩ := ents_bd (2 * X.length + 2) X 0 1 5 h
 exact ⟨h1, Nat.le_trans h2 (by omega)⟩
end Go.Proofs.YtbahngfpadjbhaaGreatDoor.dt
end
