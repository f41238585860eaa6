/- Raw messages: more words: own rows that are grown and filled. -/
import Derived.Test.YtnmelglnkefjfaaGreatDoorRp
import Derived.Test.YtnmelglnkefjfaaGreatDoorDg
namespace Go.Proofs.YtnmelglnkefjfaaGreatDoor.rp
open Go.RowKit Go.Proofs.HHW Go.Proofs.YtnmelglnkefjfaaGreatDoorW.PrintWords
set_option linter.unusedVariables false
set_option linter.unusedSimpArgs false
/-- A row of bytes at place 0 of a block of the call's own. -/
theorem own_row {te : TypeId} {g c : Nat} {cs : Array Value} {f : Nat × Nat} {l : List Int} (hl : l.length ≤ c) (hc : cs.size = c) (hth : Thaw cs f) (h : bf.Row cs 0 l) : OwnB te (.slice (some ⟨g, 0, none⟩) l.length c) l [(g, .cells cs te f)] :=
  ⟨by simp, .inr ⟨g, cs, c, f, rfl, hl, by omega, rfl, hth, fun j hj => by
    rw [List.length_map] at hj
    have := h j (l.getD j 0) (get_some 0 hj)
    rw [Nat.zero_add] at this
    rw [this, List.getElem?_map, get_some 0 hj]
    rfl⟩⟩
theorem own_open {te : TypeId} {A : Option Addr} {c : Nat} {l : List Int} {ow : List (Nat × Obj)} (h : OwnB te (.slice A l.length c) l ow) (hl : 0 < l.length) : ∃ g cs f, A = some ⟨g, 0, none⟩ ∧ ow = [(g, .cells cs te f)] ∧ l.length ≤ c ∧ cs.size = c ∧ Thaw cs f ∧ bf.Row cs 0 l := by
  rcases h.2 with ⟨_, h0, _⟩ | ⟨g, cs, c', f, hv, hc, hcs, rfl, hth, hr⟩
  · omega
  · injection hv with h1 h2 h3
    subst h1 h3
    refine ⟨g, cs, f, rfl, rfl, hc, by omega, hth, fun i v hi => ?_⟩
    have hi' := (List.getElem?_eq_some_iff.1 hi).1
    rw [Nat.zero_add, hr i (by simpa using hi'), List.getElem?_map, hi]
    rfl
theorem thaw_spl {cs : Array Value} {f : Nat × Nat} {o : Nat} {vs : List Value} (h : Thaw cs f) : Thaw (spl cs o vs) f := fun j hj => h j (by rw [spl_size] at hj; exact hj)
theorem row_add {cs : Array Value} {l t : List Int} (h : bf.Row cs 0 l) (hs : l.length + t.length ≤ cs.size) : bf.Row (spl cs l.length (t.map (Value.int .u8))) 0 (l ++ t) := by
  have := bf.row_more (r := 0) h (by omega) (t := t)
  rwa [Nat.zero_add] at this
/-- '[]byte' given back empty: 'x[:0]'. -/
theorem own_cut {te : TypeId} {A : Option Addr} {c : Nat} {l : List Int} {ow : List (Nat × Obj)} (h : OwnB te (.slice A l.length c) l ow) : OwnB te (.slice A ([] : List Int).length c) [] ow := by
  rcases h.2 with ⟨hv, h0, rfl⟩ | ⟨g, cs, c', f, hv, hc, hcs, rfl, hth, hr⟩
  · injection hv with h1 h2 h3
    subst h1 h3
    exact ownB_nil te
  · injection hv with h1 h2 h3
    subst h1 h3
    exact ⟨rfl, .inr ⟨g, cs, c, f, rfl, Nat.zero_le _, hcs, rfl, hth, fun j hj => by simp at hj⟩⟩
end Go.Proofs.YtnmelglnkefjfaaGreatDoor.rp
namespace Go.Proofs.YtnmelglnkefjfaaGreatDoor.rp
open Go.RowKit Go.Proofs.HHW Go.Proofs.YtnmelglnkefjfaaGreatDoorW.PrintWords
set_option linter.unusedVariables false
set_option linter.unusedSimpArgs false
theorem row_first {P : Program} {B : Nat} {w0 w : World} {L : List (Nat × Obj)} {gb o x : Nat} {cs : Array Value} {te : TypeId} {f : Nat × Nat} {l : List Int} (H : HH B w0 w L) (hm : (gb, Obj.cells cs te f) ∈ L) (h : bf.Row cs o l) : First P (.slice (some ⟨gb, o, none⟩) l.length x) l.length (l.map (Value.int .u8)) w := by
  refine RB.first (fun i v hi => ?_)
  have hat := H.at_ _ hm
  simp only at hat
  simp only [World.cell?, hat]
  exact h i v hi
theorem _root_.Go.Proofs.HHW.HH.push3 {B : Nat} {w0 w : World} {L : List (Nat × Obj)} {a b c x : Nat × Obj} (H : HH B w0 w (x :: a :: b :: c :: L)) : HH B w0 w (a :: b :: c :: x :: L) := H.perm ((List.perm_middle (l₁ := [a, b, c]) (a := x) (l₂ := L))).symm
/-- One digit more. -/
theorem next_dig {l : List Int} {i : Nat} {n : Int} (hi : i < l.length) (hd : (l.take i).all dig = true) (hx : 48 ≤ l.getD i 0 ∧ l.getD i 0 ≤ 57) (hn : i ≤ 18 → n = val 0 (l.take i)) : i + 1 ≤ 18 → IntKind.u64.wrap (IntKind.u64.wrap (n * 10) + IntKind.u64.wrap (IntKind.u8.wrap (l.getD i 0 - 48))) = val 0 (l.take (i + 1)) := by
  intro h18
  have e := hn (by omega)
  have hv := val17 hd (by rw [List.length_take]; omega)
  rw [take_succ_getD hi, val_snoc, ← e]
  rw [← e] at hv
  rw [IntWalk.u8_in _ (by omega), IntWalk.u64_in (n * 10) (by omega), IntWalk.u64_in (l.getD i 0 - 48) (by omega), IntWalk.u64_in _ (by omega)]
  omega
theorem to_i64 {l : List Int} {n : Int} (hd : l.all dig = true) (hn : l.length ≤ 18 → n = val 0 l) (hl : l.length ≤ 18) : IntKind.i64.wrap n = val 0 l := by
  have hv := val18 hd hl
  rw [hn hl, IntWalk.i64_in _ (by omega)]
theorem num_negW {b : List Int} {n : Int} (h0 : b.getD 0 0 = 45) (hd : (digs b).all dig = true) (hn : (digs b).length ≤ 18 → n = val 0 (digs b)) (hl : (digs b).length ≤ 18) : IntKind.i64.wrap (0 - IntKind.i64.wrap n) = num b := by
  rw [to_i64 hd hn hl]; exact num_neg h0 hd (fun _ => rfl) hl
theorem num_elseW {b : List Int} {n : Int} (h0 : b.getD 0 0 ≠ 45) (hd : (digs b).all dig = true) (hn : (digs b).length ≤ 18 → n = val 0 (digs b)) (hl : (digs b).length ≤ 18) : IntKind.i64.wrap n = num b := by
  rw [to_i64 hd hn hl, num, if_neg h0]
end Go.Proofs.YtnmelglnkefjfaaGreatDoor.rp
namespace Go.Proofs.YtnmelglnkefjfaaGreatDoor.rp
open Go.RowKit Go.Proofs.HHW Go.Proofs.YtnmelglnkefjfaaGreatDoorW.PrintWords
set_option linter.unusedVariables false
set_option linter.unusedSimpArgs false
theorem row_rb {B : Nat} {w0 w : World} {L : List (Nat × Obj)} {gb o : Nat} {cs : Array Value} {te : TypeId} {f : Nat × Nat} {l : List Int} (H : HH B w0 w L) (hm : (gb, Obj.cells cs te f) ∈ L) (h : bf.Row cs o l) : RB w gb o l := fun i v hi => by
  have hat := H.at_ _ hm
  simp only at hat
  simp only [World.cell?, hat]
  exact h i v hi
theorem ne_nil {l : List Int} (h : l.length ≠ 0) : l ≠ [] := fun e => h (by rw [e]; rfl)
theorem digs_sign {l : List Int} (h : l.length ≠ 0) (h0 : l.getD 0 0 = 45 ∨ l.getD 0 0 = 43) : digs l = l.drop 1 := by rw [digs, if_pos ⟨ne_nil h, h0⟩]
theorem digs_no {l : List Int} (h0 : ¬ (l.getD 0 0 = 45 ∨ l.getD 0 0 = 43)) : digs l = l := by rw [digs, if_neg (fun h => h0 h.2)]
end Go.Proofs.YtnmelglnkefjfaaGreatDoor.rp
namespace Go.Proofs.HHW
open Go.RowKit Go.Proofs.HHW Go.Proofs.YtnmelglnkefjfaaGreatDoorW.PrintWords
set_option linter.unusedVariables false
set_option linter.unusedSimpArgs false
section
variable {B : Nat} {w0 w : World} {L ow : List (Nat × Obj)} {a b c x y : Nat × Obj}
theorem HH.dropOwn (H : HH B w0 w (a :: b :: c :: x :: (ow ++ L))) : HH B w0 w (a :: b :: c :: L) := H.sub (((((List.sublist_append_right ow L).cons x).cons_cons c).cons_cons b).cons_cons a)
theorem HH.swap34 (H : HH B w0 w (a :: b :: c :: x :: y :: L)) : HH B w0 w (a :: b :: c :: y :: x :: L) := H.perm ((((List.Perm.swap y x L).cons c).cons b).cons a)
theorem HH.fore (H : HH B w0 w (a :: b :: c :: (ow ++ (x :: L)))) : HH B w0 w (a :: b :: c :: x :: (ow ++ L)) := H.perm ((((List.perm_middle (l₁ := ow) (a := x) (l₂ := L)).cons c).cons b).cons a)
theorem HH.drop4 (H : HH B w0 w (a :: b :: c :: x :: L)) : HH B w0 w (a :: b :: c :: L) := H.sub ((((List.sublist_cons_self x L).cons_cons c).cons_cons b).cons_cons a)
end
end Go.Proofs.HHW
namespace Go.Proofs.YtnmelglnkefjfaaGreatDoor.rp
open Go.RowKit Go.Proofs.HHW Go.Proofs.YtnmelglnkefjfaaGreatDoorW.PrintWords
set_option linter.unusedVariables false
set_option linter.unusedSimpArgs false
theorem many_cases {kd : Int} (h : many kd ≠ 0) : kd = 42 ∨ kd = 126 ∨ kd = 62 ∨ kd = 37 ∨ kd = 124 := by
  unfold many at h
  split at h
  · omega
  · split at h
    · omega
    · exact absurd rfl h
theorem blob_cases {kd : Int} (h : isBlob kd = true) : kd = 36 ∨ kd = 33 ∨ kd = 61 ∨ kd = 59 := by
  simp [isBlob] at h; omega
theorem many_nl {kd : Int} (h : many kd ≠ 0) : ¬ (kd = 46 ∨ isLine kd = true) := by
  rcases many_cases h with rfl | rfl | rfl | rfl | rfl <;> decide
theorem blob_nl {kd : Int} (h : isBlob kd = true) : ¬ (kd = 46 ∨ isLine kd = true) := by
  rcases blob_cases h with rfl | rfl | rfl | rfl <;> decide
theorem NT_many {kd : Int} {b : List Int} (h : many kd ≠ 0) (hb : b ≠ []) (hq : b.getD 0 0 ≠ 63) : NT kd b := ⟨many_nl h, fun h2 => h h2.1, fun h2 => hb h2.1, fun h2 => hq h2.2⟩
theorem NT_blob {kd : Int} {b : List Int} (h0 : many kd = 0) (h : isBlob kd = true) (h36 : kd = 36 → b ≠ [] ∧ b.getD 0 0 ≠ 63) : NT kd b :=
  ⟨blob_nl h, fun h2 => (by rw [h] at h2; exact absurd h2.2 (by decide)), fun h2 => (h2.2.elim (fun h3 => h3 h0) (fun h3 => (h36 h3).1 h2.1)), fun h2 => (h2.1.elim (fun h3 => h3 h0) (fun h3 => (h36 h3).2 h2.2))⟩
theorem size_ok {b : List Int} (h1 : ((digs b).all dig && decide (digs b ≠ [])) = true) (hne : size b ≠ none) : (digs b).length ≤ 18 ∧ size b = some (some (num b)) ∧ -1 ≤ num b ∧ num b ≤ 1048576 := by
  have h5 : (digs b).all dig = true ∧ digs b ≠ [] := by
    simp only [Bool.and_eq_true, decide_eq_true_eq] at h1; exact h1
  by_cases h : 18 < (digs b).length ∨ num b > 1048576 ∨ num b < -1
  · exact absurd (by rw [size, if_pos h5, if_pos h]) hne
  · exact ⟨by omega, by rw [size, if_pos h5, if_neg h], by omega, by omega⟩
theorem body_yes {m : Nat} {R : List Int} (h : m + 2 ≤ R.length) (hne : bodyR m R ≠ none) : bodyR m R = some (some (m + 2)) := by
  have h1 : bodyR m R = if (R.drop m).getD 0 0 = 13 ∧ (R.drop m).getD 1 0 = 10 then some (some (m + 2)) else none := by
    rw [bodyR, if_neg (by omega), if_pos (by rw [List.length_drop]; omega)]
  rw [h1] at hne ⊢
  split
  · rfl
  · rename_i h2; rw [if_neg h2] at hne; exact absurd rfl hne
theorem body_no {m : Nat} {R : List Int} (h : R.length < m + 2) : bodyR m R = some none := by
  rw [bodyR]
  split
  · rfl
  · rw [if_neg (by rw [List.length_drop]; omega)]
theorem take_more {Y R l : List Int} {a c : Nat} (h : Y.drop a = R) : (l ++ Y.take a) ++ R.take c = l ++ Y.take (a + c) := by
  rw [List.append_assoc, ← h, ← List.take_add]
theorem body_cut {Y : List Int} {j : Nat} (h2 : 2 ≤ j) (hj : j < Y.length) : (((Y.take (j + 1)).take ((Y.take (j + 1)).length - 2)).drop 1) = (Y.take (j - 1)).drop 1 := by
  rw [List.take_take, List.length_take, show min (min (j + 1) Y.length - 2) (j + 1) = j - 1 by omega]
theorem row_body {cs : Array Value} {o cap j : Nat} {Y : List Int} (h : bf.Row cs o (Y.take (j + 1))) (h2 : 2 ≤ j) (hj : j < Y.length) (hc : j + 1 ≤ cap) : bf.Row cs (offAt o cap 1) ((Y.take (j - 1)).drop 1) := by
  have h1 : bf.Row cs o (Y.take (j - 1)) := by
    have := row_take (k := j - 1) h
    rwa [List.take_take, show min (j - 1) (j + 1) = j - 1 by omega] at this
  unfold offAt
  rw [if_neg (by omega)]
  exact bf.row_drop h1
theorem row_get {cs : Array Value} {o i : Nat} {l : List Int} (h : bf.Row cs o l) (hi : i < l.length) : cs[o + i]? = some (Value.int .u8 (l.getD i 0)) := h _ _ (get_some 0 hi)
theorem body_len {Y : List Int} {j : Nat} (h2 : 2 ≤ j) (hj : j < Y.length) : ((Y.take (j - 1)).drop 1).length = j - 2 := by rw [List.length_drop, List.length_take]; omega
end Go.Proofs.YtnmelglnkefjfaaGreatDoor.rp
namespace Go.Proofs.YtnmelglnkefjfaaGreatDoor.rp
theorem many_ns {kd : Int} {m : Nat} (h : many kd ≠ 0) : ¬ ((m : Int) = -1 ∨ ((m : Int) = 0 ∧ kd = 59)) := by
  have := many_cases h
  omega
end Go.Proofs.YtnmelglnkefjfaaGreatDoor.rp
namespace Go.Proofs.YtnmelglnkefjfaaGreatDoor.rp
theorem many_two {kd : Int} (h : kd = 37 ∨ kd = 124) : many kd = 2 := by rcases h with rfl | rfl <;> rfl
theorem many_one {kd : Int} (h : many kd ≠ 0) (h2 : ¬ (kd = 37 ∨ kd = 124)) : many kd = 1 := by
  unfold many at *
  split
  · rfl
  · rename_i h3; rw [if_neg h3, if_neg h2] at h; exact absurd rfl h
end Go.Proofs.YtnmelglnkefjfaaGreatDoor.rp
namespace Go.Proofs.HHW
open Go.RowKit Go.Proofs.HHW Go.Proofs.YtnmelglnkefjfaaGreatDoorW.PrintWords
/-- 'string(b)' of bytes that are read whenever it comes up. -/
theorem r_strH {P : Program} {F : List (Nat × Value)} {B : Nat} {w0 : World} {L : List (Nat × Obj)} {t t' e : TypeId} {x : Operand} {A : Option Addr} {c : Nat} {l : List Int} (hx : ev F x = some (.slice A l.length c)) (hs : P.underlying t = some (.slice e)) (he : P.underlying e = some (.int .u8)) (hd' : P.underlying t' = some .string) (hC : ∀ w, HH B w0 w L → (Kd.int .u8).C w A l.length l) : Reads P F B w0 L (.convert t t' x) (.string (strOfNums l)) := by
  intro ρ Ag o ho w H
  unfold execOp
  simp only [ho]
  rw [Ag x _ hx]
  exact run_v (Kd.C_string hs he hd' (hC w H))
end Go.Proofs.HHW
namespace Go.Proofs.YtnmelglnkefjfaaGreatDoor.rp
open Go.RowKit Go.Proofs.HHW Go.Proofs.YtnmelglnkefjfaaGreatDoorW.PrintWords
theorem nums_ints (s : ByteArray) : strOfNums (ints s) = s := by
  have h : (strOfNums (ints s)).data.toList = s.data.toList := by
    rw [strOfNums_data]
    unfold ints
    rw [List.map_map]
    conv => rhs; rw [← List.map_id s.data.toList]
    apply List.map_congr_left
    intro b _
    simp
  have h2 : (strOfNums (ints s)).data = s.data := Array.toList_inj.1 h
  cases s
  cases hh : strOfNums (ints _)
  rw [hh] at h2
  simp only at h2
  rw [h2]
theorem ints_range {s : ByteArray} {x : Int} (h : x ∈ ints s) : 0 ≤ x ∧ x ≤ 255 := by
  unfold ints at h
  obtain ⟨b, _, rfl⟩ := List.mem_map.1 h
  have := b.toNat_lt
  omega
theorem str_take (s : ByteArray) (c : Nat) : strOfNums ((ints s).take c) = s.extract 0 c := by
  have h := ints_extract s 0 c
  rw [List.drop_zero] at h
  rw [← h]
  exact nums_ints _
end Go.Proofs.YtnmelglnkefjfaaGreatDoor.rp
