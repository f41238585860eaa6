/- SHA-1: what lies in a sum that is being fed; the ring of words. -/
import Derived.Test.YtnmelglnkefjfaaGreatDoorShap
namespace Go.Proofs.YtnmelglnkefjfaaGreatDoor.sha
open Go.RowKit Go.Proofs.HHW Go.Proofs.YtnmelglnkefjfaaGreatDoorW.PrintWords
set_option linter.unusedVariables false
def dg (s : St) (x : List Int) (nx ln : Nat) : List Value := .int .u32 (s.a.toNat : Int) :: .int .u32 (s.b.toNat : Int) :: .int .u32 (s.c.toNat : Int) :: .int .u32 (s.d.toNat : Int) :: .int .u32 (s.e.toNat : Int) :: (x.map (Value.int .u8) ++ [.int .i64 (nx : Int), .int .u64 (ln : Int)])
variable {s : St} {x : List Int} {nx ln : Nat}
theorem dg_len (hx : x.length = 64) : (dg s x nx ln).length = 71 := by simp [dg, hx]
theorem dg_nx (hx : x.length = 64) : (dg s x nx ln).toArray[69]? = some (.int .i64 (nx : Int)) := by
  simp only [dg, List.getElem?_toArray]
  rw [show (69 : Nat) = 64 + 5 from rfl]
  simp only [List.getElem?_cons_succ]
  rw [List.getElem?_append_right (by simp [hx])]
  simp [hx]
theorem dg_ln (hx : x.length = 64) : (dg s x nx ln).toArray[70]? = some (.int .u64 (ln : Int)) := by
  simp only [dg, List.getElem?_toArray]
  rw [show (70 : Nat) = 65 + 5 from rfl]
  simp only [List.getElem?_cons_succ]
  rw [List.getElem?_append_right (by simp [hx])]
  simp [hx]
theorem dg_x {i : Nat} {v : Int} (hi : x[i]? = some v) : (dg s x nx ln).toArray[5 + i]? = some (.int .u8 v) := by
  simp only [dg, List.getElem?_toArray]
  rw [Nat.add_comm 5 i]
  simp only [List.getElem?_cons_succ]
  have h := (List.getElem?_eq_some_iff.1 hi).1
  rw [List.getElem?_append_left (by simpa using h), List.getElem?_map, hi]
  rfl
theorem dg_set_a (v : Wd) : (dg s x nx ln).toArray.setIfInBounds 0 (.int .u32 (v.toNat : Int)) = (dg ⟨v, s.b, s.c, s.d, s.e⟩ x nx ln).toArray := by simp [dg]
theorem dg_set_b (v : Wd) : (dg s x nx ln).toArray.setIfInBounds 1 (.int .u32 (v.toNat : Int)) = (dg ⟨s.a, v, s.c, s.d, s.e⟩ x nx ln).toArray := by simp [dg]
theorem dg_set_c (v : Wd) : (dg s x nx ln).toArray.setIfInBounds 2 (.int .u32 (v.toNat : Int)) = (dg ⟨s.a, s.b, v, s.d, s.e⟩ x nx ln).toArray := by simp [dg]
theorem dg_set_d (v : Wd) : (dg s x nx ln).toArray.setIfInBounds 3 (.int .u32 (v.toNat : Int)) = (dg ⟨s.a, s.b, s.c, v, s.e⟩ x nx ln).toArray := by simp [dg]
theorem dg_set_e (v : Wd) : (dg s x nx ln).toArray.setIfInBounds 4 (.int .u32 (v.toNat : Int)) = (dg ⟨s.a, s.b, s.c, s.d, v⟩ x nx ln).toArray := by simp [dg]
theorem set_at {l r : List Value} {u v : Value} {n : Nat} (h : l.length = n) : (l ++ u :: r).set n v = l ++ v :: r := by
  subst h; simp
theorem dg_set_nx (hx : x.length = 64) (n : Nat) : (dg s x nx ln).toArray.setIfInBounds 69 (.int .i64 (n : Int)) = (dg s x n ln).toArray := by
  simp only [dg, List.setIfInBounds_toArray]
  congr 1
  rw [show (69 : Nat) = 64 + 5 from rfl]
  simp only [List.set_cons_succ]
  rw [set_at (by simp [hx])]
theorem dg_set_ln (hx : x.length = 64) (n : Nat) : (dg s x nx ln).toArray.setIfInBounds 70 (.int .u64 (n : Int)) = (dg s x nx n).toArray := by
  simp only [dg, List.setIfInBounds_toArray]
  congr 1
  rw [show (70 : Nat) = 65 + 5 from rfl]
  simp only [List.set_cons_succ]
  have := set_at (l := x.map (Value.int .u8) ++ [.int .i64 (nx : Int)]) (u := .int .u64 (ln : Int)) (r := []) (v := .int .u64 (n : Int)) (n := 65) (by simp [hx])
  simp only [List.append_assoc, List.cons_append, List.nil_append] at this
  rw [this]
theorem dg_one : ∀ v ∈ dg s x nx ln, v.oneCell' = true := by
  intro v hv
  simp only [dg, List.mem_cons, List.mem_append, List.mem_map] at hv
  rcases hv with rfl | rfl | rfl | rfl | rfl | ⟨_, _, rfl⟩ | rfl | rfl | h <;> first | rfl | cases h
/-- Bytes laid over others. -/
def splx (x : List Int) (o : Nat) (l : List Int) : List Int := x.take o ++ l ++ x.drop (o + l.length)
theorem splx_len {o : Nat} {l : List Int} (h : o + l.length ≤ x.length) : (splx x o l).length = x.length := by simp [splx]; omega
theorem splx_get {o : Nat} {l : List Int} (h : o + l.length ≤ x.length) (j : Nat) : (splx x o l)[j]? = if j < o then x[j]? else if j < o + l.length then l[j - o]? else x[j]? := by
  unfold splx
  have h1 : (x.take o).length = o := by rw [List.length_take]; omega
  by_cases hj : j < o
  · rw [if_pos hj, List.append_assoc, List.getElem?_append_left (by omega), List.getElem?_take_of_lt hj]
  · rw [if_neg hj, List.append_assoc, List.getElem?_append_right (by omega), h1]
    by_cases hk : j < o + l.length
    · rw [if_pos hk, List.getElem?_append_left (by omega)]
    · rw [if_neg hk, List.getElem?_append_right (by omega), List.getElem?_drop]
      congr 1
      omega
theorem dg_spl (hx : x.length = 64) {o : Nat} {l : List Int} (h : o + l.length ≤ 64) : spl (dg s x nx ln).toArray (5 + o) (l.map (Value.int .u8)) = (dg s (splx x o l) nx ln).toArray := by
  have hl1 := dg_len (s := s) (nx := nx) (ln := ln) hx
  have hx' : (splx x o l).length = 64 := by rw [splx_len (by omega), hx]
  have hl2 := dg_len (s := s) (nx := nx) (ln := ln) hx'
  apply Array.ext_getElem?
  intro j
  by_cases h1 : j < 5 + o ∨ 5 + o + l.length ≤ j
  · rw [spl_out _ _ _ _ (by rw [List.length_map]; exact h1)]
    by_cases h5 : j < 5
    · have : j = 0 ∨ j = 1 ∨ j = 2 ∨ j = 3 ∨ j = 4 := by omega
      rcases this with rfl | rfl | rfl | rfl | rfl <;> rfl
    · obtain ⟨k, rfl⟩ : ∃ k, j = k + 5 := ⟨j - 5, by omega⟩
      simp only [dg, List.getElem?_toArray, List.getElem?_cons_succ]
      by_cases hk : k < 64
      · rw [List.getElem?_append_left (by simp [hx]; exact hk), List.getElem?_append_left (by simp [hx']; exact hk), List.getElem?_map, List.getElem?_map, splx_get (by omega)]
        by_cases hko : k < o
        · rw [if_pos hko]
        · rw [if_neg hko, if_neg (by omega)]
      · rw [List.getElem?_append_right (by simp [hx]; omega), List.getElem?_append_right (by simp [hx']; omega)]
        simp [hx, hx']
  · have h2 := spl_in (l.map (Value.int .u8)) (dg s x nx ln).toArray (5 + o) (j - (5 + o)) (by simp [hl1]; omega) (by rw [List.length_map]; omega)
    rw [show 5 + o + (j - (5 + o)) = j by omega] at h2
    rw [h2]
    have hv := get_some 0 (show j - (5 + o) < l.length by omega)
    rw [List.getElem?_map, hv]
    have := dg_x (s := s) (nx := nx) (ln := ln) (x := splx x o l) (i := j - 5) (v := l.getD (j - (5 + o)) 0) (by rw [splx_get (by omega), if_neg (by omega), if_pos (by omega), ← hv]; congr 1; omega)
    rw [show 5 + (j - 5) = j by omega] at this
    rw [this]; rfl
/-! ### the ring of words -/
def cir (m : Nat → Wd) (t : Nat) (j : Nat) : Wd := ws m (t - 1 - (t - 1 - j) % 16)
theorem cir_at {m : Nat → Wd} {t u : Nat} (h : u < t) (h2 : t ≤ u + 16) (h16 : 16 ≤ t) : cir m t (u % 16) = ws m u := by
  unfold cir
  congr 1
  omega
theorem cir_up {m : Nat → Wd} {t : Nat} (h16 : 16 ≤ t) {y : Wd} (hy : y = ws m t) : fv (w32 (up (cir m t) (t % 16) y)) 16 = fv (w32 (cir m (t + 1))) 16 := by
  subst hy
  apply fv_ext
  intro j hj
  unfold w32 up
  by_cases e : j = t % 16
  · rw [if_pos e]
    have := cir_at (m := m) (t := t + 1) (u := t) (by omega) (by omega) (by omega)
    rw [e, this]
  · rw [if_neg e]
    unfold cir
    have : t - 1 - (t - 1 - j) % 16 = t + 1 - 1 - (t + 1 - 1 - j) % 16 := by omega
    rw [this]
def fillT (m f : Nat → Wd) (i : Nat) : Nat → Wd := fun j => if j < i then m j else f j
theorem fillT0 (m f : Nat → Wd) : fillT m f 0 = f := by funext j; simp [fillT]
theorem fillT_up (m f : Nat → Wd) (i : Nat) {y : Wd} (hy : y = m i) : up (fillT m f i) i y = fillT m f (i + 1) := by
  subst hy
  funext j
  unfold up fillT
  by_cases e : j = i
  · subst e; simp
  · by_cases l : j < i
    · simp [e, l, Nat.lt_succ_of_lt l]
    · have : ¬ j < i + 1 := by omega
      simp [e, l, this]
theorem fill16 (m f : Nat → Wd) : fv (w32 (fillT m f 16)) 16 = fv (w32 (cir m 16)) 16 := by
  apply fv_ext
  intro j hj
  unfold w32 fillT cir
  rw [if_pos hj, show 16 - 1 - (16 - 1 - j) % 16 = j by omega, ws_lo hj]
theorem next_a {m : Nat → Wd} {t : Nat} {s : St} {f k y : Wd} (hf : f = fF t s.b s.c s.d) (hk : k = kF t) (hy : y = ws m t) : rot s.a 5 + f + s.e + y + k = (rnd m t s).a := by
  subst hf hk hy
  exact add_swap _ _ _
theorem fF0 {t : Nat} (h : t < 20) (b c d : Wd) : (b &&& c ||| ~~~ b &&& d) = fF t b c d := by rw [f_or]; unfold fF; rw [if_pos (by omega)]
theorem fF1 {t : Nat} (h : 20 ≤ t) (h2 : t < 40) (b c d : Wd) : (b ^^^ c ^^^ d) = fF t b c d := by unfold fF; rw [if_neg (by omega), if_pos (by omega)]
theorem fF2 {t : Nat} (h : 40 ≤ t) (h2 : t < 60) (b c d : Wd) : ((b ||| c) &&& d ||| b &&& c) = fF t b c d := by rw [f_maj]; unfold fF; rw [if_neg (by omega), if_neg (by omega), if_pos (by omega)]
theorem fF3 {t : Nat} (h : 60 ≤ t) (h2 : t < 80) (b c d : Wd) : (b ^^^ c ^^^ d) = fF t b c d := by unfold fF; rw [if_neg (by omega), if_neg (by omega), if_neg (by omega)]
theorem kF0 {t : Nat} (h : t < 20) : 1518500249#32 = kF t := by unfold kF; rw [if_pos (by omega)]
theorem kF1 {t : Nat} (h : 20 ≤ t) (h2 : t < 40) : 1859775393#32 = kF t := by unfold kF; rw [if_neg (by omega), if_pos (by omega)]
theorem kF2 {t : Nat} (h : 40 ≤ t) (h2 : t < 60) : 2400959708#32 = kF t := by unfold kF; rw [if_neg (by omega), if_neg (by omega), if_pos (by omega)]
theorem kF3 {t : Nat} (h : 60 ≤ t) (h2 : t < 80) : 3395469782#32 = kF t := by unfold kF; rw [if_neg (by omega), if_neg (by omega), if_neg (by omega)]
/-- Bytes fed so far. -/
def OkX (D x : List Int) : Prop := x.length = 64 ∧ x.take (D.length % 64) = tl D ∧ ∀ y ∈ x, 0 ≤ y ∧ y ≤ 255
theorem ok_nil : OkX [] (List.replicate 64 0) := ⟨rfl, rfl, fun y hy => by have := List.eq_of_mem_replicate hy; omega⟩
theorem splx_range {x l : List Int} {o : Nat} (hx : ∀ y ∈ x, 0 ≤ y ∧ y ≤ 255) (hl : ∀ y ∈ l, 0 ≤ y ∧ y ≤ 255) : ∀ y ∈ splx x o l, 0 ≤ y ∧ y ≤ 255 := by
  intro y hy
  unfold splx at hy
  simp only [List.mem_append] at hy
  rcases hy with (hy | hy) | hy
  · exact hx y (List.mem_of_mem_take hy)
  · exact hl y hy
  · exact hx y (List.mem_of_mem_drop hy)
def dgD (D x : List Int) : List Value := dg (blks init D) x (D.length % 64) D.length
theorem tlx {D x : List Int} (h : OkX D x) : (tl D).length = D.length % 64 ∧ x.take (D.length % 64) = tl D ∧ x.length = 64 := ⟨tl_len D, h.2.1, h.1⟩
theorem feed_short {D l x : List Int} (ok : OkX D x) (hl : ∀ y ∈ l, 0 ≤ y ∧ y ≤ 255) (h : D.length % 64 + l.length < 64) : OkX (D ++ l) (splx x (D.length % 64) l) ∧ blks init (D ++ l) = blks init D ∧ (D ++ l).length % 64 = D.length % 64 + l.length := by
  obtain ⟨h1, h2, h3⟩ := tlx ok
  have hlen : (D ++ l).length % 64 = D.length % 64 + l.length := by rw [List.length_append]; omega
  refine ⟨⟨by rw [splx_len (by omega), h3], ?_, splx_range ok.2.2 hl⟩, ?_, hlen⟩
  · rw [hlen, tl_more, tl_short (l := tl D ++ l) (by rw [List.length_append]; omega)]
    unfold splx
    rw [h2, List.take_append_of_le_length (by rw [List.length_append]; omega), List.take_of_length_le (by rw [List.length_append]; omega)]
  · rw [blks_more, blks_short (by rw [List.length_append]; omega)]
theorem feed_full {D l x : List Int} (ok : OkX D x) (hl : ∀ y ∈ l, 0 ≤ y ∧ y ≤ 255) (h : D.length % 64 + l.length = 64) : blks init (D ++ l) = blks (blks init D) (splx x (D.length % 64) l) ∧ (D ++ l).length % 64 = 0 ∧ (splx x (D.length % 64) l).length = 64 ∧ OkX (D ++ l) (splx x (D.length % 64) l) := by
  obtain ⟨h1, h2, h3⟩ := tlx ok
  have hlen : (D ++ l).length % 64 = 0 := by rw [List.length_append]; omega
  have hs : splx x (D.length % 64) l = tl D ++ l := by
    unfold splx
    rw [h2, List.drop_eq_nil_of_le (by omega), List.append_nil]
  have h64 : (splx x (D.length % 64) l).length = 64 := by rw [splx_len (by omega), h3]
  refine ⟨by rw [blks_more, hs], hlen, h64, h64, ?_, splx_range ok.2.2 hl⟩
  rw [hlen]
  have := tl_len (D ++ l)
  rw [hlen] at this
  rw [List.length_eq_zero_iff.1 this]; rfl
theorem feed_blocks {D l x : List Int} (ok : OkX D x) (h : D.length % 64 = 0) (hl : l.length % 64 = 0) : blks init (D ++ l) = blks (blks init D) l ∧ (D ++ l).length % 64 = 0 ∧ OkX (D ++ l) x := by
  have h0 : tl D = [] := List.length_eq_zero_iff.1 (by rw [tl_len, h])
  have hlen : (D ++ l).length % 64 = 0 := by rw [List.length_append]; omega
  refine ⟨by rw [blks_more, h0]; rfl, hlen, ok.1, ?_, ok.2.2⟩
  rw [hlen]
  have := tl_len (D ++ l)
  rw [hlen] at this
  rw [List.length_eq_zero_iff.1 this]; rfl
theorem dg_spl_take {s : St} {x l : List Int} {nx ln : Nat} (hx : x.length = 64) {o k : Nat} (hk : k ≤ l.length) (h : o + k ≤ 64) : spl (dg s x nx ln).toArray (5 + o) ((l.map (Value.int .u8)).take k) = (dg s (splx x o (l.take k)) nx ln).toArray := by
  rw [← List.map_take]
  exact dg_spl hx (by rw [List.length_take]; omega)
theorem RB.ofO {B : Nat} {w0 w : World} {L : List (Nat × Obj)} {g o : Nat} {cs : Array Value} {e : TypeId} {f : Nat × Nat} {l : List Int} (H : HH B w0 w L) (hm : (g, Obj.cells cs e f) ∈ L) (h : ∀ (i : Nat) (v : Int), l[i]? = some v → cs[o + i]? = some (Value.int .u8 v)) : RB w g o l := fun i v hi => by
  have hat := H.at_ _ hm
  simp only at hat
  simp [World.cell?, hat, h i v hi]
theorem Rep.cast {L L' : List (Nat × Obj)} {g j : Nat} {cs cs' : Array Value} {t : TypeId} {f : Nat × Nat} {vs : List Value} (h : spl cs j vs = cs') (hu : Rep L g (.cells cs t f) g (.cells cs' t f) L') : Rep L g (.cells cs t f) g (.cells (spl cs j vs) t f) L' := by
  subst h; exact hu
/-- Where cut rows are read. -/
theorem cut_row {cs : Array Value} {o c : Nat} {l : List Int} (h : ∀ (i : Nat) (v : Int), l[i]? = some v → cs[o + i]? = some (Value.int .u8 v)) (m : Nat) (hc : l.length ≤ c) : ∀ (i : Nat) (v : Int), (l.drop m)[i]? = some v → cs[offAt o c m + i]? = some (Value.int .u8 v) := by
  intro i v hi
  rw [List.getElem?_drop] at hi
  unfold offAt
  split
  · rename_i e
    have := (List.getElem?_eq_some_iff.1 hi).1
    omega
  · rw [Nat.add_assoc]; exact h _ v hi
theorem spl_snoc {cs : Array Value} {o n : Nat} {xs : List Value} {v : Value} (hn : n = o + xs.length) : (spl cs o xs).setIfInBounds n v = spl cs o (xs ++ [v]) := by
  subst hn
  induction xs generalizing cs o with
  | nil => rfl
  | cons u r ih =>
    simp only [spl, List.cons_append, List.length_cons]
    rw [show o + (r.length + 1) = o + 1 + r.length by omega]
    exact ih
end Go.Proofs.YtnmelglnkefjfaaGreatDoor.sha
