/- Part of the proof that FnDecodeCRLF answers true at every text, in every world that its card's statement admits; no condition beyond those. -/
import Derived.Test.YtbahngfpadjbhaaGreatDoorR24
import Derived.Test.YtbahngfpadjbhaaGreatDoorR17
import Derived.Test.YtbahngfpadjbhaaGreatDoorR05
import Derived.Test.YtbahngfpadjbhaaGreatDoorR04
set_option linter.unusedVariables false
set_option linter.unusedSimpArgs false
section
namespace Go.Proofs.YtbahngfpadjbhaaGreatDoor.dt
open Go.RowKit Go.Proofs.HHW Go.Proofs.YtbahngfpadjbhaaGreatDoorW.PrintWords Go.Proofs.YtbahngfpadjbhaaGreatDoor.dc
def crl : List Int → List Int
 | [] => []
 | c :: l => if c = 10 then 13 :: 10 :: crl l else c :: crl l
structure Lk (X Y : List Int) (n : Nat) : Prop where
 lx : n ≤ X.length
 ly : n ≤ Y.length
 lt : n < X.length ↔ n < Y.length
 ag : ∀ i, i < n → X.getD i 0 = Y.getD i 0
 no : ∀ i, i < n → X.getD i 0 ≠ 10 ∧ X.getD i 0 ≠ 13
 nq : ∀ i, i < X.length → X.getD i 0 ≠ 34
 x10 : n < X.length → X.getD n 0 = 10
 y13 : n < X.length → Y.getD n 0 = 13 ∧ n + 1 < Y.length ∧ Y.getD (n + 1) 0 = 10
section
variable {X Y : List Int} {n : Nat}
theorem Lk.run (L : Lk X Y n) {k : Nat} (h10 : sIn k 10 = false) (h13 : sIn k 13 = false) {p : Nat} (hp : p ≤ n) : run k X p = run k Y p ∧ run k X p ≤ n := by
 induction h : n - p generalizing p with
 | zero =>
  have : p = n := by omega
  subst this
  rcases Nat.lt_or_ge p X.length with hx | hx
  ·
   rw [run_stop hx (by rw [L.x10 hx]; exact h10), run_stop (L.lt.1 hx) (by rw [(L.y13 hx).1]; exact h13)]
   exact ⟨rfl, Nat.le_refl _⟩
  ·
   have hy : Y.length ≤ p := Nat.le_of_not_lt fun hy => absurd (L.lt.2 hy) (by omega)
   rw [run_end hx, run_end hy]
   exact ⟨rfl, Nat.le_refl _⟩
 | succ m ih =>
  have hlt : p < n := by omega
  have hx : p < X.length := Nat.lt_of_lt_of_le hlt L.lx
  have hy : p < Y.length := Nat.lt_of_lt_of_le hlt L.ly
  have e := L.ag p hlt
  cases hs : sIn k (X.getD p 0).toNat with
  | true =>
   rw [run_step hx hs, run_step hy (by rw [← e]; exact hs)]
   exact ih (by omega) (by omega)
  | false =>
   rw [run_stop hx hs, run_stop hy (by rw [← e]; exact hs)]
   exact ⟨rfl, hp⟩
theorem Lk.tk_ (L : Lk X Y n) {sp : Nat → Bool} {h : Nat → Nat} (s10 : sp 10 = false) (s13 : sp 13 = false) (h10 : h 10 = 0) (h13 : h 13 = 0) : ∀ (m p : Nat), n - p < m → p ≤ n → tk sp h (X.drop p) = tk sp h (Y.drop p) ∧ p + (tk sp h (X.drop p)).2 ≤ n := by
 intro m
 induction m with
 | zero => intro p h; omega
 | succ m ih =>
  intro p hm hp
  rcases Nat.eq_or_lt_of_le hp with rfl | hlt
  ·
   rcases Nat.lt_or_ge p X.length with hx | hx
   ·
    rw [tk_stop hx (by rw [L.x10 hx]; decide) (by rw [L.x10 hx]; exact s10), tk_stop (L.lt.1 hx) (by rw [(L.y13 hx).1]; decide) (by rw [(L.y13 hx).1]; exact s13)]
    exact ⟨rfl, Nat.le_refl _⟩
   ·
    have hy : Y.length ≤ p := Nat.le_of_not_lt fun hy => absurd (L.lt.2 hy) (by omega)
    rw [tk_nil hx, tk_nil hy]
    exact ⟨rfl, Nat.le_refl _⟩
  ·
   have hx : p < X.length := Nat.lt_of_lt_of_le hlt L.lx
   have hy : p < Y.length := Nat.lt_of_lt_of_le hlt L.ly
   have e := L.ag p hlt
   obtain ⟨i1, i2⟩ := ih (p + 1) (by omega) (by omega)
   by_cases hc : X.getD p 0 = 92
   ·
    by_cases hl : p + 1 < X.length
    ·
     have hl' : p + 1 < Y.length := by
      rcases Nat.lt_or_ge (p + 1) n with h' | h'
      ·
       exact Nat.lt_of_lt_of_le h' L.ly
      ·
       have : p + 1 = n := by omega
       subst this
       exact L.lt.1 hl
     by_cases hd : h (X.getD (p + 1) 0).toNat = 0
     ·
      have hd' : h (Y.getD (p + 1) 0).toNat = 0 := by
       rcases Nat.lt_or_ge (p + 1) n with h' | h'
       ·
        rw [← L.ag _ h']; exact hd
       ·
        have : p + 1 = n := by omega
        subst this
        rw [(L.y13 hl).1]; exact h13
      rw [tk_bs hl hc hd, tk_bs hl' (by rw [← e]; exact hc) hd', i1]
      rw [i1] at i2
      exact ⟨rfl, by simp only; omega⟩
     ·
      have h' : p + 1 < n := by
       rcases Nat.lt_or_ge (p + 1) n with h' | h'
       ·
        exact h'
       ·
        have : p + 1 = n := by omega
        subst this
        exact absurd (by rw [L.x10 hl]; exact h10) hd
      have e2 := L.ag _ h'
      obtain ⟨j1, j2⟩ := ih (p + 2) (by omega) (by omega)
      rw [tk_esc hl hc hd, tk_esc hl' (by rw [← e]; exact hc) (by rw [← e2]; exact hd), j1, e2]
      rw [j1] at j2
      exact ⟨rfl, by simp only; omega⟩
    ·
     have h1 : p + 1 = X.length := by omega
     have h2 : p + 1 = n := by have := L.lx; omega
     have h3 : p + 1 = Y.length := by
      have := L.ly
      rcases Nat.lt_or_ge n Y.length with h' | h'
      ·
       have := L.lt.2 h'; omega
      ·
       omega
     rw [tk_last h1 hc, tk_last h3 (by rw [← e]; exact hc)]
     exact ⟨rfl, by simp only; omega⟩
   ·
    cases hs : sp (X.getD p 0).toNat with
    | true =>
     rw [tk_ord hx hc hs, tk_ord hy (by rw [← e]; exact hc) (by rw [← e]; exact hs), i1, e]
     rw [i1] at i2
     exact ⟨rfl, by simp only; omega⟩
    | false =>
     rw [tk_stop hx hc hs, tk_stop hy (by rw [← e]; exact hc) (by rw [← e]; exact hs)]
     exact ⟨rfl, hp⟩
theorem Lk.tkn (L : Lk X Y n) {k s : Nat} (s10 : sIn s 10 = false) (s13 : sIn s 13 = false) (h10 : tabH (ints (escS k)) 10 = 0) (h13 : tabH (ints (escS k)) 13 = 0) {p : Nat} (hp : p ≤ n) : tkT k s X p = tkT k s Y p ∧ tkQ k s X p = tkQ k s Y p ∧ p ≤ tkQ k s X p ∧ tkQ k s X p ≤ n := by
 obtain ⟨h1, h2⟩ := L.tk_ s10 s13 h10 h13 (n - p + 1) p (by omega) hp
 refine ⟨?_, ?_, ?_, h2⟩
 ·
  show (tk (sIn s) (tabH (ints (escS k))) (X.drop p)).1 = (tk (sIn s) (tabH (ints (escS k))) (Y.drop p)).1
  rw [h1]
 ·
  unfold tkQ; rw [h1]
 ·
  unfold tkQ; omega
theorem Lk.len (L : Lk X Y n) {p : Nat} (hp : p ≤ n) : (X.length ≤ p) = (Y.length ≤ p) := by
 have := L.lx
 have := L.ly
 have := L.lt
 apply propext
 constructor <;> intro h <;> omega
theorem Lk.is (L : Lk X Y n) {c : Int} (h10 : c ≠ 10) (h13 : c ≠ 13) {p : Nat} (hp : p ≤ n) : (p < X.length ∧ X.getD p 0 = c) = (p < Y.length ∧ Y.getD p 0 = c) := by
 have h1 := L.lt
 apply propext
 rcases Nat.eq_or_lt_of_le hp with rfl | hlt
 ·
  constructor
  ·
   rintro ⟨hx, h⟩; rw [L.x10 hx] at h; exact absurd h.symm h10
  ·
   rintro ⟨hy, h⟩; rw [(L.y13 (h1.2 hy)).1] at h; exact absurd h.symm h13
 ·
  have := L.lx
  have := L.ly
  rw [L.ag p hlt]
  constructor <;> intro h <;> exact ⟨by omega, h.2⟩
theorem Lk.lt_of (L : Lk X Y n) {c : Int} (h10 : c ≠ 10) {p : Nat} (hp : p ≤ n) (hx : p < X.length) (h : X.getD p 0 = c) : p < n := by
 rcases Nat.eq_or_lt_of_le hp with rfl | hlt
 ·
  rw [L.x10 hx] at h; exact absurd h.symm h10
 ·
  exact hlt
theorem Lk.take (L : Lk X Y n) {p : Nat} (hp : p ≤ n) : X.take p = Y.take p := by
 have := L.lx
 have := L.ly
 refine List.ext_getElem (by rw [List.length_take, List.length_take]; omega) fun i h1 h2 => ?_
 rw [List.length_take] at h1 h2
 rw [List.getElem_take, List.getElem_take]
 have e := L.ag i (by omega)
 rw [List.getD_eq_getElem?_getD, List.getD_eq_getElem?_getD, List.getElem?_eq_getElem (by omega), List.getElem?_eq_getElem (by omega)] at e
 exact e
theorem Lk.flt (L : Lk X Y n) {q p : Nat} (hq : q ≤ n) (hp : p ≤ n) (line : Nat) : flt X q p line = flt Y q p line := by
 unfold dt.flt
 rw [L.take hq, L.take hp]
theorem Lk.comma (L : Lk X Y n) {p : Nat} (hp : p ≤ n) : comma X p = comma Y p ∧ (comma X p).1 ≤ n := by
 unfold dt.comma
 simp only [L.is (c := 44) (by decide) (by decide) hp]
 by_cases h : p < Y.length ∧ Y.getD p 0 = 44
 ·
  rw [if_pos h, if_pos h]
  have h' : p < X.length ∧ X.getD p 0 = 44 := by rw [L.is (c := 44) (by decide) (by decide) hp]; exact h
  have hlt := L.lt_of (by decide) hp h'.1 h'.2
  refine ⟨?_, hlt⟩
  congr 1
  rcases Nat.eq_or_lt_of_le (Nat.succ_le_of_lt hlt) with e | h2
  ·
   have e : p + 1 = n := e
   rcases Nat.lt_or_ge n X.length with hx | hx
   ·
    rw [e, L.x10 hx, (L.y13 hx).1]
    have := L.lt.1 hx
    simp [sIn]
   ·
    have hy : Y.length ≤ n := Nat.le_of_not_lt fun hy => absurd (L.lt.2 hy) (by omega)
    rw [decide_eq_true (by omega : X.length ≤ p + 1), decide_eq_true (by omega : Y.length ≤ p + 1)]; rfl
  ·
   have := L.lx
   have := L.ly
   rw [L.ag (p + 1) h2, decide_eq_false (by omega : ¬ X.length ≤ p + 1), decide_eq_false (by omega : ¬ Y.length ≤ p + 1)]
 ·
  rw [if_neg h, if_neg h]
  exact ⟨rfl, hp⟩
theorem Lk.eol (L : Lk X Y n) {p : Nat} (hp : p ≤ n) : (eol X p = eol Y p ∧ (eol X p).2.1 = 0 ∧ ((eol X p).1 = true → p = n)) ∨ (p = n ∧ n < X.length ∧ eol X p = (true, 1, 1) ∧ eol Y p = (true, 2, 1)) := by
 have := L.lx
 have := L.ly
 rcases Nat.eq_or_lt_of_le hp with rfl | hlt
 ·
  rcases Nat.lt_or_ge p X.length with hx | hx
  ·
   refine .inr ⟨rfl, hx, ?_, ?_⟩
   ·
    unfold dc.eol
    rw [if_neg (by omega), if_pos (L.x10 hx)]
   ·
    obtain ⟨y1, y2, y3⟩ := L.y13 hx
    unfold dc.eol
    rw [if_neg (by omega), if_neg (by rw [y1]; decide), if_pos y1, if_neg (by omega), if_pos y3]
  ·
   have hy : Y.length ≤ p := Nat.le_of_not_lt fun hy => absurd (L.lt.2 hy) (by omega)
   refine .inl ⟨?_, ?_, fun _ => rfl⟩ <;> unfold dc.eol
   ·
    rw [if_pos hx, if_pos hy]
   ·
    rw [if_pos hx]
 ·
  obtain ⟨n1, n2⟩ := L.no p hlt
  have e := L.ag p hlt
  have e1 : dc.eol X p = (false, 0, 0) := by
   unfold dc.eol
   rw [if_neg (by omega), if_neg n1, if_neg n2]
  have e2 : dc.eol Y p = (false, 0, 0) := by
   unfold dc.eol
   rw [if_neg (by omega), if_neg (by rw [← e]; exact n1), if_neg (by rw [← e]; exact n2)]
  rw [e1, e2]
  exact .inl ⟨rfl, rfl, nofun⟩
def Rs {α : Type} (X : List Int) (n : Nat) (a b : Res α) : Prop := a.r = b.r ∧ a.f = b.f ∧ a.sec = b.sec ∧ a.line = b.line ∧ (a.p = b.p ∧ a.p ≤ n ∨ a.f = none ∧ a.sec = 5 ∧ n < X.length ∧ a.p = n + 1 ∧ b.p = n + 2)
theorem Rs.same {α : Type} {a b : Res α} (h : a = b) (hp : a.p ≤ n) : Rs X n a b := by subst h; exact ⟨rfl, rfl, rfl, rfl, .inl ⟨rfl, hp⟩⟩
theorem Lk.name (L : Lk X Y n) (line : Nat) : nameP X line = nameP Y line ∧ (nameP X line).p ≤ n := by
 obtain ⟨t1, t2, _, t4⟩ := L.tkn (k := 0) (s := 5) rfl rfl (by decide) (by decide) (Nat.zero_le n)
 unfold nameP
 rw [t2] at t4 ⊢
 have c := L.comma t4
 have hb := c.2
 rw [c.1] at hb ⊢
 rw [t1, L.flt (Nat.zero_le n) t4 line, L.flt hb hb line]
 refine ⟨rfl, ?_⟩
 (repeat' split) <;> simp only <;> assumption
theorem Lk.stop (L : Lk X Y n) {q : Nat} (hq : q ≤ n) : (X.length ≤ q ∨ X.getD q 0 ≠ 61) = (Y.length ≤ q ∨ Y.getD q 0 ≠ 61) := by
 have e := L.is (c := 61) (by decide) (by decide) hq
 apply propext
 constructor <;> intro h <;> refine Decidable.byContradiction fun hn => ?_
 ·
  have : q < Y.length ∧ Y.getD q 0 = 61 := ⟨by omega, by omega⟩
  rw [← e] at this; omega
 ·
  have : q < X.length ∧ X.getD q 0 = 61 := ⟨by omega, by omega⟩
  rw [e] at this; omega
theorem Lk.tag (L : Lk X Y n) {p : Nat} (hp : p ≤ n) (line : Nat) : tagP X p line = tagP Y p line ∧ (tagP X p line).p ≤ n := by
 obtain ⟨r1, r2⟩ := L.run (k := 0) rfl rfl hp
 obtain ⟨t1, t2, _, t4⟩ := L.tkn (k := 1) (s := 2) rfl rfl (by decide) (by decide) hp
 unfold tagP
 simp only [L.is (c := 32) (by decide) (by decide) hp]
 rw [t2] at t4 ⊢
 rw [r1] at r2 ⊢
 simp only [t1, L.stop t4]
 rw [L.flt hp t4 line]
 by_cases h1 : p < Y.length ∧ Y.getD p 0 = 32
 ·
  rw [if_pos h1, if_pos h1]; exact ⟨rfl, r2⟩
 rw [if_neg h1, if_neg h1]
 by_cases h2 : val (tkT 1 2 Y p) = false
 ·
  rw [if_pos h2, if_pos h2]; exact ⟨rfl, t4⟩
 rw [if_neg h2, if_neg h2]
 by_cases h3 : tkT 1 2 Y p = [] ∨ Y.length ≤ tkQ 1 2 Y p ∨ Y.getD (tkQ 1 2 Y p) 0 ≠ 61
 ·
  rw [if_pos h3, if_pos h3]; exact ⟨rfl, t4⟩
 rw [if_neg h3, if_neg h3]
 have hlt : tkQ 1 2 Y p + 1 ≤ n := by
  have h3' : ¬ (X.length ≤ tkQ 1 2 Y p ∨ X.getD (tkQ 1 2 Y p) 0 ≠ 61) := by rw [L.stop t4]; exact fun h => h3 (.inr h)
  exact L.lt_of (c := 61) (by decide) t4 (by omega) (by omega)
 obtain ⟨u1, u2, _, u4⟩ := L.tkn (k := 2) (s := 6) rfl rfl (by decide) (by decide) hlt
 rw [u2] at u4 ⊢
 have c := L.comma u4
 have hb := c.2
 rw [c.1] at hb ⊢
 simp only [L.len u4]
 rw [u1, L.flt hlt u4 line, L.flt hb hb line]
 refine ⟨rfl, ?_⟩
 (repeat' split) <;> simp only <;> assumption
theorem Lk.behind (L : Lk X Y n) {q : Nat} (hq : q ≤ n) (key raw : List Int) (kind : Int) (line : Nat) : Rs X n (behindP X key kind raw q line) (behindP Y key kind raw q line) := by
 have r0 := L.run (k := 0) rfl rfl hq
 have f1 := L.flt hq hq line
 unfold behindP
 simp only [L.len hq]
 by_cases h1 : Y.length ≤ q
 ·
  rw [if_pos h1, if_pos h1]; exact .same rfl hq
 rw [if_neg h1, if_neg h1]
 have hx : q < X.length := by have := L.len hq; rw [← this] at h1; omega
 have e2 := L.is (c := 44) (by decide) (by decide) hq
 by_cases h2 : Y.getD q 0 = 44
 ·
  have h2' : X.getD q 0 = 44 := by have := (⟨by omega, h2⟩ : q < Y.length ∧ Y.getD q 0 = 44); rw [← e2] at this; exact this.2
  rw [if_pos h2, if_pos h2']; exact .same rfl (L.lt_of (by decide) hq hx h2')
 have h2' : X.getD q 0 ≠ 44 := fun h => h2 (by have := (⟨hx, h⟩ : q < X.length ∧ X.getD q 0 = 44); rw [e2] at this; exact this.2)
 rw [if_neg h2, if_neg h2']
 have e3 : sIn 1 (X.getD q 0).toNat = sIn 1 (Y.getD q 0).toNat := by
  rcases Nat.eq_or_lt_of_le hq with rfl | hlt
  ·
   rw [L.x10 hx, (L.y13 hx).1]; rfl
  ·
   rw [L.ag q hlt]
 rw [e3]
 by_cases h3 : sIn 1 (Y.getD q 0).toNat = false
 ·
  rw [if_pos h3, if_pos h3, f1]; exact .same rfl hq
 rw [if_neg h3, if_neg h3]
 have r1 := r0.2
 rw [r0.1] at r1
 rw [r0.1]
 rcases L.eol r1 with ⟨e, z, _⟩ | ⟨e1, e2, e3, e4⟩
 ·
  rw [e] at z ⊢
  by_cases h4 : (dc.eol Y (dt.run 0 Y q)).1 = true
  ·
   rw [if_pos h4]; exact .same rfl (by simp only; omega)
  ·
   rw [if_neg h4]; exact .same rfl r1
 ·
  rw [e3, e4]
  exact ⟨rfl, rfl, rfl, rfl, .inr ⟨rfl, rfl, e2, by simp only [e1, if_pos], by simp only [e1, if_pos]⟩⟩
theorem Lk.field (L : Lk X Y n) {p : Nat} (hp : p ≤ n) (line : Nat) : Rs X n (fieldQ X p line) (fieldQ Y p line) := by
 obtain ⟨t1, t2, _, t4⟩ := L.tkn (k := 3) (s := 7) rfl rfl (by decide) (by decide) hp
 unfold fieldQ fieldP
 rw [t2] at t4 ⊢
 simp only [t1, L.stop t4]
 rw [L.flt hp t4 line, L.flt t4 t4 line]
 by_cases h1 : val (tkT 3 7 Y p) = false
 ·
  rw [if_pos h1, if_pos h1]; exact .same rfl t4
 rw [if_neg h1, if_neg h1]
 by_cases h2 : tkT 3 7 Y p = []
 ·
  rw [if_pos h2, if_pos h2]; exact .same rfl t4
 rw [if_neg h2, if_neg h2]
 by_cases h3 : Y.length ≤ tkQ 3 7 Y p ∨ Y.getD (tkQ 3 7 Y p) 0 ≠ 61
 ·
  rw [if_pos h3, if_pos h3]; exact .same rfl t4
 rw [if_neg h3, if_neg h3]
 have hlt : tkQ 3 7 Y p + 1 ≤ n := by
  have h3' : ¬ (X.length ≤ tkQ 3 7 Y p ∨ X.getD (tkQ 3 7 Y p) 0 ≠ 61) := by rw [L.stop t4]; exact h3
  exact L.lt_of (c := 61) (by decide) t4 (by omega) (by omega)
 have l1 := L.len hlt
 simp only [l1]
 rw [L.flt hlt hlt line]
 by_cases h4 : Y.length ≤ tkQ 3 7 Y p + 1
 ·
  rw [if_pos h4, if_pos h4]; exact .same rfl hlt
 rw [if_neg h4, if_neg h4]
 generalize tkQ 3 7 Y p + 1 = m at *
 have hx : m < X.length := by rw [← l1] at h4; omega
 rw [if_neg (L.nq m hx)]
 have r9 := L.run (k := 9) rfl rfl hlt
 rcases Nat.eq_or_lt_of_le hlt with rfl | hm
 ·
  obtain ⟨y1, _, _⟩ := L.y13 hx
  rw [L.x10 hx, y1]
  rw [if_neg (by decide), if_neg (by decide), if_neg (by decide), if_neg (by decide), if_neg (by decide)]
  exact .same rfl hlt
 ·
  have e4 := L.ag m hm
  rw [← e4, if_neg (L.nq m hx), L.take r9.2, r9.1]
  have hr : dt.run 9 Y m ≤ n := by rw [← r9.1]; exact r9.2
  split
  ·
   exact L.behind hr _ _ _ _
  split
  ·
   exact L.behind hr _ _ _ _
  ·
   exact .same rfl hlt
theorem Lk.time (L : Lk X Y n) {p : Nat} (hp : p ≤ n) (line : Nat) : Rs X n (timeP X p line) (timeP Y p line) := by
 have r10 := L.run (k := 10) rfl rfl hp
 have r0 := L.run (k := 0) rfl rfl r10.2
 have r12 := L.run (k := 12) rfl rfl r10.2
 have r13 := L.run (k := 12) rfl rfl r0.2
 have f1 := L.flt hp r12.2 line
 have f2 := L.flt r0.2 r13.2 line
 have l1 := L.len r10.2
 have tk := L.take r10.2
 have e3 : ¬ X.length ≤ dt.run 10 X p → sIn 1 (X.getD (dt.run 10 X p) 0).toNat = sIn 1 (Y.getD (dt.run 10 X p) 0).toNat := fun h => by
  rcases Nat.eq_or_lt_of_le r10.2 with e | hlt
  ·
   have hx : n < X.length := by omega
   rw [e, L.x10 hx, (L.y13 hx).1]; rfl
  ·
   rw [L.ag _ hlt]
 have hE := L.eol r0.2
 have b12 := r12.2
 have b13 := r13.2
 have b0 := r0.2
 have b10 := r10.2
 unfold timeP
 rw [f1, f2, tk]
 rw [r13.1] at b13 ⊢
 rw [r12.1] at b12 ⊢
 rw [r0.1] at b0 b13 hE ⊢
 rw [r10.1] at b10 b0 b12 b13 hE l1 e3 ⊢
 simp only [← l1]
 by_cases h1 : X.length ≤ dt.run 10 Y p
 ·
  rw [if_pos h1, if_pos h1]; exact .same rfl b10
 rw [if_neg h1, if_neg h1, e3 h1]
 by_cases h3 : sIn 1 (Y.getD (dt.run 10 Y p) 0).toNat = false
 ·
  rw [if_pos h3, if_pos h3]; exact .same rfl b12
 rw [if_neg h3, if_neg h3]
 rcases hE with ⟨e, z, _⟩ | ⟨e1, e2, e3, e4⟩
 ·
  rw [e] at z ⊢
  by_cases h4 : (dc.eol Y (dt.run 0 Y (dt.run 10 Y p))).1 = true
  ·
   rw [if_pos h4]; exact .same rfl (by simp only; omega)
  ·
   rw [if_neg h4]; exact .same rfl b13
 ·
  rw [e3, e4]
  exact ⟨rfl, rfl, rfl, rfl, .inr ⟨rfl, rfl, e2, by simp only [e1, if_pos], by simp only [e1, if_pos]⟩⟩
theorem Lk.tags (L : Lk X Y n) : ∀ (f f' : Nat) (acc : List (List Int × List Int)) (p : Nat) (sec : Int) (line : Nat), p ≤ n → n - p < f → n - p < f' → tagsP X f acc p sec line = tagsP Y f' acc p sec line ∧ (tagsP X f acc p sec line).p ≤ n := by
 intro f
 induction f with
 | zero => intro f' acc p sec line hp h; omega
 | succ f ih =>
  intro f' acc p sec line hp h1 h2
  obtain ⟨f', rfl⟩ : ∃ k, f' = k + 1 := ⟨f' - 1, by omega⟩
  obtain ⟨t1, t2⟩ := L.tag hp line
  rw [tagsP, tagsP, ← t1]
  by_cases hs : sec ≠ 1
  ·
   rw [if_pos hs, if_pos hs]; exact ⟨rfl, hp⟩
  rw [if_neg hs, if_neg hs]
  cases hf : (tagP X p line).f with
  | some x => exact ⟨rfl, t2⟩
  | none =>
   cases hr : (tagP X p line).r with
   | none => exact ⟨rfl, t2⟩
   | some kv =>
    have := (tag_far (Nat.le_trans hp L.lx) hr).1
    exact ih f' _ _ _ _ t2 (by omega) (by omega)
theorem fieldsP_off {X : List Int} {f : Nat} {acc : List (List Int × Int × List Int)} {p : Nat} {sec : Int} {line : Nat} (h : sec ≠ 2) : fieldsP X f acc p sec line = ⟨acc, none, p, sec, line⟩ := by
 cases f with
 | zero => rfl
 | succ f => rw [fieldsP, if_pos h]
theorem Lk.fields (L : Lk X Y n) : ∀ (f f' : Nat) (acc : List (List Int × Int × List Int)) (p : Nat) (sec : Int) (line : Nat), p ≤ n → n - p < f → n - p < f' → Rs X n (fieldsP X f acc p sec line) (fieldsP Y f' acc p sec line) := by
 intro f
 induction f with
 | zero => intro f' acc p sec line hp h; omega
 | succ f ih =>
  intro f' acc p sec line hp h1 h2
  obtain ⟨f', rfl⟩ : ∃ k, f' = k + 1 := ⟨f' - 1, by omega⟩
  obtain ⟨a1, a2, a3, a4, a5⟩ := L.field hp line
  rw [fieldsP, fieldsP]
  by_cases hs : sec ≠ 2
  ·
   rw [if_pos hs, if_pos hs]; exact .same rfl hp
  rw [if_neg hs, if_neg hs, ← a1, ← a2, ← a3, ← a4]
  cases hf : (fieldQ X p line).f with
  | some x => exact ⟨rfl, rfl, rfl, rfl, a5.imp id fun h => by have := h.1; rw [hf] at this; cases this⟩
  | none =>
   cases hr : (fieldQ X p line).r with
   | none => exact ⟨rfl, rfl, rfl, rfl, a5.imp id fun h => ⟨rfl, h.2⟩⟩
   | some kv =>
    rcases a5 with ⟨e, hb⟩ | ⟨b1, b2, b3, b4, b5⟩
    ·
     rw [← e]
     have := (field_far (line := line) (Nat.le_trans hp L.lx)).2.2 (by rw [hr]; exact nofun)
     exact ih f' _ _ _ _ hb (by omega) (by omega)
    ·
     rw [b2, b4, b5]
     simp only
     rw [fieldsP_off (X := X) (sec := 5) (by decide), fieldsP_off (X := Y) (sec := 5) (by decide)]
     exact ⟨rfl, rfl, rfl, rfl, .inr ⟨rfl, rfl, b3, rfl, rfl⟩⟩
theorem Lk.ent (L : Lk X Y n) (line : Nat) : (entP X line).r = (entP Y line).r ∧ (entP X line).sec = (entP Y line).sec ∧ (entP X line).line = (entP Y line).line ∧ ((entP X line).p = (entP Y line).p ∧ (entP X line).p ≤ n ∨ n < X.length ∧ (entP X line).p = n + 1 ∧ (entP Y line).p = n + 2) := by
 have lx := L.lx
 have ly := L.ly
 obtain ⟨n1, n2⟩ := L.name line
 obtain ⟨t1, t2⟩ := L.tags (X.length + 2) (Y.length + 2) [] (nameP X line).p (nameP X line).sec (nameP X line).line n2 (by omega) (by omega)
 unfold entP
 simp only
 rw [← n1, ← t1]
 by_cases h1 : (nameP X line).f ≠ none
 ·
  rw [if_pos h1, if_pos h1]; exact ⟨rfl, rfl, rfl, .inl ⟨rfl, n2⟩⟩
 rw [if_neg h1, if_neg h1]
 generalize tagsP X (X.length + 2) [] (nameP X line).p (nameP X line).sec (nameP X line).line = T at *
 by_cases h2 : T.f ≠ none
 ·
  rw [if_pos h2, if_pos h2]; exact ⟨rfl, rfl, rfl, .inl ⟨rfl, t2⟩⟩
 rw [if_neg h2, if_neg h2]
 obtain ⟨d1, d2, d3, d4, d5⟩ := L.fields (X.length + 2) (Y.length + 2) [] T.p T.sec T.line t2 (by omega) (by omega)
 generalize fieldsP X (X.length + 2) [] T.p T.sec T.line = D at *
 generalize fieldsP Y (Y.length + 2) [] T.p T.sec T.line = D' at *
 rw [← d1, ← d2, ← d3, ← d4]
 have d6 : D.p = D'.p ∧ D.p ≤ n ∨ n < X.length ∧ D.p = n + 1 ∧ D'.p = n + 2 := d5.imp id fun h => h.2.2
 by_cases h3 : D.f ≠ none
 ·
  rw [if_pos h3, if_pos h3]; exact ⟨rfl, rfl, rfl, d6⟩
 rw [if_neg h3, if_neg h3]
 by_cases h4 : D.sec = 5
 ·
  rw [if_pos h4, if_pos h4]; exact ⟨rfl, rfl, rfl, d6⟩
 rw [if_neg h4, if_neg h4]
 rcases d5 with ⟨e, hb⟩ | ⟨_, h, _⟩
 ·
  rw [← e]
  obtain ⟨m1, m2, m3, m4, m5⟩ := L.time hb D.line
  rw [← m1, ← m2, ← m3, ← m4]
  have m6 : (timeP X D.p D.line).p = (timeP Y D.p D.line).p ∧ (timeP X D.p D.line).p ≤ n ∨ n < X.length ∧ (timeP X D.p D.line).p = n + 1 ∧ (timeP Y D.p D.line).p = n + 2 := m5.imp id fun h => h.2.2
  split
  ·
   exact ⟨rfl, rfl, rfl, m6⟩
  ·
   exact ⟨rfl, rfl, rfl, m6⟩
 ·
  exact absurd h h4
end
theorem crl_lk : ∀ {X : List Int}, (∀ x ∈ X, x ≠ 13 ∧ x ≠ 34) → ∃ n, Lk X (crl X) n ∧ (∀ i, i ≤ n → (crl X).drop i = crl (X.drop i)) ∧ (n < X.length → (crl X).drop (n + 2) = crl (X.drop (n + 1)))
 | [], _ => ⟨0, ⟨Nat.le_refl _, Nat.le_refl _, Iff.rfl, fun _ h => absurd h (by omega), fun _ h => absurd h (by omega), fun _ h => absurd h (by simp), fun h => absurd h (by simp), fun h => absurd h (by simp)⟩, fun i hi => by rw [show i = 0 by omega]; rfl, fun h => absurd h (by simp)⟩
 | c :: l, h => by
  have hq : ∀ i, i < (c :: l).length → (c :: l).getD i 0 ≠ 34 := fun i hi => by
   rw [List.getD_eq_getElem?_getD, List.getElem?_eq_getElem hi]
   exact (h _ (List.getElem_mem hi)).2
  by_cases hc : c = 10
  ·
   subst hc
   have e : crl (10 :: l) = 13 :: 10 :: crl l := by rw [crl, if_pos rfl]
   refine ⟨0, ⟨by simp, by simp, by rw [e]; simp, fun _ h => absurd h (by omega), fun _ h => absurd h (by omega), hq, fun _ => rfl, fun _ => by rw [e]; exact ⟨rfl, by simp, rfl⟩⟩, fun i hi => ?_, fun _ => ?_⟩
   ·
    rw [show i = 0 by omega]; rfl
   ·
    rw [e]; rfl
  ·
   have e : crl (c :: l) = c :: crl l := by rw [crl, if_neg hc]
   obtain ⟨n, L, h1, h2⟩ := crl_lk (X := l) fun x hx => h x (List.mem_cons_of_mem _ hx)
   have hm := h c List.mem_cons_self
   refine ⟨n + 1, ⟨by have := L.lx; simp; omega, by have := L.ly; rw [e]; simp; omega, by have := L.lt; rw [e]; simp; omega, fun i hi => ?_, fun i hi => ?_, hq, fun hx => ?_, fun hx => ?_⟩, fun i hi => ?_, fun hx => ?_⟩
   ·
    rw [e]
    cases i with
    | zero => rfl
    | succ i => exact L.ag i (by omega)
   ·
    cases i with
    | zero => exact ⟨hc, hm.1⟩
    | succ i => exact L.no i (by omega)
   ·
    exact L.x10 (by simpa using hx)
   ·
    obtain ⟨y1, y2, y3⟩ := L.y13 (by simpa using hx)
    rw [e]
    exact ⟨y1, by simpa using y2, y3⟩
   ·
    rw [e]
    cases i with
    | zero => rw [List.drop_zero, List.drop_zero, e]
    | succ i => exact h1 i (by omega)
   ·
    rw [e]
    exact h2 (by simpa using hx)
theorem skip_sh2 {X : List Int} {a : Nat} : ∀ (f p l : Nat), (skipP X f (a + p) l).2 = (skipP (X.drop a) f p l).2 := by
 intro f
 induction f with
 | zero => intro p l; rfl
 | succ f ih =>
  intro p l
  rw [skipP, skipP]
  simp only [run_sh (X := X) (a := a), le_sh (X := X) (a := a), get_sh (X := X) (a := a), eol_sh (X := X) (a := a), Nat.add_assoc]
  by_cases h1 : (X.drop a).length ≤ run 0 (X.drop a) p
  ·
   simp only [if_pos h1]
  simp only [if_neg h1]
  by_cases h2 : (X.drop a).getD (run 0 (X.drop a) p) 0 = 35
  ·
   simp only [if_pos h2]
   by_cases h3 : (dc.eol (X.drop a) (run 11 (X.drop a) (run 0 (X.drop a) p))).1 = true
   ·
    simp only [if_pos h3]; exact ih _ _
   ·
    simp only [if_neg h3]
  simp only [if_neg h2]
  by_cases h3 : (X.drop a).getD (run 0 (X.drop a) p) 0 = 10 ∨ (X.drop a).getD (run 0 (X.drop a) p) 0 = 13
  ·
   simp only [if_pos h3]
   by_cases h4 : (dc.eol (X.drop a) (run 0 (X.drop a) p)).1 = true
   ·
    simp only [if_pos h4]; exact ih _ _
   ·
    simp only [if_neg h4]
  ·
   simp only [if_neg h3]
theorem crl_len (X : List Int) : X.length ≤ (crl X).length := by
 induction X with
 | nil => exact Nat.le_refl _
 | cons c l ih =>
  rw [crl]
  split <;> simp <;> omega
theorem crl_nil {X : List Int} : crl X = [] ↔ X = [] := by
 cases X with
 | nil => exact ⟨fun _ => rfl, fun _ => rfl⟩
 | cons c l =>
  rw [crl]
  split <;> simp
theorem no_drop {X : List Int} (h : ∀ x ∈ X, x ≠ 13 ∧ x ≠ 34) (a : Nat) : ∀ x ∈ X.drop a, x ≠ 13 ∧ x ≠ 34 := fun x hx => h x (List.mem_of_mem_drop hx)
theorem skip_at {X : List Int} {a f l : Nat} : skipP X f a l = (a + (skipP (X.drop a) f 0 l).1, (skipP (X.drop a) f 0 l).2) := by
 have h1 := skip_sh (X := X) (a := a) f 0 l l
 have h2 := skip_sh2 (X := X) (a := a) f 0 l
 rw [Nat.add_zero] at h1 h2
 exact Prod.ext h1 h2
theorem skip_crl : ∀ (m : Nat) (X : List Int), X.length < m → (∀ x ∈ X, x ≠ 13 ∧ x ≠ 34) → ∀ (f f' l : Nat), X.length < f → (crl X).length < f' → (skipP X f 0 l).2 = (skipP (crl X) f' 0 l).2 ∧ (crl X).drop (skipP (crl X) f' 0 l).1 = crl (X.drop (skipP X f 0 l).1) := by
 intro m
 induction m with
 | zero => intro X h; omega
 | succ m ih =>
  intro X hm hX f f' l hf hf'
  obtain ⟨n, L, g1, g2⟩ := crl_lk hX
  obtain ⟨f, rfl⟩ : ∃ k, f = k + 1 := ⟨f - 1, by omega⟩
  obtain ⟨f', rfl⟩ : ∃ k, f' = k + 1 := ⟨f' - 1, by omega⟩
  have hl := crl_len X
  have far : ∀ (r : Nat), r ≤ n → (dc.eol X r).1 = true → 0 < r + (dc.eol X r).2.1 ∨ False → (dc.eol (crl X) r).1 = true ∧ (skipP X f (r + (dc.eol X r).2.1) (l + (dc.eol X r).2.2)).2 = (skipP (crl X) f' (r + (dc.eol (crl X) r).2.1) (l + (dc.eol (crl X) r).2.2)).2 ∧ (crl X).drop (skipP (crl X) f' (r + (dc.eol (crl X) r).2.1) (l + (dc.eol (crl X) r).2.2)).1 = crl (X.drop (skipP X f (r + (dc.eol X r).2.1) (l + (dc.eol X r).2.2)).1) := by
   intro r hr he hpos
   have hpos : 0 < r + (dc.eol X r).2.1 := hpos.elim id False.elim
   have key : ∀ a b ln : Nat, 0 < a → 0 < b → a ≤ X.length → b ≤ (crl X).length → (crl X).drop b = crl (X.drop a) → (skipP X f a ln).2 = (skipP (crl X) f' b ln).2 ∧ (crl X).drop (skipP (crl X) f' b ln).1 = crl (X.drop (skipP X f a ln).1) := by
    intro a b ln ha hb hax hby hd
    have hlen : (X.drop a).length < m := by rw [List.length_drop]; omega
    obtain ⟨i1, i2⟩ := ih (X.drop a) hlen (no_drop hX a) f f' ln (by rw [List.length_drop]; omega) (by rw [← hd, List.length_drop]; omega)
    rw [skip_at (X := X) (a := a), skip_at (X := crl X) (a := b), hd]
    refine ⟨i1, ?_⟩
    simp only
    rw [← List.drop_drop, ← List.drop_drop, hd]
    exact i2
   have lx := L.lx
   have ly := L.ly
   rcases L.eol hr with ⟨e, z, hn⟩ | ⟨e1, e2, e3, e4⟩
   ·
    rw [← e]
    refine ⟨he, ?_⟩
    rw [z] at hpos ⊢
    exact key _ _ _ hpos hpos (by omega) (by omega) (by rw [Nat.add_zero]; exact g1 r hr)
   ·
    rw [e3, e4]
    subst e1
    refine ⟨rfl, ?_⟩
    simp only
    have := (L.y13 e2).2.1
    exact key _ _ _ (by omega) (by omega) (by omega) (by omega) (g2 e2)
  have r0 := L.run (k := 0) rfl rfl (Nat.zero_le n)
  have r11 := L.run (k := 11) rfl rfl r0.2
  have l1 := L.len r0.2
  rw [skipP, skipP, ← r0.1, ← r11.1]
  simp only [← l1]
  by_cases h1 : X.length ≤ run 0 X 0
  ·
   rw [if_pos h1, if_pos h1]; exact ⟨rfl, g1 _ r0.2⟩
  rw [if_neg h1, if_neg h1]
  have hx : run 0 X 0 < X.length := by omega
  have e35 := L.is (c := 35) (by decide) (by decide) r0.2
  by_cases h2 : X.getD (run 0 X 0) 0 = 35
  ·
   have h2' : (crl X).getD (run 0 X 0) 0 = 35 := by have := (⟨hx, h2⟩ : run 0 X 0 < X.length ∧ X.getD (run 0 X 0) 0 = 35); rw [e35] at this; exact this.2
   rw [if_pos h2, if_pos h2']
   have hc := run_comment h2
   by_cases h3 : (dc.eol X (run 11 X (run 0 X 0))).1 = true
   ·
    obtain ⟨k1, k2⟩ := far _ r11.2 h3 (.inl (by omega))
    rw [if_pos h3, if_pos k1]; exact k2
   ·
    have h3' : ¬ (dc.eol (crl X) (run 11 X (run 0 X 0))).1 = true := by
     rcases L.eol r11.2 with ⟨e, _⟩ | ⟨_, _, e, _⟩
     ·
      rw [← e]; exact h3
     ·
      rw [e] at h3; exact absurd rfl h3
    rw [if_neg h3, if_neg h3']; exact ⟨rfl, g1 0 (Nat.zero_le _)⟩
  have h2' : ¬ (crl X).getD (run 0 X 0) 0 = 35 := fun h => h2 (by have := (⟨by have := L.lt; have := r0.2; have := L.ly; omega, h⟩ : run 0 X 0 < (crl X).length ∧ (crl X).getD (run 0 X 0) 0 = 35); rw [← e35] at this; exact this.2)
  rw [if_neg h2, if_neg h2']
  rcases Nat.eq_or_lt_of_le r0.2 with e | hlt
  ·
   have hxn : n < X.length := by omega
   have hE := L.eol r0.2
   have x10 := L.x10 hxn
   have y13 := (L.y13 hxn).1
   rw [e, if_pos (show X.getD n 0 = 10 ∨ X.getD n 0 = 13 from .inl x10), if_pos (show (crl X).getD n 0 = 10 ∨ (crl X).getD n 0 = 13 from .inr y13)]
   rw [e] at hE
   rcases hE with ⟨_, _, _⟩ | ⟨_, _, e3, e4⟩
   ·
    have e3 : dc.eol X n = (true, 1, 1) := by unfold dc.eol; rw [if_neg (by omega), if_pos x10]
    have e4 : dc.eol (crl X) n = (true, 2, 1) := by
     obtain ⟨y1, y2, y3⟩ := L.y13 hxn
     unfold dc.eol
     rw [if_neg (by omega), if_neg (by rw [y1]; decide), if_pos y1, if_neg (by omega), if_pos y3]
    rename_i e5 _ _
    rw [e3, e4] at e5; exact absurd (congrArg (fun x => x.2.1) e5) (by decide)
   ·
    obtain ⟨k1, k2⟩ := far n (Nat.le_refl _) (by rw [e3]) (.inl (by rw [e3]; simp))
    rw [if_pos (by rw [e3]), if_pos k1]; exact k2
  ·
   obtain ⟨n1, n2⟩ := L.no _ hlt
   have ea := L.ag _ hlt
   rw [if_neg (by omega), if_neg (by rw [← ea]; omega)]; exact ⟨rfl, g1 _ r0.2⟩
theorem rest_crl {X : List Int} (hX : ∀ x ∈ X, x ≠ 13 ∧ x ≠ 34) (l : Nat) : (restP (crl X) 0 l).1 = crl (restP X 0 l).1 ∧ (restP X 0 l).2 = (restP (crl X) 0 l).2 ∧ ∃ a, (restP X 0 l).1 = X.drop a := by
 obtain ⟨n, L, g1, g2⟩ := crl_lk hX
 have up : ∀ {Z : List Int} (h : ∀ i, i < n → Z.getD i 0 = X.getD i 0) (hz : n ≤ Z.length) (m p : Nat), n - p < m → p ≤ n → run 13 Z p = run 13 Z n := by
  intro Z h hz m
  induction m with
  | zero => intro p hm; omega
  | succ m ih =>
   intro p hm hp
   rcases Nat.eq_or_lt_of_le hp with rfl | hlt
   ·
    rfl
   ·
    rw [run_step (Nat.lt_of_lt_of_le hlt hz) (by
     rw [h p hlt]
     have := (L.no p hlt).1
     have hne : (X.getD p 0).toNat ≠ 10 := by omega
     exact bne_iff_ne.2 hne)]
    exact ih (p + 1) (by omega) (by omega)
 have ux := up (Z := X) (fun _ _ => rfl) L.lx (n + 1) 0 (by omega) (by omega)
 have uy := up (Z := crl X) (fun i hi => (L.ag i hi).symm) L.ly (n + 1) 0 (by omega) (by omega)
 unfold restP
 rw [ux, uy]
 rcases Nat.lt_or_ge n X.length with hx | hx
 ·
  obtain ⟨y1, y2, y3⟩ := L.y13 hx
  have e1 : run 13 X n = n := run_stop hx (by rw [L.x10 hx]; rfl)
  have e2 : run 13 (crl X) n = n + 1 := by rw [run_step (by omega) (by rw [y1]; rfl), run_stop y2 (by rw [y3]; rfl)]
  rw [e1, e2, if_pos hx, if_pos y2]
  exact ⟨g2 hx, rfl, _, rfl⟩
 ·
  have hy : (crl X).length ≤ n := Nat.le_of_not_lt fun hy => absurd (L.lt.2 hy) (by omega)
  rw [run_end hx, run_end hy, if_neg (by omega), if_neg (by omega)]
  exact ⟨g1 n (Nat.le_refl _), rfl, _, rfl⟩
theorem rest_at {X : List Int} {p l : Nat} : restP X p l = restP (X.drop p) 0 l := by
 have e : run 13 X p = p + run 13 (X.drop p) 0 := by have := run_sh (X := X) (a := p) 13 0; rwa [Nat.add_zero] at this
 unfold restP
 rw [e]
 have h : (p + run 13 (X.drop p) 0 < X.length) ↔ (run 13 (X.drop p) 0 < (X.drop p).length) := lt_sh _
 rw [List.drop_drop, List.drop_drop]
 by_cases h' : p + run 13 (X.drop p) 0 < X.length
 ·
  rw [if_pos h', if_pos (h.1 h'), Nat.add_assoc]
 ·
  rw [if_neg h', if_neg (fun x => h' (h.2 x))]
theorem next_crl {X Y : List Int} {p p' l : Nat} {sec : Int} (hX : ∀ x ∈ X, x ≠ 13 ∧ x ≠ 34) (hY : Y.drop p' = crl (X.drop p)) : (nextP X p l sec).2 = (nextP Y p' l sec).2 ∧ (nextP Y p' l sec).1 = crl (nextP X p l sec).1 ∧ ∀ x ∈ (nextP X p l sec).1, x ≠ 13 ∧ x ≠ 34 := by
 unfold nextP
 by_cases hs : sec = 5
 ·
  rw [if_pos hs, if_pos hs]
  obtain ⟨i1, i2⟩ := skip_crl _ (X.drop p) (Nat.lt_succ_self _) (no_drop hX p) (X.length - p + 1) (Y.length - p' + 1) l (by rw [List.length_drop]; omega) (by rw [← hY, List.length_drop]; omega)
  rw [skip_at (X := X) (a := p), skip_at (X := Y) (a := p'), hY]
  refine ⟨i1, ?_, ?_⟩
  ·
   simp only
   rw [← List.drop_drop, ← List.drop_drop, hY]
   exact i2
  ·
   simp only
   exact no_drop hX _
 ·
  rw [if_neg hs, if_neg hs]
  rw [rest_at (X := X), rest_at (X := Y), hY]
  obtain ⟨r1, r2, a, r3⟩ := rest_crl (no_drop hX p) l
  have hW : ∀ x ∈ (restP (X.drop p) 0 l).1, x ≠ 13 ∧ x ≠ 34 := by rw [r3]; exact no_drop (no_drop hX p) a
  rw [r1, ← r2]
  generalize (restP (X.drop p) 0 l).1 = W at *
  generalize (restP (X.drop p) 0 l).2 = l' at *
  obtain ⟨i1, i2⟩ := skip_crl _ W (Nat.lt_succ_self _) hW (W.length - 0 + 1) ((crl W).length - 0 + 1) l' (by omega) (by omega)
  exact ⟨i1, i2, no_drop hW _⟩
theorem ents_crl : ∀ (f f' : Nat) (X Y : List Int) (p p' l : Nat) (sec : Int), (∀ x ∈ X, x ≠ 13 ∧ x ≠ 34) → Y.drop p' = crl (X.drop p) → p ≤ X.length → p' ≤ Y.length → (sec = 5 ∨ sec = 4) → msr X p sec < f → msr Y p' sec < f' → ents f X p l sec = ents f' Y p' l sec := by
 intro f
 induction f with
 | zero => intro f' X Y p p' l sec _ _ _ _ _ h; omega
 | succ f ih =>
  intro f' X Y p p' l sec hX hY hp hp' hs h1 h2
  obtain ⟨f', rfl⟩ : ∃ k, f' = k + 1 := ⟨f' - 1, by omega⟩
  obtain ⟨n1, n2, n3⟩ := next_crl (l := l) (sec := sec) hX hY
  rw [ents, ents]
  by_cases hne : (nextP X p l sec).1 = []
  ·
   rw [if_pos hne, if_pos (by rw [n2, hne]; rfl)]
  have hne' : (nextP Y p' l sec).1 ≠ [] := by rw [n2]; exact fun h => hne (crl_nil.1 h)
  rw [if_neg hne, if_neg hne']
  have m1 := msr_lt hp hs hne
  have m2 := msr_lt hp' hs hne'
  obtain ⟨k, L, g1, g2⟩ := crl_lk n3
  have hb := (ent_far (nextP X p l sec).1 (nextP X p l sec).2)
  have hb' := (ent_far (nextP Y p' l sec).1 (nextP Y p' l sec).2)
  rw [← n1, n2] at m2 hb' ⊢
  obtain ⟨e1, e2, e3, e4⟩ := L.ent (nextP X p l sec).2
  rw [← e1, ← e3, ← e2]
  rw [← e2] at m2
  refine congrArg _ (ih f' _ _ _ _ _ _ n3 ?_ hb.1 hb'.1 (hb.2.2.imp And.left id) (by omega) (by omega))
  rcases e4 with ⟨e, hk⟩ | ⟨hk, a1, a2⟩
  ·
   rw [← e]; exact g1 _ hk
  ·
   rw [a1, a2]; exact g2 hk
theorem crl_10 {X : List Int} {i : Nat} (h : i < X.length) (hc : X.getD i 0 = 10) : crl (X.drop i) = 13 :: 10 :: crl (X.drop (i + 1)) := by
 rw [drop_at h, hc, crl, if_pos rfl]
theorem crl_other {X : List Int} {i : Nat} (h : i < X.length) (hc : X.getD i 0 ≠ 10) : crl (X.drop i) = X.getD i 0 :: crl (X.drop (i + 1)) := by
 rw [drop_at h, crl, if_neg hc]
theorem crl_by {X : List Int} (h : ∀ x ∈ X, 0 ≤ x ∧ x < 256) : ∀ x ∈ crl X, 0 ≤ x ∧ x < 256 := by
 induction X with
 | nil => exact h
 | cons c l ih =>
  have h2 := ih fun x hx => h x (List.mem_cons_of_mem _ hx)
  have h1 := h c List.mem_cons_self
  intro x hx
  rw [crl] at hx
  split at hx
  ·
   simp only [List.mem_cons] at hx
   rcases hx with rfl | rfl | hx
   ·
    omega
   ·
    omega
   ·
    exact h2 x hx
  ·
   simp only [List.mem_cons] at hx
   rcases hx with rfl | hx
   ·
    exact h1
   ·
    exact h2 x hx
theorem all_crl {X : List Int} (hX : ∀ x ∈ X, x ≠ 13 ∧ x ≠ 34) : all (crl X) = all X := by
 refine (ents_crl _ _ X (crl X) 0 0 1 5 hX rfl (Nat.zero_le _) (Nat.zero_le _) (.inl rfl) ?_ ?_).symm <;> unfold msr <;> rw [if_pos rfl] <;> omega
end Go.Proofs.YtbahngfpadjbhaaGreatDoor.dt
end
section
namespace Go.Proofs.YtbahngfpadjbhaaGreatDoor.dec
open Go.Proofs.YtbahngfpadjbhaaGreatDoor.fx
open Go.RowKit Go.Proofs.HHW Go.Proofs.YtbahngfpadjbhaaGreatDoorW.PrintWords Go.Proofs.YtbahngfpadjbhaaGreatDoor.dt
namespace kb
theorem has_ (wb w0 : World) (L0 : dc.Bk) (s : ByteArray) (x : Nat) (hs : s.size ≤ 100000) (H : HH wb.heap.size wb w0 L0) : Calls Tryz.prog 5 #[.string s, .int .u8 (x : Int)] w0 fun e w' => ∃ b : Bool, e = .returned (.bool b) ∧ (b = false → ∀ y ∈ ints s, y ≠ (x : Int)) ∧ HH wb.heap.size wb w' L0 := by
 refine c_enter (args := [.string s, .int .u8 (x : Int)]) (k := 15) Tryz.func5 rfl rfl rfl ?_
 refine pS (pG (pM 1 rfl (pL (pT (pS (pS (pG (pM 1 rfl (pL (pT (pB ?_)))))))))));intro a S
 refine c_loop (σ := Nat) (fun s_ a w => match s_ with | i => SL a 17 [] [(0, .string s), (1, .int .u8 (x : Int)), (5, .int .i64 (i : Int))] ∧ HH (wb.heap.size) wb w L0 ∧ (i ≤ s.size ∧ ∀ j, j < i → (ints s).getD j 0 ≠ (x : Int))) (fun s_ => match s_ with | i => s.size - i) 0 ⟨S.only ⟨rfl, rfl, rfl, trivial⟩, H, ⟨Nat.zero_le _, fun _ h => absurd h (Nat.not_lt_zero _)⟩⟩ ?_
 clear S a H; rintro i a w ⟨S, H, hinv⟩
 obtain ⟨his, hno⟩ := hinv
 have hil := ints_len s
 revert a;refine pS (pS (pG (pM 2 rfl (pP (p_lens Tryz.underlying9 rfl) rfl (pP (p_lss rfl rfl) rfl (pL (pT (zc rfl (fun bc3 => ?_) (fun bc3 => ?_)))))))))
 ·
  have c3 := of_decide_eq_true bc3
  refine pK (pT (pS (pB (pS (pG (pM 2 rfl (pP (p_index rfl rfl (fun w => ix_string Tryz.underlying9 (by omega) (by omega))) rfl ?_)))))))
  obtain ⟨b4, hb4, lb4, nb4, gb4⟩ := bt_natI s (((i : Nat) : Int)) (i) (by first | rfl | omega)
  intro a S
  rw [hb4] at S
  revert a;refine pM 1 rfl (pP (p_eql rfl rfl) rfl (pL (pT (zc rfl (fun bc6 => ?_) (fun bc6 => ?_)))))
  ·
   have c6 := eq_of_beq bc6
   refine pS (pG (pM 1 rfl (pL (pT (pZ (pJ (pU (pU (pJ (pU ?_))))))))));intro a S
   first | exact r_ret1 S rfl rfl ⟨true, rfl, nofun, H⟩ | exact r_ret1 S rfl rfl ⟨false, rfl, fun _ y hy => by
         obtain ⟨j, hj, rfl⟩ := List.getElem_of_mem hy
         have := hno j (by omega)
         rwa [List.getD_eq_getElem?_getD, List.getElem?_eq_getElem hj] at this, H⟩
  have c6 := ne_of_beq_false bc6
  refine pK (pI 1 (pT (pG (pM 1 rfl (pP (p_add rfl rfl (nat_add (x := i) (y := 1) (by omega))) rfl (pM 1 rfl (pL (pT ?_))))))));intro a S
  exact ⟨(i + 1), ⟨S.only ⟨rfl, rfl, rfl, trivial⟩, H, ⟨by omega, fun j hj => by
       rcases Nat.lt_or_ge j i with h | h
       ·
        exact hno j h
       ·
        obtain rfl : j = i := by omega
        omega⟩⟩, (show s.size - (i + 1) < s.size - i from by omega)⟩
 have c3 := of_decide_eq_false bc3
 refine pX (pV (pV (pW (pT (pS (pG (pM 1 rfl (pL (pT (pZ ?_))))))))));intro a S
 first | exact r_ret1 S rfl rfl ⟨true, rfl, nofun, H⟩ | exact r_ret1 S rfl rfl ⟨false, rfl, fun _ y hy => by
      obtain ⟨j, hj, rfl⟩ := List.getElem_of_mem hy
      have := hno j (by omega)
      rwa [List.getD_eq_getElem?_getD, List.getElem?_eq_getElem hj] at this, H⟩
set_option maxHeartbeats 1000000 in
theorem law_ (w0 : World) (s : ByteArray) (hW : Wb 118 1 2 3 0 w0) : Calls Tryz.prog 3 #[.string s] w0 fun e w' => e = .returned (.bool true) ∧ Below w0.heap.size w0 w' := by
 have H := HH.start w0
 refine c_enter (args := [.string s]) (k := 69) Tryz.func3 rfl rfl rfl ?_
 refine pS (pG (pM 1 rfl (pL (pT (pS (pS (pG (pM 1 rfl (pP (p_lens Tryz.underlying9 rfl) rfl (pP (p_gtr rfl rfl) rfl (pL (pT (zc rfl (fun bc3 => ?_) (fun bc3 => ?_))))))))))))))
 ·
  have c3 := of_decide_eq_true bc3
  refine pS (pG (pM 1 rfl (pL (pT (pZ (pU ?_))))));intro a S
  first | exact r_ret1 S rfl rfl ⟨rfl, H.below⟩ | exact r_ret1 S rfl rfl ⟨by rw [beq_self_eq_true], H.below⟩
 have c3 := of_decide_eq_false bc3
 refine pK (pT (pS (pS (pG (pM 1 rfl (pP (p_lens Tryz.underlying9 rfl) rfl (pP (p_gtr rfl rfl) rfl (pM 1 rfl ?_))))))));intro a S
 refine l_split (S.of 15 rfl) (fun bc6 => ?_) (fun bc6 => ?_)
 ·
  have c6 := of_decide_eq_true bc6
  revert a;refine pO bc6 rfl (pO bc6 rfl (pP (p_pick_t rfl bc6 rfl) rfl (pM 1 rfl (pO rfl rfl (pO rfl rfl (pP (p_pick_t rfl rfl rfl) rfl (pL (pT (zt (pS (pG (pM 1 rfl (pL (pT (pZ (pU ?_))))))))))))))));intro a S
  first | exact r_ret1 S rfl rfl ⟨rfl, H.below⟩ | exact r_ret1 S rfl rfl ⟨by rw [beq_self_eq_true], H.below⟩
 have c6 := of_decide_eq_false bc6
 revert a;refine pN bc6 (pP (p_move rfl) rfl (pN bc6 ?_))
 have hcon := kb.has_ w0 _ _ s 13 (by omega) H
 refine pC Tryz.func5 hcon ?_
 rintro e w ⟨b1, rfl, hb1, hH⟩
 refine ⟨_, rfl, ?_⟩
 clear H hcon; have H := hH; clear hH
 refine pP (p_pick_f rfl bc6 rfl) rfl (pM 1 rfl ?_);intro a S
 refine l_split (S.of 19 rfl) (fun bc12 => ?_) (fun bc12 => ?_)
 ·
  revert a;refine pO bc12 rfl (pO bc12 rfl (pP (p_pick_t rfl bc12 rfl) rfl (pL (pT (zt (pS (pG (pM 1 rfl (pL (pT (pZ (pU ?_))))))))))));intro a S
  first | exact r_ret1 S rfl rfl ⟨rfl, H.below⟩ | exact r_ret1 S rfl rfl ⟨by rw [beq_self_eq_true], H.below⟩
 revert a;refine pN bc12 (pP (p_move rfl) rfl (pN bc12 ?_))
 have hcon := kb.has_ w0 _ _ s 34 (by omega) H
 refine pC Tryz.func5 hcon ?_
 rintro e w ⟨b2, rfl, hb2, hH⟩
 refine ⟨_, rfl, ?_⟩
 clear H hcon; have H := hH; clear hH
 refine pP (p_pick_f rfl bc12 rfl) rfl (pL (pT (zc rfl (fun bc17 => ?_) (fun bc17 => ?_))))
 ·
  have c17 := bc17
  refine pS (pG (pM 1 rfl (pL (pT (pZ (pU ?_))))));intro a S
  first | exact r_ret1 S rfl rfl ⟨rfl, H.below⟩ | exact r_ret1 S rfl rfl ⟨by rw [beq_self_eq_true], H.below⟩
 have c17 := bc17
 refine pK (pT (pS (pG (pM 1 rfl (pL (pT (pS (pS (pG (pM 1 rfl (pL (pT (pB ?_)))))))))))))
 have hX : ∀ y ∈ ints s, y ≠ 13 ∧ y ≠ 34 := fun y hy => ⟨hb1 (by first | exact c12 | assumption) y hy, hb2 (by first | exact c17 | assumption) y hy⟩
 intro a S
 refine c_loop (σ := Nat × List Int × Option Addr × Nat × dc.Bk) (fun s_ a w => match s_ with | ⟨i, acc, Ao, co, ow⟩ => SL a 70 [] [(0, .string s), (3, .slice Ao acc.length co), (4, .int .i64 (i : Int))] ∧ HH (w0.heap.size) w0 w (ow ++ []) ∧ (OwnB 5 (.slice Ao acc.length co) acc ow ∧ i ≤ s.size ∧ acc.length ≤ 2 * i ∧ acc ++ crl ((ints s).drop i) = crl (ints s))) (fun s_ => match s_ with | ⟨i, acc, Ao, co, ow⟩ => s.size - i) ⟨0, [], none, 0, []⟩ ⟨S.only ⟨rfl, rfl, rfl, trivial⟩, H, ⟨ownB_nil 5, Nat.zero_le _, Nat.le_refl _, rfl⟩⟩ ?_
 clear S a H; rintro ⟨i, acc, Ao, co, ow⟩ a w ⟨S, H, hinv⟩
 obtain ⟨ho, his, hal, hc⟩ := hinv
 have hil := ints_len s
 revert a;refine pS (pS (pG (pM 2 rfl (pP (p_lens Tryz.underlying9 rfl) rfl (pP (p_lss rfl rfl) rfl (pL (pT (zc rfl (fun bc20 => ?_) (fun bc20 => ?_)))))))))
 ·
  have c20 := of_decide_eq_true bc20
  refine pK (pT (pS (pB (pS (pS (pG (pM 2 rfl (pP (p_index rfl rfl (fun w => ix_string Tryz.underlying9 (by omega) (by omega))) rfl ?_))))))))
  obtain ⟨b21, hb21, lb21, nb21, gb21⟩ := bt_natI s (((i : Nat) : Int)) (i) (by first | rfl | omega)
  intro a S
  rw [hb21] at S
  revert a;refine pP (p_eql rfl rfl) rfl (pL (pT (zc rfl (fun bc23 => ?_) (fun bc23 => ?_))))
  ·
   have c23 := eq_of_beq bc23
   refine pG (pM 1 rfl ?_);intro a S
   refine l_lit [(.const (.int .u8 13))] S H rfl rfl Tryz.underlying23 sz5 zv5 rfl rfl (by simp [Value.cells]) rfl rfl rfl ?_; clear S a H; intro g24 w a H S
   refine l_ownB [_] (r := [(13 : Int)]) S H rfl rfl rfl ho (src_lit (vs := ([(13 : Int)]).map (Value.int .u8)) H m0 Tryz.underlying23 (by simp [Value.oneCell'])) Tryz.underlying23 in5 rfl (by simp only [List.length_append, List.length_cons, List.length_nil]; omega) (by decide) rfl rfl rfl ?_; clear S a H; intro Aow25 cow25 ow25 w a how25 H S; replace H := H.tail
   revert a;refine pM 1 rfl (pL (pT (pG (pM 3 rfl (pP (p_index rfl rfl (fun w => ix_string Tryz.underlying9 (by omega) (by omega))) rfl ?_)))))
   obtain ⟨b26, hb26, lb26, nb26, gb26⟩ := bt_natI s (((i : Nat) : Int)) (i) (by first | rfl | omega)
   intro a S
   rw [hb26] at S
   refine l_lit [(.tmp 39)] S H rfl rfl Tryz.underlying23 sz5 zv5 rfl rfl (by simp [Value.cells]) rfl rfl rfl ?_; clear S a H; intro g27 w a H S
   refine l_ownB [_] (r := [(b26 : Int)]) S H rfl rfl rfl how25 (src_lit (vs := ([(b26 : Int)]).map (Value.int .u8)) H m0 Tryz.underlying23 (by simp [Value.oneCell'])) Tryz.underlying23 in5 rfl (by simp only [List.length_append, List.length_cons, List.length_nil]; omega) (by decide) rfl rfl rfl ?_; clear S a H; intro Aow28 cow28 ow28 w a how28 H S; replace H := H.tail
   revert a;refine pM 1 rfl (pL (pI 1 (pT (pG (pM 1 rfl (pP (p_add rfl rfl (nat_add (x := i) (y := 1) (by omega))) rfl (pM 1 rfl (pL (pT ?_)))))))))
   rw [crl_10 (by omega) (by omega), show (10 : Int) = (b26 : Int) from by omega] at hc
   intro a S
   exact ⟨⟨i + 1, ((acc ++ [(13 : Int)]) ++ [(b26 : Int)]), Aow28, cow28, ow28⟩, ⟨S.only ⟨rfl, rfl, rfl, trivial⟩, H, ⟨how28, by omega, by simp only [List.length_append, List.length_cons, List.length_nil]; omega, by simpa using hc⟩⟩, (show s.size - (i + 1) < s.size - i from by omega)⟩
  have c23 := ne_of_beq_false bc23
  refine pK (pT (pG (pM 3 rfl (pP (p_index rfl rfl (fun w => ix_string Tryz.underlying9 (by omega) (by omega))) rfl ?_))))
  obtain ⟨b29, hb29, lb29, nb29, gb29⟩ := bt_natI s (((i : Nat) : Int)) (i) (by first | rfl | omega)
  intro a S
  rw [hb29] at S
  refine l_lit [(.tmp 39)] S H rfl rfl Tryz.underlying23 sz5 zv5 rfl rfl (by simp [Value.cells]) rfl rfl rfl ?_; clear S a H; intro g30 w a H S
  refine l_ownB [_] (r := [(b29 : Int)]) S H rfl rfl rfl ho (src_lit (vs := ([(b29 : Int)]).map (Value.int .u8)) H m0 Tryz.underlying23 (by simp [Value.oneCell'])) Tryz.underlying23 in5 rfl (by simp only [List.length_append, List.length_cons, List.length_nil]; omega) (by decide) rfl rfl rfl ?_; clear S a H; intro Aow31 cow31 ow31 w a how31 H S; replace H := H.tail
  revert a;refine pM 1 rfl (pL (pI 1 (pT (pG (pM 1 rfl (pP (p_add rfl rfl (nat_add (x := i) (y := 1) (by omega))) rfl (pM 1 rfl (pL (pT ?_)))))))))
  rw [crl_other (by omega) (by omega), gb29] at hc
  intro a S
  exact ⟨⟨i + 1, (acc ++ [(b29 : Int)]), Aow31, cow31, ow31⟩, ⟨S.only ⟨rfl, rfl, rfl, trivial⟩, H, ⟨how31, by omega, by simp only [List.length_append, List.length_cons, List.length_nil]; omega, by simpa using hc⟩⟩, (show s.size - (i + 1) < s.size - i from by omega)⟩
 have c20 := of_decide_eq_false bc20
 refine pX (pV (pV (pW (pT (pS (pG (pM 1 rfl ?_)))))))
 have hcon := dec.hq.decodeAll_ w0 _ _ s none [] 0 hW H ⟨rfl, by simp, fun h => absurd h (by simp)⟩ (Nat.le_refl _) (Nat.zero_le _) (by omega)
 refine pC Tryz.func6 hcon ?_
 rintro e w ⟨v1, R1, rfl, hE1, hH⟩
 refine ⟨_, rfl, ?_⟩
 clear H hcon; have H := hH; clear hH
 obtain ⟨A1, c1, rfl⟩ : ∃ A c, v1 = .slice A (all (ints s)).length c := by obtain ⟨xs, ⟨A, c, h1, _⟩, _⟩ := hE1; exact ⟨A, c, h1⟩
 refine pM 5 rfl (pL (pT (pS (pG (pM 1 rfl ?_)))))
 have hac : acc = crl (ints s) := by
  rw [List.drop_eq_nil_of_le (by omega)] at hc
  simpa [crl] using hc
 have hall : all (ints (strOfNums acc)) = all (ints s) := by rw [ints_nums (by rw [hac]; exact crl_by (ints_by' s)), hac, all_crl hX]
 refine pR H (r_str (l := acc) rfl Tryz.underlying23 Tryz.underlying5 Tryz.underlying9 (fun w H => Own.bytes ho (H.sub (List.sublist_append_right _ _)) (by omega))) rfl ?_
 have hcon := dec.hq.decodeAll_ w0 _ _ (strOfNums acc) none [] 0 hW H ⟨rfl, by simp, fun h => absurd h (by simp)⟩ (Nat.le_refl _) (Nat.zero_le _) (by rw [nums_size]; omega)
 refine pC Tryz.func6 hcon ?_
 rintro e w ⟨v2, R2, rfl, hE2, hH⟩
 refine ⟨_, rfl, ?_⟩
 clear H hcon; have H := hH; clear hH
 rw [hall] at hE2
 obtain ⟨A2, c2, rfl⟩ : ∃ A c, v2 = .slice A (all (ints s)).length c := by obtain ⟨xs, ⟨A, c, h1, _⟩, _⟩ := hE2; exact ⟨A, c, h1⟩
 refine pM 5 rfl (pL (pT (pS (pG (pM 2 rfl (pN rfl (pP (p_move rfl) rfl (pP (p_pick_t rfl rfl rfl) rfl (pM 1 rfl (pN rfl (pP (p_move rfl) rfl (pN rfl (pP (p_move rfl) rfl (pN rfl ?_))))))))))))))
 have hcon := dec.hs.same_ w0 _ _ (all (ints s)) _ _ (hE1.mono fun x hx => by simp [hx]) (hE2.mono fun x hx => by simp [hx]) (all_bd (by rw [ints_len]; omega)).1 (all_bd (by rw [ints_len]; omega)).2 H
 refine pC Tryz.func7 hcon ?_
 rintro e w ⟨rfl, hH⟩
 refine ⟨_, rfl, ?_⟩
 clear H hcon; have H := hH; clear hH
 refine pP (p_pick_t rfl rfl rfl) rfl (pM 1 rfl (pN rfl (pP (p_move rfl) rfl (pN rfl (pP (p_len Tryz.underlying24 rfl) rfl (pN rfl (pP (p_move rfl) rfl (pN rfl ?_))))))))
 have hcon := dec.jh.entries_ w0 _ _ s (by omega) H
 rw [← all_cnt] at hcon
 refine pC Tryz.func8 hcon ?_
 rintro e w ⟨Ae, ce, rfl, hH⟩
 refine ⟨_, rfl, ?_⟩
 clear H hcon; have H := hH; clear hH
 refine pN rfl (pP (p_len Tryz.underlying24 rfl) rfl (pN rfl (pP (p_eql rfl rfl) rfl (pP (p_pick_t rfl rfl rfl) rfl (pM 1 rfl (pL (pT (pZ ?_))))))));intro a S
 first | exact r_ret1 S rfl rfl ⟨rfl, H.below⟩ | exact r_ret1 S rfl rfl ⟨by rw [beq_self_eq_true], H.below⟩
end kb
end Go.Proofs.YtbahngfpadjbhaaGreatDoor.dec
end
