/- Words of this seat's own: bytes that a caller may still read: in the decoder's buffer, in its buffer of escapes, in what was left behind. -/
import Derived.Test.YtbahngfpadjbhaaDoorBf
import Derived.Test.YtbahngfpadjbhaaDoorDh
namespace Go.Proofs.YtbahngfpadjbhaaDoor.dc
open Go.RowKit Go.Proofs.HHW Go.Proofs.YtbahngfpadjbhaaDoorW.PrintWords
set_option linter.unusedVariables false
set_option linter.unusedSimpArgs false
/-- Bytes that lie in blocks that are told of. -/
def InG (G : Bk) (gt ot : Nat) (t : List Int) : Prop := ∃ (cs : Array Value) (te : TypeId) (f : Nat × Nat), (gt, Obj.cells cs te f) ∈ G ∧ bf.Row cs ot t
/-- Bytes in the part of the decoder's buffer that is filled. -/
def Vis (D : Bk) (gt ot : Nat) (t : List Int) : Prop := ∃ (g : Nat) (st : Array Value) (td : TypeId) (n c : Nat) (cs : Array Value) (te : TypeId) (f : Nat × Nat) (r : Bk),
  D = (g, .cells st td (0, 0)) :: (gt, .cells cs te f) :: r ∧ st[1]? = some (.slice (some ⟨gt, 0, none⟩) n c) ∧ ot + t.length ≤ n ∧ bf.Row cs ot t
/-- Bytes in the row of escapes. -/
def VisE (eb : Value) (E : Bk) (gt ot : Nat) (t : List Int) : Prop := ∃ (n c : Nat) (cs : Array Value) (te : TypeId) (f : Nat × Nat), eb = .slice (some ⟨gt, 0, none⟩) n c ∧ E = [(gt, .cells cs te f)] ∧ ot + t.length ≤ n ∧ bf.Row cs ot t
/-- What could be read can be read. -/
def Keeps (D D' G : Bk) : Prop := ∀ gt ot t, Vis D gt ot t → Vis D' gt ot t ∨ InG G gt ot t
theorem InG.left {G G' : Bk} {gt ot : Nat} {t : List Int} (h : InG G gt ot t) : InG (G ++ G') gt ot t := by
  obtain ⟨cs, te, f, h1, h2⟩ := h
  exact ⟨cs, te, f, List.mem_append_left _ h1, h2⟩
theorem InG.right {G G' : Bk} {gt ot : Nat} {t : List Int} (h : InG G' gt ot t) : InG (G ++ G') gt ot t := by
  obtain ⟨cs, te, f, h1, h2⟩ := h
  exact ⟨cs, te, f, List.mem_append_right _ h1, h2⟩
theorem Keeps.refl (D : Bk) : Keeps D D [] := fun _ _ _ h => .inl h
theorem Keeps.trans {D D1 D2 G1 G2 : Bk} (h1 : Keeps D D1 G1) (h2 : Keeps D1 D2 G2) : Keeps D D2 (G2 ++ G1) := fun gt ot t h => by
  rcases h1 gt ot t h with h | h
  · rcases h2 gt ot t h with h | h
    · exact .inl h
    · exact .inr h.left
  · exact .inr h.right
theorem Keeps.head {g g' : Nat} {st st' : Array Value} {td td' : TypeId} {r : Bk} (h : st'[1]? = st[1]?) : Keeps ((g, .cells st td (0, 0)) :: r) ((g', .cells st' td' (0, 0)) :: r) [] := by
  rintro gt ot t ⟨g1, st1, td1, n, c, cs, te, f, r1, he, h1, h2, h3⟩
  injection he with e1 e2
  injection e1 with e3 e4
  injection e4 with e5 e6 e7
  subst e3 e5 e6 e2
  exact .inl ⟨g', st', td', n, c, cs, te, f, r1, rfl, by rw [h]; exact h1, h2, h3⟩
theorem Keeps.then_head {D : Bk} {g g' : Nat} {st st' : Array Value} {td td' : TypeId} {r G : Bk} (h : Keeps D ((g, .cells st td (0, 0)) :: r) G) (he : st'[1]? = st[1]?) : Keeps D ((g', .cells st' td' (0, 0)) :: r) G := h.trans (Keeps.head he)
theorem row_keep {cs : Array Value} {ot o : Nat} {t : List Int} {vs : List Value} (h : bf.Row cs ot t) (ho : ot + t.length ≤ o) : bf.Row (spl cs o vs) ot t := by
  intro i v hi
  have hlt := (List.getElem?_eq_some_iff.1 hi).1
  rw [spl_out _ _ _ _ (.inl (by omega))]
  exact h i v hi
/-- What is visible lies in the buffer's block. -/
theorem vis_buf {D : Bk} {g : Nat} {c1 c3 c4 c5 c6 c7 c8 c9 c10 : Value} {A : Option Addr} {l : List Int} {c : Nat} {cm : Bool} {mb mr : Bk} {te td : TypeId} {gt ot : Nat} {t : List Int} (hD : D = (g, .cells #[c1, .slice A l.length c, c3, c4, c5, c6, c7, c8, c9, c10] td (0, 0)) :: (mb ++ mr)) (hb : Buf te A l c cm mb) (h : Vis D gt ot t) :
    ∃ (cs : Array Value) (f : Nat × Nat), A = some ⟨gt, 0, none⟩ ∧ mb = [(gt, .cells cs te f)] ∧ ot + t.length ≤ l.length ∧ bf.Row cs ot t := by
  obtain ⟨g1, st1, td1, n, c', cs, te', f, r1, he, h1, h2, h3⟩ := h
  rw [hD] at he
  injection he with e1 e2
  injection e1 with e3 e4
  injection e4 with e5 e6 e7
  subst e5
  simp only [List.getElem?_toArray, List.getElem?_cons_succ, List.getElem?_cons_zero] at h1
  injection h1 with h1
  injection h1 with a1 a2 a3
  subst a2
  rcases hb.2.2 with ⟨a4, _, _⟩ | ⟨g2, cs2, f2, a4, _, rfl, _, _⟩
  · rw [a4] at a1; cases a1
  · rw [a4] at a1
    injection a1 with a1
    injection a1 with a1
    subst a1
    simp only [List.cons_append, List.nil_append] at e2
    injection e2 with e8 e9
    injection e8 with _ e10
    injection e10 with e11 e12 e13
    subst e11 e12 e13
    exact ⟨_, _, a4, rfl, h2, h3⟩
theorem vis_mk {g gt ot n c : Nat} {st : Array Value} {td te : TypeId} {cs : Array Value} {f : Nat × Nat} {r : Bk} {t : List Int} (h1 : st[1]? = some (.slice (some ⟨gt, 0, none⟩) n c)) (h2 : ot + t.length ≤ n) (h3 : bf.Row cs ot t) : Vis ((g, .cells st td (0, 0)) :: (gt, .cells cs te f) :: r) gt ot t :=
  ⟨g, st, td, n, c, cs, te, f, r, rfl, h1, h2, h3⟩
/-- What is held can be read. -/
theorem held_rb {B : Nat} {wb w : World} {D E G L : Bk} {eb : Value} {gt ot : Nat} {t : List Int} (H : HH B wb w (D ++ (E ++ (G ++ L)))) (h : Vis D gt ot t ∨ VisE eb E gt ot t ∨ InG G gt ot t) : RB w gt ot t := by
  rcases h with ⟨g, st, td, n, c, cs, te, f, r, rfl, _, _, h3⟩ | ⟨n, c, cs, te, f, _, rfl, _, h3⟩ | ⟨cs, te, f, h1, h3⟩
  · intro i v hi
    have hat := H.at_ (gt, Obj.cells cs te f) (by simp)
    simp only at hat
    simp only [World.cell?, hat]
    exact h3 i v hi
  · intro i v hi
    have hat := H.at_ (gt, Obj.cells cs te f) (by simp)
    simp only at hat
    simp only [World.cell?, hat]
    exact h3 i v hi
  · intro i v hi
    have hat := H.at_ (gt, Obj.cells cs te f) (by simp [h1])
    simp only at hat
    simp only [World.cell?, hat]
    exact h3 i v hi
end Go.Proofs.YtbahngfpadjbhaaDoor.dc
