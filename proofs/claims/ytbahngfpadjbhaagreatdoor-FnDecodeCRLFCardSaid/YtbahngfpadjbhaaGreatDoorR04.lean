/- Part of the proof that FnDecodeCRLF answers true at every text, in every world that its card's statement admits; no condition beyond those. -/
import Derived.Test.YtbahngfpadjbhaaGreatDoorR03
import Derived.Lib.ValidLaws
import Derived.Test.YtbahngfpadjbhaaGreatDoorR02
import Derived.Shelf.Unicode.DecodeSlow
set_option linter.unusedVariables false
set_option linter.unusedSimpArgs false
section
namespace Go.Proofs.YtbahngfpadjbhaaGreatDoor.dc
open Go.RowKit Go.Proofs.HHW Go.Proofs.YtbahngfpadjbhaaGreatDoorW.PrintWords
abbrev Bk := List (Nat × Obj)
def Buf (te : TypeId) (A : Option Addr) (l : List Int) (c : Nat) (cm : Bool) (mb : Bk) : Prop :=
 l.length ≤ c ∧ (cm = false → c ≤ 1000000000) ∧ ((A = none ∧ c = 0 ∧ mb = []) ∨ ∃ (g : Nat) (cs : Array Value) (f : Nat × Nat), A = some ⟨g, 0, none⟩ ∧ cs.size = c ∧ mb = [(g, .cells cs te f)] ∧ (cm = false → f = (0, 0)) ∧ ∀ (i : Nat) (v : Int), l[i]? = some v → cs[i]? = some (Value.int .u8 v))
def Prog (zs : List Int) (a k M : Nat) : Prop :=
 (zs = [] ∧ k ≤ M) ∨ ∃ d, 0 < zs.getD ((a + d) % zs.length) 0 ∧ k * (zs.length + 1) + d ≤ M ∧ d < zs.length
def Rdr (tr ti : TypeId) (wb : World) (rd : Value) (cm : Bool) (lf : List Int) (M : Nat) (mr : Bk) : Prop :=
 (cm = true ∧ lf = [] ∧ mr = []) ∨ (cm = false ∧ ∃ (gr : Nat) (s : ByteArray) (A : Option Addr) (zs : List Int) (c a : Nat), rd = .iface ti (.pointer (some ⟨gr, 0, none⟩)) ∧ lf = ints s ∧ mr = [(gr, .cells #[.string s, .slice A zs.length c, .int .i64 (a : Int), .bool false] tr (0, 0))] ∧
  (Kd.int .i64).C wb A zs.length zs ∧ zs.length ≤ c ∧ Prog zs a (ints s).length M ∧ a + M ≤ 1000000000000)
structure Ty where
 (td tr ti te : TypeId)
def Dec (T : Ty) (wb : World) (g : Nat) (X : List Int) (p v : Nat) (cm : Bool) (M : Nat) (sec : Int) (sk : Bool) (eb : Value) (line : Nat) (er : Value) (D : Bk) : Prop :=
 ∃ (rd : Value) (A : Option Addr) (l : List Int) (c r0 : Nat) (mb mr : Bk),
  D = (g, .cells #[rd, .slice A l.length c, .int .i64 (r0 : Int), .int .i64 ((r0 + p : Nat) : Int), .bool cm, .int .u8 sec, .bool sk, eb, .int .i64 (line : Int), er] T.td (0, 0)) :: (mb ++ mr) ∧
  Buf T.te A l c cm mb ∧ Rdr T.tr T.ti wb rd cm (X.drop v) M mr ∧ r0 + v = l.length ∧ v ≤ X.length ∧ l.drop r0 = X.take v ∧ r0 + X.length ≤ 1000000 ∧ p ≤ X.length
theorem Dec.all {T : Ty} {wb : World} {g : Nat} {X : List Int} {p v : Nat} {M : Nat} {sec : Int} {sk : Bool} {eb : Value} {line : Nat} {er : Value} {D : Bk} (h : Dec T wb g X p v true M sec sk eb line er D) : v = X.length := by
 obtain ⟨rd, A, l, c, r0, mb, mr, _, _, hr, _, hv, _⟩ := h
 rcases hr with ⟨_, h1, _⟩ | ⟨h1, _⟩
 ·
  have := congrArg List.length h1
  rw [List.length_drop] at this
  simp at this; omega
 ·
  cases h1
theorem Buf.ex {te : TypeId} {A : Option Addr} {l : List Int} {c : Nat} {cm : Bool} {mb : Bk} (h : Buf te A l c cm mb) (hl : 0 < l.length) : ∃ (g : Nat) (cs : Array Value) (f : Nat × Nat), A = some ⟨g, 0, none⟩ ∧ cs.size = c ∧ mb = [(g, .cells cs te f)] ∧ (cm = false → f = (0, 0)) ∧ ∀ (i : Nat) (v : Int), l[i]? = some v → cs[i]? = some (Value.int .u8 v) := by
 obtain ⟨h1, h3, h2⟩ := h
 rcases h2 with ⟨_, h0, _⟩ | h2
 ·
  omega
 ·
  exact h2
theorem at_vis {l X : List Int} {r0 p v i : Nat} (h : l.drop r0 = X.take v) (hv : r0 + v = l.length) (hi : p + i < v) (hx : v ≤ X.length) : l.getD (r0 + p + i) 0 = X.getD (p + i) 0 := by
 have h1 : (l.drop r0)[p + i]? = (X.take v)[p + i]? := by rw [h]
 rw [List.getElem?_drop, List.getElem?_take_of_lt hi] at h1
 rw [List.getD_eq_getElem?_getD, List.getD_eq_getElem?_getD, ← h1, Nat.add_assoc]
theorem Buf.first {P : Program} {B : Nat} {w0 w : World} {te : TypeId} {A : Option Addr} {l : List Int} {c r : Nat} {cm : Bool} {mb L : Bk} (h : Buf te A l c cm mb) (H : HH B w0 w (mb ++ L)) (hr : r ≤ l.length) : First P (.slice (cutAt A c r 1) (l.length - r) (c - r)) (l.length - r) ((l.drop r).map (Value.int .u8)) w := by
 obtain ⟨h1, h3, h2⟩ := h
 rcases h2 with ⟨rfl, rfl, rfl⟩ | ⟨g, cs, f, rfl, hc, rfl, _, hrow⟩
 ·
  have e1 : l = [] := List.length_eq_zero_iff.1 (by omega)
  subst e1
  have : cutAt none 0 r 1 = none := by unfold cutAt; split <;> rfl
  rw [this]
  simpa using first_nil (P := P) (w := w) (0 - r)
 ·
  rw [cutAt_off]
  have hrb : RB w g 0 l := RB.of (e := te) (f := f) H (by simp) hrow
  have := (RB.off hrb r h1).first (P := P) (c := c - r)
  rwa [List.length_drop] at this
theorem Buf.ex' {te : TypeId} {A : Option Addr} {l : List Int} {c : Nat} {cm : Bool} {mb : Bk} (h : Buf te A l c cm mb) (hl : 0 < c) : ∃ (g : Nat) (cs : Array Value) (f : Nat × Nat), A = some ⟨g, 0, none⟩ ∧ cs.size = c ∧ mb = [(g, .cells cs te f)] ∧ (cm = false → f = (0, 0)) ∧ ∀ (i : Nat) (v : Int), l[i]? = some v → cs[i]? = some (Value.int .u8 v) := by
 obtain ⟨h1, h3, h2⟩ := h
 rcases h2 with ⟨_, h0, _⟩ | h2
 ·
  omega
 ·
  exact h2
theorem grow_ {l1 X : List Int} {r1 v K : Nat} {s : ByteArray} (h : l1.drop r1 = X.take v) (hr : r1 + v = l1.length) (hX : X.drop v = ints s) (hK : K ≤ s.size) (hv : v ≤ X.length) :
  (l1 ++ (ints s).take K).drop r1 = X.take (v + K) ∧ r1 + (v + K) = (l1 ++ (ints s).take K).length ∧ v + K ≤ X.length ∧ X.drop (v + K) = ints (s.extract K s.size) := by
 have hl := congrArg List.length hX
 rw [List.length_drop, ints_len] at hl
 refine ⟨?_, ?_, by omega, ?_⟩
 ·
  rw [List.drop_append_of_le_length (by omega), h, ← hX, List.take_add]
 ·
  rw [List.length_append, List.length_take, ints_len]; omega
 ·
  rw [ints_drop, ← hX, List.drop_drop]
theorem spl_row {cs : Array Value} {l t : List Int} (h : ∀ (i : Nat) (v : Int), l[i]? = some v → cs[i]? = some (Value.int .u8 v)) (hs : l.length + t.length ≤ cs.size) : ∀ (i : Nat) (v : Int), (l ++ t)[i]? = some v → (spl cs l.length (t.map (Value.int .u8)))[i]? = some (Value.int .u8 v) := by
 intro i v hi
 by_cases hl : i < l.length
 ·
  rw [List.getElem?_append_left hl] at hi
  rw [spl_out _ _ _ _ (.inl hl)]
  exact h i v hi
 ·
  rw [List.getElem?_append_right (by omega)] at hi
  have hlt := (List.getElem?_eq_some_iff.1 hi).1
  have := spl_in (t.map (Value.int .u8)) cs l.length (i - l.length) (by rw [List.length_map]; exact hs) (by rw [List.length_map]; exact hlt)
  rw [show l.length + (i - l.length) = i by omega] at this
  rw [this, List.getElem?_map, hi]
  rfl
theorem spl_row0 {cs : Array Value} {t : List Int} (hs : t.length ≤ cs.size) : ∀ (i : Nat) (v : Int), t[i]? = some v → (spl cs 0 (t.map (Value.int .u8)))[i]? = some (Value.int .u8 v) := by
 have := spl_row (cs := cs) (l := []) (t := t) (fun i v h => by simp at h) (by simpa using hs)
 simpa using this
theorem ext_size {s : ByteArray} {k : Nat} (h : k ≤ s.size) : (s.extract k s.size).size = s.size - k := by
 rw [ByteArray.size_extract, Nat.min_self]
theorem Prog.zero {zs : List Int} {a M : Nat} (h : Prog zs a 0 M) : True := trivial
theorem Prog.le {zs : List Int} {a k k' M : Nat} (h : Prog zs a k M) (hk : k' ≤ k) : Prog zs a k' M := by
 rcases h with ⟨h1, h2⟩ | ⟨d, h1, h2, h3⟩
 ·
  exact .inl ⟨h1, by omega⟩
 ·
  refine .inr ⟨d, h1, ?_, h3⟩
  have := Nat.mul_le_mul_right (zs.length + 1) hk
  omega
theorem round_ {zs : List Int} {a d : Nat} (h : 0 < zs.getD ((a + d) % zs.length) 0) (hd : d < zs.length) (b : Nat) : ∃ e, e < zs.length ∧ 0 < zs.getD ((b + e) % zs.length) 0 := by
 have hn : 0 < zs.length := by omega
 have hb := Nat.mod_lt b hn
 have hi := Nat.mod_lt (a + d) hn
 generalize hI : (a + d) % zs.length = i at h hi
 refine ⟨(i + zs.length - b % zs.length) % zs.length, Nat.mod_lt _ hn, ?_⟩
 have : (b + (i + zs.length - b % zs.length) % zs.length) % zs.length = i := by
  rw [Nat.add_mod, Nat.mod_mod, ← Nat.add_mod]
  have h2 : b + (i + zs.length - b % zs.length) = i + zs.length * (1 + b / zs.length) := by
   have := Nat.div_add_mod b zs.length
   rw [Nat.mul_add, Nat.mul_one]; omega
  rw [h2, Nat.add_mul_mod_self_left, Nat.mod_eq_of_lt hi]
 rw [this]; exact h
def took (zs : List Int) (a k r : Nat) : Nat := min k (min (if zs = [] then k else (zs.getD (a % zs.length) 0).toNat) r)
theorem took_le (zs : List Int) (a k r : Nat) : took zs a k r ≤ k := Nat.min_le_left _ _
theorem took_room (zs : List Int) (a k r : Nat) : took zs a k r ≤ r := Nat.le_trans (Nat.min_le_right _ _) (Nat.min_le_right _ _)
theorem Prog.step {zs : List Int} {a k M r : Nat} (h : Prog zs a k M) (hk : 0 < k) (hr : 0 < r) : ∃ M', M' < M ∧ Prog zs (if zs = [] then a else a + 1) (k - took zs a k r) M' ∧ (if zs = [] then a else a + 1) + M' ≤ a + M := by
 rcases h with ⟨rfl, h2⟩ | ⟨d, h1, h2, h3⟩
 ·
  have ht : took [] a k r = min k r := by unfold took; simp
  rw [ht]
  refine ⟨k - min k r, by omega, .inl ⟨rfl, Nat.le_refl _⟩, by simp; omega⟩
 ·
  have hz : zs ≠ [] := fun e => by subst e; simp at h3
  rw [if_neg hz]
  by_cases hp : 0 < zs.getD (a % zs.length) 0
  ·
   obtain ⟨e, he, hpe⟩ := round_ h1 h3 (a + 1)
   have ht : 0 < took zs a k r := by
    unfold took
    rw [if_neg hz]
    omega
   have hm : (k - took zs a k r) * (zs.length + 1) + (zs.length + 1) ≤ k * (zs.length + 1) := by
    have := Nat.mul_le_mul_right (zs.length + 1) (show (k - took zs a k r) + 1 ≤ k by omega)
    rw [Nat.add_mul, Nat.one_mul] at this
    exact this
   exact ⟨(k - took zs a k r) * (zs.length + 1) + e, by omega, .inr ⟨e, hpe, Nat.le_refl _, he⟩, by omega⟩
  ·
   have hd : d ≠ 0 := fun e => by subst e; exact hp h1
   have ht : took zs a k r = 0 := by
    unfold took
    rw [if_neg hz]
    omega
   rw [ht]
   refine ⟨M - 1, by omega, .inr ⟨d - 1, by rw [show a + 1 + (d - 1) = a + d by omega]; exact h1, by rw [Nat.sub_zero]; omega, by omega⟩, by omega⟩
def pos (zs : List Int) (j : Nat) : Bool := (zs.take j).any fun z => decide (z > 0)
theorem pos_succ {zs : List Int} {j : Nat} (h : j < zs.length) : pos zs (j + 1) = (pos zs j || decide (zs.getD j 0 > 0)) := by
 unfold pos
 rw [List.take_add_one, get_some 0 h]
 simp
theorem pos_ex {zs : List Int} (h : pos zs zs.length = true) : ∃ i, i < zs.length ∧ 0 < zs.getD i 0 := by
 unfold pos at h
 rw [List.take_of_length_le (Nat.le_refl _)] at h
 obtain ⟨z, hz, hp⟩ := List.any_eq_true.1 h
 obtain ⟨i, hi⟩ := List.getElem?_of_mem hz
 have hlt := (List.getElem?_eq_some_iff.1 hi).1
 refine ⟨i, hlt, ?_⟩
 rw [List.getD_eq_getElem?_getD, hi]
 simpa using hp
theorem start_ {zs : List Int} {k : Nat} (h : pos zs zs.length = true) (hk : k ≤ 1000000) (hn : zs.length ≤ 1000) : ∃ M, Prog zs 0 k M ∧ 0 + M ≤ 1000000000000 := by
 obtain ⟨i, hi, hp⟩ := pos_ex h
 refine ⟨k * (zs.length + 1) + i, .inr ⟨i, by rw [Nat.zero_add, Nat.mod_eq_of_lt hi]; exact hp, Nat.le_refl _, hi⟩, ?_⟩
 have := Nat.mul_le_mul hk (show zs.length + 1 ≤ 1001 by omega)
 omega
theorem Buf.ofOwn {te : TypeId} {A : Option Addr} {l : List Int} {c : Nat} {ow : Bk} (h : OwnB te (.slice A l.length c) l ow) : Buf te A l c true ow := by
 obtain ⟨h0, h⟩ := h
 rcases h with ⟨hv, hl, rfl⟩ | ⟨g, cs, c', f, hv, hc, hcs, rfl, _, hr⟩
 ·
  injection hv with e1 e2 e3
  exact ⟨by omega, ⟨fun h => (by cases h), .inl ⟨e1, e3, rfl⟩⟩⟩
 ·
  injection hv with e1 e2 e3
  subst e3
  refine ⟨hc, ⟨fun h => (by cases h), .inr ⟨g, cs, f, e1, by omega, rfl, fun h => (by cases h), fun i v hi => ?_⟩⟩⟩
  have hlt := (List.getElem?_eq_some_iff.1 hi).1
  rw [hr i (by rw [List.length_map]; exact hlt), List.getElem?_map, hi]
  rfl
theorem own_new {te : TypeId} {g c : Nat} {cs : Array Value} (hc : cs.size = c) : OwnB te (.slice (some ⟨g, 0, none⟩) ([] : List Int).length c) [] [(g, .cells cs te (0, 0))] :=
 ⟨rfl, .inr ⟨g, cs, c, (0, 0), rfl, Nat.zero_le _, by omega, rfl, thaw0 _, fun j hj => by simp at hj⟩⟩
theorem open_ {B : Nat} {wb w : World} {x : Nat × Obj} {mb mr L0 : Bk} : HH B wb w ((x :: (mb ++ mr)) ++ L0) ↔ HH B wb w (x :: (mb ++ (mr ++ L0))) := by
 rw [List.cons_append, List.append_assoc]
def eol (X : List Int) (p : Nat) : Bool × Nat × Nat :=
 if X.length ≤ p then (true, 0, 0) else if X.getD p 0 = 10 then (true, 1, 1) else if X.getD p 0 = 13 then (if X.length ≤ p + 1 then (true, 1, 0) else if X.getD (p + 1) 0 = 10 then (true, 2, 1) else (false, 0, 0)) else (false, 0, 0)
end Go.Proofs.YtbahngfpadjbhaaGreatDoor.dc
end
section
namespace Go.Proofs.YtbahngfpadjbhaaGreatDoor.bf
open Go.RowKit Go.Proofs.HHW Go.Proofs.YtbahngfpadjbhaaGreatDoorW.PrintWords
def Row (cs : Array Value) (r : Nat) (vis : List Int) : Prop := ∀ (i : Nat) (v : Int), vis[i]? = some v → cs[r + i]? = some (Value.int .u8 v)
end Go.Proofs.YtbahngfpadjbhaaGreatDoor.bf
end
section
namespace Go.Proofs.HHW
open Go.RowKit Go.Proofs.YtbahngfpadjbhaaGreatDoorW.PrintWords
section
variable {P : Program} {ops : Array Oper} {Q : Exit → Act → World → Prop} {o : Oper} {rest : List Oper} {a : Act} {n : Nat} {ds : List Deferred} {F : List (Nat × Value)} {B : Nat} {w0 w : World} {L : List (Nat × Obj)} {d : Nat}
theorem p_ta {x : Operand} {xt at_ : TypeId} {ok : Bool} {u v : Value} (hx : ev F x = some u) (h : ∀ w, (Instr.typeAssert u xt at_ ok).run P w = .ok v w) : Pure P F (.typeAssert x xt at_ ok) v := by
 intro ρ A o ho w
 unfold execOp
 simp only [ho]
 rw [A x _ hx]
 exact run_v (h w)
end
end Go.Proofs.HHW
end
section
namespace Go.Proofs.HHW
open Go.RowKit Go.Proofs.YtbahngfpadjbhaaGreatDoorW.PrintWords YtbahngfpadjbhaaGreatDoorW.PrintLast
section
variable {P : Program} {ops : Array Oper} {Q : Exit → Act → World → Prop} {o : Oper} {rest : List Oper} {a : Act} {n : Nat} {ds : List Deferred} {F : List (Nat × Value)} {B : Nat} {w0 w : World} {L : List (Nat × Obj)} {d : Nat}
theorem sl_strN {t : TypeId} {k k' : IntKind} {l h : Int} {m m' : Nat} {s : ByteArray} (hu : P.underlying t = some .string) (hl : l = (m : Int)) (hh : h = (m' : Int)) (h1 : m ≤ m') (h2 : m' ≤ s.size) :
  (Instr.sliceAt t (.string s) (some (.int k l)) (some (.int k' h)) none).run P w = .ok (.string (s.extract m m')) w := by
 subst hl hh
 have := sl_string (P := P) (w := w) (k := k) (k' := k') (s := s) hu (l := (m : Int)) (h := (m' : Int)) (by omega) (by omega) (by omega)
 rwa [Int.toNat_natCast, Int.toNat_natCast] at this
end
end Go.Proofs.HHW
end
section
namespace Go.Proofs.HHW
open Go.RowKit Go.Proofs.YtbahngfpadjbhaaGreatDoorW.PrintWords YtbahngfpadjbhaaGreatDoorW.PrintLast
section
variable {P : Program} {ops : Array Oper} {Q : Exit → Act → World → Prop} {a : Act} {n : Nat} {ds : List Deferred} {F : List (Nat × Value)} {B : Nat} {w0 w : World} {L L2 : List (Nat × Obj)} {d : Nat} {dss : List Nat} {fuel : Nat} {l : Array Bool} {i : Nat} {oi : Oper}
theorem d_new {v : Nat → Value} {ob : Obj} (l' : Array Bool) (S : SL a n ds F) (hs : L.Sublist L2) (H : HH B w0 w L2) (hi : ops[i]? = some oi)
  (hr : ∀ ρ, Agree F ρ → (execOp ρ oi).run P w = .ok (.value (v w.heap.size)) (w.alloc ob)) (hw : Region.wanted oi (yielded ops a.tmps) = true) (hd : oi.dst = some d) (hn : Nat.blt d n = true)
  (hc : readyB .any ops l l' i = true) (hds : dss.contains i = false)
  (h : ∀ g w a, HH B w0 w ((g, ob) :: L2) → SL a n ds ((d, v g) :: F) → wpAnyLast P .any ops Q (fun w => HH B w0 w L) dss fuel l' a w) : wpAnyLast P .any ops Q (fun w => HH B w0 w L) dss (fuel + 1) l a w :=
 one_ l' hi hd hc (by simpa using hds) (fun K hK => value_ hw hd (hr _ S.agree) (hK.out _ _ ((H.alloc ob).tail.sub hs) (fun _ => h _ _ _ (H.alloc ob) (S.put hn _))))
section
variable {K : Act → World → Prop} {li : Array Bool}
end
end
end Go.Proofs.HHW
end
section
namespace Go.Proofs.YtbahngfpadjbhaaGreatDoor.dc
open Go.RowKit Go.Proofs.HHW Go.Proofs.YtbahngfpadjbhaaGreatDoorW.PrintWords
def InG (G : Bk) (gt ot : Nat) (t : List Int) : Prop := ∃ (cs : Array Value) (te : TypeId) (f : Nat × Nat), (gt, Obj.cells cs te f) ∈ G ∧ bf.Row cs ot t
def Vis (D : Bk) (gt ot : Nat) (t : List Int) : Prop := ∃ (g : Nat) (st : Array Value) (td : TypeId) (n c : Nat) (cs : Array Value) (te : TypeId) (f : Nat × Nat) (r : Bk),
 D = (g, .cells st td (0, 0)) :: (gt, .cells cs te f) :: r ∧ st[1]? = some (.slice (some ⟨gt, 0, none⟩) n c) ∧ ot + t.length ≤ n ∧ bf.Row cs ot t
def VisE (eb : Value) (E : Bk) (gt ot : Nat) (t : List Int) : Prop := ∃ (n c : Nat) (cs : Array Value) (te : TypeId) (f : Nat × Nat), eb = .slice (some ⟨gt, 0, none⟩) n c ∧ E = [(gt, .cells cs te f)] ∧ ot + t.length ≤ n ∧ bf.Row cs ot t
def Keeps (D D' G : Bk) : Prop := ∀ gt ot t, Vis D gt ot t → Vis D' gt ot t ∨ InG G gt ot t
theorem InG.left {G G' : Bk} {gt ot : Nat} {t : List Int} (h : InG G gt ot t) : InG (G ++ G') gt ot t := by
 obtain ⟨cs, te, f, h1, h2⟩ := h
 exact ⟨cs, te, f, List.mem_append_left _ h1, h2⟩
theorem InG.right {G G' : Bk} {gt ot : Nat} {t : List Int} (h : InG G' gt ot t) : InG (G ++ G') gt ot t := by
 obtain ⟨cs, te, f, h1, h2⟩ := h
 exact ⟨cs, te, f, List.mem_append_right _ h1, h2⟩
theorem Keeps.refl (D : Bk) : Keeps D D [] := fun _ _ _ h => .inl h
theorem Keeps.trans {D D1 D2 G1 G2 : Bk} (h1 : Keeps D D1 G1) (h2 : Keeps D1 D2 G2) : Keeps D D2 (G2 ++ G1) := fun gt ot t h => by
 rcases h1 gt ot t h with h | h
 ·
  rcases h2 gt ot t h with h | h
  ·
   exact .inl h
  ·
   exact .inr h.left
 ·
  exact .inr h.right
theorem Keeps.head {g g' : Nat} {st st' : Array Value} {td td' : TypeId} {r : Bk} (h : st'[1]? = st[1]?) : Keeps ((g, .cells st td (0, 0)) :: r) ((g', .cells st' td' (0, 0)) :: r) [] := by
 rintro gt ot t ⟨g1, st1, td1, n, c, cs, te, f, r1, he, h1, h2, h3⟩
 injection he with e1 e2
 injection e1 with e3 e4
 injection e4 with e5 e6 e7
 subst e3 e5 e6 e2
 exact .inl ⟨g', st', td', n, c, cs, te, f, r1, rfl, by rw [h]; exact h1, h2, h3⟩
theorem Keeps.then_head {D : Bk} {g g' : Nat} {st st' : Array Value} {td td' : TypeId} {r G : Bk} (h : Keeps D ((g, .cells st td (0, 0)) :: r) G) (he : st'[1]? = st[1]?) : Keeps D ((g', .cells st' td' (0, 0)) :: r) G := h.trans (Keeps.head he)
theorem row_keep {cs : Array Value} {ot o : Nat} {t : List Int} {vs : List Value} (h : bf.Row cs ot t) (ho : ot + t.length ≤ o) : bf.Row (spl cs o vs) ot t := by
 intro i v hi
 have hlt := (List.getElem?_eq_some_iff.1 hi).1
 rw [spl_out _ _ _ _ (.inl (by omega))]
 exact h i v hi
theorem vis_buf {D : Bk} {g : Nat} {c1 c3 c4 c5 c6 c7 c8 c9 c10 : Value} {A : Option Addr} {l : List Int} {c : Nat} {cm : Bool} {mb mr : Bk} {te td : TypeId} {gt ot : Nat} {t : List Int} (hD : D = (g, .cells #[c1, .slice A l.length c, c3, c4, c5, c6, c7, c8, c9, c10] td (0, 0)) :: (mb ++ mr)) (hb : Buf te A l c cm mb) (h : Vis D gt ot t) :
  ∃ (cs : Array Value) (f : Nat × Nat), A = some ⟨gt, 0, none⟩ ∧ mb = [(gt, .cells cs te f)] ∧ ot + t.length ≤ l.length ∧ bf.Row cs ot t := by
 obtain ⟨g1, st1, td1, n, c', cs, te', f, r1, he, h1, h2, h3⟩ := h
 rw [hD] at he
 injection he with e1 e2
 injection e1 with e3 e4
 injection e4 with e5 e6 e7
 subst e5
 simp only [List.getElem?_toArray, List.getElem?_cons_succ, List.getElem?_cons_zero] at h1
 injection h1 with h1
 injection h1 with a1 a2 a3
 subst a2
 rcases hb.2.2 with ⟨a4, _, _⟩ | ⟨g2, cs2, f2, a4, _, rfl, _, _⟩
 ·
  rw [a4] at a1; cases a1
 ·
  rw [a4] at a1
  injection a1 with a1
  injection a1 with a1
  subst a1
  simp only [List.cons_append, List.nil_append] at e2
  injection e2 with e8 e9
  injection e8 with _ e10
  injection e10 with e11 e12 e13
  subst e11 e12 e13
  exact ⟨_, _, a4, rfl, h2, h3⟩
theorem vis_mk {g gt ot n c : Nat} {st : Array Value} {td te : TypeId} {cs : Array Value} {f : Nat × Nat} {r : Bk} {t : List Int} (h1 : st[1]? = some (.slice (some ⟨gt, 0, none⟩) n c)) (h2 : ot + t.length ≤ n) (h3 : bf.Row cs ot t) : Vis ((g, .cells st td (0, 0)) :: (gt, .cells cs te f) :: r) gt ot t :=
 ⟨g, st, td, n, c, cs, te, f, r, rfl, h1, h2, h3⟩
theorem held_rb {B : Nat} {wb w : World} {D E G L : Bk} {eb : Value} {gt ot : Nat} {t : List Int} (H : HH B wb w (D ++ (E ++ (G ++ L)))) (h : Vis D gt ot t ∨ VisE eb E gt ot t ∨ InG G gt ot t) : RB w gt ot t := by
 rcases h with ⟨g, st, td, n, c, cs, te, f, r, rfl, _, _, h3⟩ | ⟨n, c, cs, te, f, _, rfl, _, h3⟩ | ⟨cs, te, f, h1, h3⟩
 ·
  intro i v hi
  have hat := H.at_ (gt, Obj.cells cs te f) (by simp)
  simp only at hat
  simp only [World.cell?, hat]
  exact h3 i v hi
 ·
  intro i v hi
  have hat := H.at_ (gt, Obj.cells cs te f) (by simp)
  simp only at hat
  simp only [World.cell?, hat]
  exact h3 i v hi
 ·
  intro i v hi
  have hat := H.at_ (gt, Obj.cells cs te f) (by simp [h1])
  simp only at hat
  simp only [World.cell?, hat]
  exact h3 i v hi
end Go.Proofs.YtbahngfpadjbhaaGreatDoor.dc
end
section
namespace Go.Proofs.HHW
open Go.RowKit YtbahngfpadjbhaaGreatDoorW.PrintLast
def bA (n m : Nat) : Array Bool := ((List.range n).map fun i => Nat.testBit m i).toArray
section
variable {α : Type} {a b c d e f g h : α} {l : List α}
theorem m0 : a ∈ a :: l := List.mem_cons_self
theorem m1 : a ∈ b :: a :: l := List.mem_cons_of_mem _ m0
theorem m2 : a ∈ b :: c :: a :: l := List.mem_cons_of_mem _ m1
theorem m3 : a ∈ b :: c :: d :: a :: l := List.mem_cons_of_mem _ m2
theorem m4 : a ∈ b :: c :: d :: e :: a :: l := List.mem_cons_of_mem _ m3
theorem m5 : a ∈ b :: c :: d :: e :: f :: a :: l := List.mem_cons_of_mem _ m4
theorem m6 : a ∈ b :: c :: d :: e :: f :: g :: a :: l := List.mem_cons_of_mem _ m5
theorem m7 : a ∈ b :: c :: d :: e :: f :: g :: h :: a :: l := List.mem_cons_of_mem _ m6
end
theorem one_all {vs : List Value} (h : vs.all Value.oneCell' = true) : ∀ v ∈ vs, v.oneCell' = true := List.all_eq_true.1 h
section
variable {P : Program} {ops : Array Oper} {rest : List Oper} {o oj : Oper} {Q : Exit → Act → World → Prop} {B : Nat} {w0 w : World} {L L' : List (Nat × Obj)} {n d j dj : Nat} {ds : List Deferred} {F F' : List (Nat × Value)} {v : Value} {c b : Bool}
theorem pP (hp : Pure P F o.op v) (hd : o.dst = some d) (h : ∀ a, SL a n ds ((d, v) :: F) → wpList P ops Q rest a w) (hg : o.guard = none := by exact rfl) (hn : Nat.blt d n = true := by exact rfl) : ∀ a, SL a n ds F → wpList P ops Q (o :: rest) a w := fun _ S => l_pure S hp hg hd hn h
theorem pA {s : TypeId} {x : Operand} {i g k : Nat} {V : Nat → Nat → Value} (hf : ∀ w (g o : Nat), (Instr.fieldAt s (.pointer (some ⟨g, o, none⟩)) i).run P w = .ok (V g o) w) (ho : o.op = .fieldAddr s x i) (hx : ev F x = some (.pointer (some ⟨g, k, none⟩))) (hd : o.dst = some d) (h : ∀ a, SL a n ds ((d, V g k) :: F) → wpList P ops Q rest a w) (hg : o.guard = none := by exact rfl) (hn : Nat.blt d n = true := by exact rfl) : ∀ a, SL a n ds F → wpList P ops Q (o :: rest) a w := fun _ S => l_pure S (by rw [ho]; exact p_fieldAddr hx (fun w => hf w g k)) hg hd hn h
theorem pR (H : HH B w0 w L) (hp : Reads P F B w0 L o.op v) (hd : o.dst = some d) (h : ∀ a, SL a n ds ((d, v) :: F) → wpList P ops Q rest a w) (hg : o.guard = none := by exact rfl) (hn : Nat.blt d n = true := by exact rfl) : ∀ a, SL a n ds F → wpList P ops Q (o :: rest) a w := fun _ S => l_read S H hp hg hd hn h
theorem pD (H : HH B w0 w L) {t : TypeId} {x : Operand} {g j : Nat} {cs : Array Value} {tt : TypeId} {f : Nat × Nat} (ho : o.op = .load t x) (hx : ev F x = some (.pointer (some ⟨g, j, none⟩))) (hm : (g, Obj.cells cs tt f) ∈ L) (hv : cs[j]? = some v) (ha : aggB P t = some false) (hd : o.dst = some d) (h : ∀ a, SL a n ds ((d, v) :: F) → wpList P ops Q rest a w) (hg : o.guard = none := by exact rfl) (hn : Nat.blt d n = true := by exact rfl) : ∀ a, SL a n ds F → wpList P ops Q (o :: rest) a w := fun _ S => l_read S H (by rw [ho]; exact r_load hx hm hv (fun w hc => ld1 ha hc)) hg hd hn h
theorem pM (k : Nat) {r r' : List Oper} (h : mv n k F r = some (F', r')) (hk : ∀ a, SL a n ds F' → wpList P ops Q r' a w) : ∀ a, SL a n ds F → wpList P ops Q r a w := fun _ S => l_mv k S h hk
theorem pO (hc : c = !b) (hd : o.dst = some d) (h : ∀ a, SL a n ds ((d, undef) :: F) → wpList P ops Q rest a w) (hg : o.guard = some (j, b) := by exact rfl) (hj : ops[j]? = some oj := by exact rfl) (hdj : oj.dst = some dj := by exact rfl) (hs : slot F dj = some (.bool c) := by exact rfl) (hn : Nat.blt d n = true := by exact rfl) : ∀ a, SL a n ds F → wpList P ops Q (o :: rest) a w := fun _ S => l_off S hg hj hdj hs hc hd hn h
theorem pQ (hc : c = !b) (h : ∀ a, SL a n ds F → wpList P ops Q rest a w) (hg : o.guard = some (j, b) := by exact rfl) (hj : ops[j]? = some oj := by exact rfl) (hdj : oj.dst = some dj := by exact rfl) (hs : slot F dj = some (.bool c) := by exact rfl) (hd : o.dst = none := by exact rfl) : ∀ a, SL a n ds F → wpList P ops Q (o :: rest) a w := fun a S => l_off0 S hg hj hdj hs hc hd (h a S)
theorem pN (hc : c = b) (h : ∀ a, SL a n ds F → wpList P ops Q ({ o with guard := none } :: rest) a w) (hg : o.guard = some (j, b) := by exact rfl) (hj : ops[j]? = some oj := by exact rfl) (hd : oj.dst = some dj := by exact rfl) (hs : slot F dj = some (.bool c) := by exact rfl) : ∀ a, SL a n ds F → wpList P ops Q (o :: rest) a w := fun a S => l_on S hg hj hd hs hc (h a S)
theorem pL (h : ∀ a, SL a n ds F → Q .normal a w) : ∀ a, SL a n ds F → wpList P ops Q [] a w := h
theorem pC {f : FuncId} {fn : Func} {xs : List Operand} {ts : Array TypeId} {vs : List Value} {R : Ending → World → Prop} (hf : P.funcs[f]? = some fn) (hc : Calls P f vs.toArray w R) (h : ∀ e w, R e w → ∃ v, e = .returned v ∧ ∀ a, SL a n ds ((d, v) :: F) → wpList P ops Q rest a w) (ho : o.op = .call { callee := .value (.func f), args := xs.toArray, argTypes := ts } := by exact rfl) (hx : evs F xs = some vs := by exact rfl) (hname : (fn.name == "runtime.NumGoroutine") = false := by exact rfl) (hb : fn.body.isSome = true := by exact rfl) (hg : o.guard = none := by exact rfl) (hd : o.dst = some d := by exact rfl) (hn : Nat.blt d n = true := by exact rfl) : ∀ a, SL a n ds F → wpList P ops Q (o :: rest) a w := fun _ S => l_call S ho hx hf hname hb hc hg hd hn h
theorem pE (H : HH B w0 w L) {t : TypeId} {x y : Operand} {g j : Nat} {cs : Array Value} {tt : TypeId} (ho : o.op = .store t x y) (hx : ev F x = some (.pointer (some ⟨g, j, none⟩))) (hy : ev F y = some v) (hu : Upd L g (.cells cs tt (0, 0)) (.cells (cs.setIfInBounds j v) tt (0, 0)) L') (hj : j < cs.size) (hs : szB P t = some 1) (h : ∀ w, HH B w0 w L' → ∀ a, SL a n ds F → wpList P ops Q rest a w) (hv : v.oneCell' = true := by exact rfl) (hg : o.guard = none := by exact rfl) (hd : o.dst = none := by exact rfl) : ∀ a, SL a n ds F → wpList P ops Q (o :: rest) a w := fun _ S => l_store S H ho hx hy hu hj (fun w u hc hz => st1 hs hv hc hz) hg hd (fun w a H => h w H a)
theorem pF (vs : List Value) (H : HH B w0 w L) {t : TypeId} {x y : Operand} {g : Nat} {cs : Array Value} {tt : TypeId} (ho : o.op = .store t x y) (hx : ev F x = some (.pointer (some ⟨g, 0, none⟩))) (hs : szB P t = some vs.length) (hu : Rep L g (.cells cs tt (0, 0)) g (.cells vs.toArray tt (0, 0)) L') (h : ∀ w, HH B w0 w L' → ∀ a, SL a n ds F → wpList P ops Q rest a w) (hy : ev F y = some (.agg vs.toArray) := by exact rfl) (hj : cs.size = vs.length := by exact rfl) (h1 : vs.all Value.oneCell' = true := by exact rfl) (hg : o.guard = none := by exact rfl) (hd : o.dst = none := by exact rfl) : ∀ a, SL a n ds F → wpList P ops Q (o :: rest) a w := fun _ S => l_storeAll S H ho hx hy hs hu hj (one_all h1) hg hd (fun w a H => h w H a)
end
section
variable {P : Program} {Q : Exit → Act → World → Prop} {K : Act → World → Prop} {w : World} {n i j : Nat} {ds : List Deferred} {F : List (Nat × Value)} {x y : Code}
theorem pT (h : ∀ a, SL a n ds F → K a w) : ∀ a, SL a n ds F → Exit.then K Q .normal a w := h
theorem pU (h : ∀ a, SL a n ds F → Q .ret a w) : ∀ a, SL a n ds F → Exit.then K Q .ret a w := h
theorem pV (h : ∀ a, SL a n ds F → Q (.exit i) a w) : ∀ a, SL a n ds F → Exit.then K Q (.exit i) a w := h
theorem pI (i : Nat) (h : ∀ a, SL a n ds F → Q .normal a w) : ∀ a, SL a n ds F → Exit.inBlock i Q .normal a w := h
theorem pJ (h : ∀ a, SL a n ds F → Q .ret a w) : ∀ a, SL a n ds F → Exit.inBlock i Q .ret a w := h
theorem pW (h : ∀ a, SL a n ds F → Q .normal a w) : ∀ a, SL a n ds F → Exit.inBlock i Q (.exit i) a w := fun a S => e_in_exit (h a S)
theorem pY (hij : Nat.beq j i = false) (h : ∀ a, SL a n ds F → Q (.exit j) a w) : ∀ a, SL a n ds F → Exit.inBlock i Q (.exit j) a w := fun a S => e_in_other hij (h a S)
theorem pS (h : ∀ a, SL a n ds F → x.wp P (Exit.then (y.wp P Q) Q) a w) : ∀ a, SL a n ds F → (Code.seq x y).wp P Q a w := fun a S => wp_seq (h a S)
theorem pG {id : Nat} {l : List Oper} (h : ∀ a, SL a n ds F → wpList P l.toArray Q l a w) : ∀ a, SL a n ds F → (Code.region id l.toArray false).wp P Q a w := fun a S => c_region (h a S)
theorem pK (h : ∀ a, SL a n ds F → Q .normal a w) : ∀ a, SL a n ds F → Code.skip.wp P Q a w := fun a S => wp_skip (h a S)
theorem pB (h : ∀ a, SL a n ds F → x.wp P (Exit.inBlock i Q) a w) : ∀ a, SL a n ds F → (Code.block i x).wp P Q a w := fun a S => wp_block (h a S)
theorem pZ (h : ∀ a, SL a n ds F → Q .ret a w) : ∀ a, SL a n ds F → Code.ret.wp P Q a w := fun a S => wp_ret (h a S)
theorem pX (h : ∀ a, SL a n ds F → Q (.exit i) a w) : ∀ a, SL a n ds F → (Code.exit i).wp P Q a w := fun a S => wp_exit (h a S)
theorem zc {c : Operand} {b : Bool} (hc : ev F c = some (.bool b)) (ht : b = true → ∀ a, SL a n ds F → x.wp P Q a w) (hf : b = false → ∀ a, SL a n ds F → y.wp P Q a w) : ∀ a, SL a n ds F → (Code.cond c x y).wp P Q a w := fun a S => c_cond S hc (fun h => ht h a S) (fun h => hf h a S)
theorem zt {c : Operand} (h : ∀ a, SL a n ds F → x.wp P Q a w) (hc : ev F c = some (.bool true) := by exact rfl) : ∀ a, SL a n ds F → (Code.cond c x y).wp P Q a w := fun a S => c_cond (b := true) S hc (fun _ => h a S) (fun h => by cases h)
theorem zf {c : Operand} (h : ∀ a, SL a n ds F → y.wp P Q a w) (hc : ev F c = some (.bool false) := by exact rfl) : ∀ a, SL a n ds F → (Code.cond c x y).wp P Q a w := fun a S => c_cond (b := false) S hc (fun h => by cases h) (fun _ => h a S)
end
section
variable {P : Program} {ops : Array Oper} {Q : Exit → Act → World → Prop} {w : World} {B : Nat} {w0 : World} {L L' : List (Nat × Obj)} {n d j dj : Nat} {ds : List Deferred} {F F' : List (Nat × Value)} {dss : List Nat} {fuel : Nat} {l : Array Bool} {oi oj : Oper} {v : Value} {b c : Bool}
theorem qP (i : Nat) (hi : ops[i]? = some oi) (hp : Pure P F oi.op v) (hd : oi.dst = some d) (h : ∀ a, SL a n ds ((d, v) :: F) → wpAnyLast P .any ops Q (fun w => HH B w0 w L) dss fuel (l.setIfInBounds i true) a w) (hg : oi.guard = none := by exact rfl) (hn : Nat.blt d n = true := by exact rfl) (hc : anyB .any ops l (l.setIfInBounds i true) i = true := by kernel_rfl) (hQ : ∀ c (a : Act) w, Q (.panic c) (a.put oi.dst v) w → Q (.panic c) a w := by exact fun _ _ _ h => h) : ∀ a, SL a n ds F → wpAnyLast P .any ops Q (fun w => HH B w0 w L) dss (fuel + 1) l a w := fun a S => d_pure _ S hi hp (wanted_none hg) hd hn hc hQ h
theorem qW (i : Nat) (hi : ops[i]? = some oi) (hp : Pure P F oi.op v) (hb : c = b) (hd : oi.dst = some d) (h : ∀ a, SL a n ds ((d, v) :: F) → wpAnyLast P .any ops Q (fun w => HH B w0 w L) dss fuel (l.setIfInBounds i true) a w) (hg : oi.guard = some (j, b) := by exact rfl) (hj : ops[j]? = some oj := by exact rfl) (hdj : oj.dst = some dj := by exact rfl) (hs : slot F dj = some (.bool c) := by exact rfl) (hn : Nat.blt d n = true := by exact rfl) (hc : anyB .any ops l (l.setIfInBounds i true) i = true := by kernel_rfl) (hQ : ∀ c (a : Act) w, Q (.panic c) (a.put oi.dst v) w → Q (.panic c) a w := by exact fun _ _ _ h => h) : ∀ a, SL a n ds F → wpAnyLast P .any ops Q (fun w => HH B w0 w L) dss (fuel + 1) l a w := fun a S => d_pure _ S hi hp (wanted_on S hg hj hdj hs hb) hd hn hc hQ h
theorem qA (i : Nat) {s : TypeId} {x : Operand} {k g m : Nat} {V : Nat → Nat → Value} (hf : ∀ w (g o : Nat), (Instr.fieldAt s (.pointer (some ⟨g, o, none⟩)) k).run P w = .ok (V g o) w) (hi : ops[i]? = some oi) (ho : oi.op = .fieldAddr s x k) (hx : ev F x = some (.pointer (some ⟨g, m, none⟩))) (hd : oi.dst = some d) (h : ∀ a, SL a n ds ((d, V g m) :: F) → wpAnyLast P .any ops Q (fun w => HH B w0 w L) dss fuel (l.setIfInBounds i true) a w) (hg : oi.guard = none := by exact rfl) (hn : Nat.blt d n = true := by exact rfl) (hc : anyB .any ops l (l.setIfInBounds i true) i = true := by kernel_rfl) (hQ : ∀ c (a : Act) w, Q (.panic c) (a.put oi.dst (V g m)) w → Q (.panic c) a w := by exact fun _ _ _ h => h) : ∀ a, SL a n ds F → wpAnyLast P .any ops Q (fun w => HH B w0 w L) dss (fuel + 1) l a w := fun a S => d_pure _ S hi (by rw [ho]; exact p_fieldAddr hx (fun w => hf w g m)) (wanted_none hg) hd hn hc hQ h
theorem qX (i : Nat) {s : TypeId} {x : Operand} {k g m : Nat} {V : Nat → Nat → Value} (hf : ∀ w (g o : Nat), (Instr.fieldAt s (.pointer (some ⟨g, o, none⟩)) k).run P w = .ok (V g o) w) (hi : ops[i]? = some oi) (ho : oi.op = .fieldAddr s x k) (hx : ev F x = some (.pointer (some ⟨g, m, none⟩))) (hb : c = b) (hd : oi.dst = some d) (h : ∀ a, SL a n ds ((d, V g m) :: F) → wpAnyLast P .any ops Q (fun w => HH B w0 w L) dss fuel (l.setIfInBounds i true) a w) (hg : oi.guard = some (j, b) := by exact rfl) (hj : ops[j]? = some oj := by exact rfl) (hdj : oj.dst = some dj := by exact rfl) (hs : slot F dj = some (.bool c) := by exact rfl) (hn : Nat.blt d n = true := by exact rfl) (hc : anyB .any ops l (l.setIfInBounds i true) i = true := by kernel_rfl) (hQ : ∀ c (a : Act) w, Q (.panic c) (a.put oi.dst (V g m)) w → Q (.panic c) a w := by exact fun _ _ _ h => h) : ∀ a, SL a n ds F → wpAnyLast P .any ops Q (fun w => HH B w0 w L) dss (fuel + 1) l a w := fun a S => d_pure _ S hi (by rw [ho]; exact p_fieldAddr hx (fun w => hf w g m)) (wanted_on S hg hj hdj hs hb) hd hn hc hQ h
theorem qR (i : Nat) (H : HH B w0 w L) (hi : ops[i]? = some oi) (hp : Reads P F B w0 L oi.op v) (hd : oi.dst = some d) (h : ∀ a, SL a n ds ((d, v) :: F) → wpAnyLast P .any ops Q (fun w => HH B w0 w L) dss fuel (l.setIfInBounds i true) a w) (hg : oi.guard = none := by exact rfl) (hn : Nat.blt d n = true := by exact rfl) (hc : takeB .any ops dss l (l.setIfInBounds i true) i = true := by kernel_rfl) (hQ : ∀ c (a : Act) w, Q (.panic c) (a.put oi.dst v) w → Q (.panic c) a w := by exact fun _ _ _ h => h) : ∀ a, SL a n ds F → wpAnyLast P .any ops Q (fun w => HH B w0 w L) dss (fuel + 1) l a w := fun a S => d_read _ S H hi hp (wanted_none hg) hd hn hc hQ h
theorem qV (i : Nat) (H : HH B w0 w L) (hi : ops[i]? = some oi) (hp : Reads P F B w0 L oi.op v) (hb : c = b) (hd : oi.dst = some d) (h : ∀ a, SL a n ds ((d, v) :: F) → wpAnyLast P .any ops Q (fun w => HH B w0 w L) dss fuel (l.setIfInBounds i true) a w) (hg : oi.guard = some (j, b) := by exact rfl) (hj : ops[j]? = some oj := by exact rfl) (hdj : oj.dst = some dj := by exact rfl) (hs : slot F dj = some (.bool c) := by exact rfl) (hn : Nat.blt d n = true := by exact rfl) (hc : takeB .any ops dss l (l.setIfInBounds i true) i = true := by kernel_rfl) (hQ : ∀ c (a : Act) w, Q (.panic c) (a.put oi.dst v) w → Q (.panic c) a w := by exact fun _ _ _ h => h) : ∀ a, SL a n ds F → wpAnyLast P .any ops Q (fun w => HH B w0 w L) dss (fuel + 1) l a w := fun a S => d_read _ S H hi hp (wanted_on S hg hj hdj hs hb) hd hn hc hQ h
theorem qE (i : Nat) (H : HH B w0 w L) {t : TypeId} {x : Operand} {g k : Nat} {cs : Array Value} {tt : TypeId} {f : Nat × Nat} (hi : ops[i]? = some oi) (ho : oi.op = .load t x) (hx : ev F x = some (.pointer (some ⟨g, k, none⟩))) (hm : (g, Obj.cells cs tt f) ∈ L) (hv : cs[k]? = some v) (ha : aggB P t = some false) (hd : oi.dst = some d) (h : ∀ a, SL a n ds ((d, v) :: F) → wpAnyLast P .any ops Q (fun w => HH B w0 w L) dss fuel (l.setIfInBounds i true) a w) (hg : oi.guard = none := by exact rfl) (hn : Nat.blt d n = true := by exact rfl) (hc : takeB .any ops dss l (l.setIfInBounds i true) i = true := by kernel_rfl) (hQ : ∀ c (a : Act) w, Q (.panic c) (a.put oi.dst v) w → Q (.panic c) a w := by exact fun _ _ _ h => h) : ∀ a, SL a n ds F → wpAnyLast P .any ops Q (fun w => HH B w0 w L) dss (fuel + 1) l a w := fun a S => d_read _ S H hi (by rw [ho]; exact r_load hx hm hv (fun w hc => ld1 ha hc)) (wanted_none hg) hd hn hc hQ h
theorem qF (i : Nat) (H : HH B w0 w L) {t : TypeId} {x : Operand} {g k : Nat} {cs : Array Value} {tt : TypeId} {f : Nat × Nat} (hi : ops[i]? = some oi) (ho : oi.op = .load t x) (hx : ev F x = some (.pointer (some ⟨g, k, none⟩))) (hm : (g, Obj.cells cs tt f) ∈ L) (hv : cs[k]? = some v) (ha : aggB P t = some false) (hb : c = b) (hd : oi.dst = some d) (h : ∀ a, SL a n ds ((d, v) :: F) → wpAnyLast P .any ops Q (fun w => HH B w0 w L) dss fuel (l.setIfInBounds i true) a w) (hg : oi.guard = some (j, b) := by exact rfl) (hj : ops[j]? = some oj := by exact rfl) (hdj : oj.dst = some dj := by exact rfl) (hs : slot F dj = some (.bool c) := by exact rfl) (hn : Nat.blt d n = true := by exact rfl) (hc : takeB .any ops dss l (l.setIfInBounds i true) i = true := by kernel_rfl) (hQ : ∀ c (a : Act) w, Q (.panic c) (a.put oi.dst v) w → Q (.panic c) a w := by exact fun _ _ _ h => h) : ∀ a, SL a n ds F → wpAnyLast P .any ops Q (fun w => HH B w0 w L) dss (fuel + 1) l a w := fun a S => d_read _ S H hi (by rw [ho]; exact r_load hx hm hv (fun w hc => ld1 ha hc)) (wanted_on S hg hj hdj hs hb) hd hn hc hQ h
theorem qO (i : Nat) (hi : ops[i]? = some oi) (hb : c = !b) (hd : oi.dst = some d) (h : ∀ a, SL a n ds ((d, undef) :: F) → wpAnyLast P .any ops Q (fun w => HH B w0 w L) dss fuel (l.setIfInBounds i true) a w) (hg : oi.guard = some (j, b) := by exact rfl) (hj : ops[j]? = some oj := by exact rfl) (hdj : oj.dst = some dj := by exact rfl) (hs : slot F dj = some (.bool c) := by exact rfl) (hn : Nat.blt d n = true := by exact rfl) (hc : anyB .any ops l (l.setIfInBounds i true) i = true := by kernel_rfl) (hQ : ∀ c (a : Act) w, Q (.panic c) (a.put oi.dst undef) w → Q (.panic c) a w := by exact fun _ _ _ h => h) : ∀ a, SL a n ds F → wpAnyLast P .any ops Q (fun w => HH B w0 w L) dss (fuel + 1) l a w := fun a S => d_off _ S hi (wanted_off S hg hj hdj hs hb) hd hn hc hQ h
theorem qM (is : List Nat) (h : mvI ops n is F = some F') (hk : ∀ a, SL a n ds F' → wpAnyLast P .any ops Q (fun w => HH B w0 w L) dss fuel (is.foldl (fun l i => l.setIfInBounds i true) l) a w) (hc : chk ops is l (is.foldl (fun l i => l.setIfInBounds i true) l) = true := by kernel_rfl) (hQ : ∀ c (d : Tmp) (v : Value) (a : Act) w, Q (.panic c) (a.put (some d) v) w → Q (.panic c) a w := by exact fun _ _ _ _ _ h => h) : ∀ a, SL a n ds F → wpAnyLast P .any ops Q (fun w => HH B w0 w L) dss (fuel + is.length) l a w := fun a S => d_mv is _ S h hc hQ hk
theorem qD (h : ∀ a, SL a n ds F → Q .normal a w) (hr : (Region.ready .any ops l == []) = true := by kernel_rfl) : ∀ a, SL a n ds F → wpAnyLast P .any ops Q (fun w => HH B w0 w L) dss fuel l a w := fun a S => d_done hr (h a S)
end
end Go.Proofs.HHW
end
section
namespace Go.Proofs.HHW
open Go.RowKit Go.Proofs.YtbahngfpadjbhaaGreatDoorW.PrintWords
section
variable {P : Program} {ops : Array Oper} {Q : Exit → Act → World → Prop} {o : Oper} {rest : List Oper} {a : Act} {n : Nat} {ds : List Deferred} {F : List (Nat × Value)} {B : Nat} {w0 w : World} {L : List (Nat × Obj)} {d : Nat}
def vec (p : Nat → Bool) : List Value := (List.range 256).map fun i => Value.bool (p i)
theorem vec_len (p : Nat → Bool) : (vec p).length = 256 := by simp [vec]
theorem vec_get (p : Nat → Bool) {i : Nat} (h : i < 256) : (vec p)[i]? = some (.bool (p i)) := by simp [vec, h]
theorem vec_arr (p : Nat → Bool) {i : Nat} {b : Bool} (h : i < 256) (hb : p i = b) : (vec p).toArray[0 + ((i : Nat) : Int).toNat * 1]? = some (.bool b) := by subst hb; simp [vec, h]
theorem vec_one (p : Nat → Bool) : ∀ v ∈ vec p, v.oneCell' = true := fun v hv => by
 obtain ⟨i, _, rfl⟩ := List.mem_map.1 hv
 rfl
theorem vec_set (p : Nat → Bool) {i : Nat} (v : Bool) : (vec p).toArray.setIfInBounds i (.bool v) = (vec (fun j => if j = i then v else p j)).toArray := by
 apply Array.ext_getElem?
 intro j
 by_cases hj : j < 256
 ·
  by_cases e : j = i
  ·
   subst e
   simp [Array.getElem?_setIfInBounds, vec, hj]
  ·
   simp [Array.getElem?_setIfInBounds, vec, hj, e, Ne.symm e]
 ·
  simp [Array.getElem?_setIfInBounds, vec_len, vec, hj]
theorem vec_ext {p q : Nat → Bool} (h : ∀ i, i < 256 → p i = q i) : vec p = vec q := by
 unfold vec
 apply List.map_congr_left
 intro i hi
 rw [h i (List.mem_range.1 hi)]
def BS (w : World) (g : Nat) (p : Nat → Bool) : Prop := ∀ i, i < 256 → w.cell? ⟨g, i, none⟩ = some (.bool (p i))
theorem BS.later {w w' : World} {g : Nat} {p : Nat → Bool} (h : BS w g p) (hb : Below w.heap.size w w') : BS w' g p := fun i hi => by
 have h1 := h i hi
 rw [hb.cell (p := ⟨g, i, none⟩) (RB.block_lt (o := 0) (i := i) (by rw [Nat.zero_add]; exact h1))]
 exact h1
theorem BS.old {w w' : World} {g : Nat} {p : Nat → Bool} {L : List (Nat × Obj)} (h : BS w g p) (H : HH w.heap.size w w' L) : BS w' g p := h.later H.below
theorem BS.ext {w : World} {g : Nat} {p q : Nat → Bool} (h : BS w g p) (e : ∀ i, i < 256 → p i = q i) : BS w g q := fun i hi => by rw [← e i hi]; exact h i hi
theorem BS.of {g : Nat} {p : Nat → Bool} {e : TypeId} {f : Nat × Nat} (H : HH B w0 w L) (hm : (g, Obj.cells (vec p).toArray e f) ∈ L) : BS w g p := fun i hi => by
 have hat := H.at_ _ hm
 simp only at hat
 simp [World.cell?, hat, vec_get p hi]
def inp (l : List Int) (i : Nat) : Nat → Bool := fun c => decide ((c : Int) ∈ l.take i)
def ofs (s : ByteArray) : Nat → Bool := fun c => decide ((c : Int) ∈ ints s)
theorem inp_zero (l : List Int) : inp l 0 = fun _ => false := by funext c; simp [inp]
theorem inp_all (s : ByteArray) {i : Nat} (h : s.size ≤ i) : inp (ints s) i = ofs s := by
 funext c
 unfold inp ofs
 rw [List.take_of_length_le (by rw [ints_len]; exact h)]
theorem inp_succ {l : List Int} {i : Nat} {x : Nat} (h : l[i]? = some (x : Int)) : (fun j => if j = x then true else inp l i j) = inp l (i + 1) := by
 funext j
 unfold inp
 obtain ⟨h1, h2⟩ := List.getElem?_eq_some_iff.1 h
 rw [List.take_succ_eq_append_getElem h1, h2]
 by_cases e : j = x
 ·
  simp [e]
 ·
  have : ¬ ((j : Int) = x) := by omega
  simp [e, this]
theorem ints_bt (s : ByteArray) {i : Nat} (h : i < s.size) : (ints s)[i]? = some (((bt s (i : Int)).toNat : Nat) : Int) := by
 have hb := bt_range s (i : Int)
 rw [Int.toNat_of_nonneg hb.1]
 unfold ints HHW.bt
 rw [List.getElem?_map]
 have h' : (i : Int).toNat < s.size := by simpa using h
 simp only [h', dif_pos]
 have : s.data.toList[i]? = some s.data[i] := by
  rw [Array.getElem?_toList]
  exact Array.getElem?_eq_getElem h
 rw [this]
 rfl
def bOr (a b : Nat → Bool) : Nat → Bool := fun i => a i || b i
def bAnd (a b : Nat → Bool) : Nat → Bool := fun i => a i && b i
def bNot (a : Nat → Bool) : Nat → Bool := fun i => !a i
def upto (k : Nat) (f a : Nat → Bool) : Nat → Bool := fun j => if j < k then f j else a j
theorem upto_zero (f a : Nat → Bool) : upto 0 f a = a := by funext j; simp [upto]
theorem upto_at (k : Nat) (f a : Nat → Bool) : upto k f a k = a k := by simp [upto]
theorem upto_succ (k : Nat) (f a : Nat → Bool) {v : Bool} (h : v = f k) : (fun j => if j = k then v else upto k f a j) = upto (k + 1) f a := by
 funext j
 unfold upto
 by_cases e : j = k
 ·
  subst e; simp [h]
 ·
  by_cases l : j < k
  ·
   simp [e, l, Nat.lt_succ_of_lt l]
  ·
   have : ¬ j < k + 1 := by omega
   simp [e, l, this]
end
end Go.Proofs.HHW
end
section
namespace Go.Proofs.HHW
open Go.RowKit Go.Proofs.YtbahngfpadjbhaaGreatDoorW.PrintWords
section
variable {P : Program} {F : List (Nat × Value)} {B : Nat} {w0 : World} {L : List (Nat × Obj)}
theorem r_setM {t : TypeId} {x : Operand} {g : Nat} {p : Nat → Bool} {tt : TypeId} {f : Nat × Nat} (hx : ev F x = some (.pointer (some ⟨g, 0, none⟩))) (ha : aggB P t = some true) (hs : szB P t = some 256) (hm : (g, Obj.cells (vec p).toArray tt f) ∈ L) : Reads P F B w0 L (.load t x) (.agg (vec p).toArray) :=
 r_loadn (m := 256) (vs := vec p) hx hm ha hs (vec_len p) (by show ((vec p).drop 0).take 256 = vec p; rw [List.drop_zero, List.take_of_length_le (by rw [vec_len]; exact Nat.le_refl _)])
theorem r_bitM {t : TypeId} {x : Operand} {g i j : Nat} {p : Nat → Bool} {tt : TypeId} {f : Nat × Nat} (hx : ev F x = some (.pointer (some ⟨g, j, none⟩))) (hj : j = i) (hi : i < 256) (ha : aggB P t = some false) (hm : (g, Obj.cells (vec p).toArray tt f) ∈ L) : Reads P F B w0 L (.load t x) (.bool (p i)) :=
 r_load hx hm (by subst hj; rw [List.getElem?_toArray, vec_get p hi]) (fun w hc => ld1 ha hc)
end
def odd (c : Nat) : Bool := decide (c < 32) || c == 127
def sIn (k c : Nat) : Bool :=
 if k = 0 then c == 32 else if k = 1 then c == 32 || c == 13 || c == 10 else if k = 2 ∨ k = 6 ∨ k = 7 then !(c == 44 || c == 61 || c == 32 || odd c) else if k = 3 then odd c else if k = 4 then c == 13 || c == 10
 else if k = 5 then !(c == 44 || c == 32 || odd c) else if k = 8 then c != 34 else if k = 9 then !(c == 44 || c == 32 || c == 13 || c == 10) else if k = 10 then c == 45 || (decide (48 ≤ c) && decide (c ≤ 57)) else if k = 11 then !odd c else if k = 12 then !(c == 13 || c == 10) else c != 10
end Go.Proofs.HHW
end
section
namespace Go.Proofs.YtbahngfpadjbhaaGreatDoor.up
open Go.Lib Go.Proofs.HHW
theorem sz (s : ByteArray) : s.data.toList.length = s.size := Array.length_toList
def V (s : ByteArray) (i : Nat) : Bool := validD (s.data.toList.drop i)
def Lead (c : Int) (need : Nat) (lo hi : Int) : Prop :=
 (c < 128 ∧ need = 0) ∨ (194 ≤ c ∧ c ≤ 223 ∧ need = 1 ∧ lo = 128 ∧ hi = 191) ∨
 (224 ≤ c ∧ c ≤ 239 ∧ need = 2 ∧ (c = 224 → lo = 160) ∧ (c ≠ 224 → lo = 128) ∧ (c = 237 → hi = 159) ∧ (c ≠ 237 → hi = 191)) ∨
 (240 ≤ c ∧ c ≤ 244 ∧ need = 3 ∧ (c = 240 → lo = 144) ∧ (c ≠ 240 → lo = 128) ∧ (c = 244 → hi = 143) ∧ (c ≠ 244 → hi = 191))
theorem bt_drop (s : ByteArray) (i k : Nat) (x : Int) (hx : x = ((i + k : Nat) : Int)) : (((s.data.toList.drop i).getD k 0).toNat : Int) = bt s x := by
 subst hx
 unfold bt
 rw [List.getD_eq_getElem?_getD, List.getElem?_drop]
 split
 ·
  rename_i h
  rw [Int.toNat_natCast] at h
  have h2 : i + k < s.data.toList.length := by rw [sz]; exact h
  rw [List.getElem?_eq_getElem h2]
  rfl
 ·
  rename_i h
  rw [Int.toNat_natCast] at h
  have h2 : s.data.toList.length ≤ i + k := by rw [sz]; omega
  rw [List.getElem?_eq_none h2]
  rfl
theorem ne_nil {s : ByteArray} {i : Nat} (h : i < s.size) : s.data.toList.drop i ≠ [] := by
 intro e
 have := congrArg List.length e
 rw [List.length_drop, sz] at this
 simp at this
 omega
theorem V_end (s : ByteArray) (i : Nat) (h : s.size ≤ i) : V s i = true := by
 unfold V
 rw [List.drop_eq_nil_of_le (by rw [sz]; exact h)]
 rfl
theorem V_ascii {s : ByteArray} {i : Nat} (h : i < s.size) (hc : bt s (i : Int) < 128) : V s i = V s (i + 1) := by
 unfold V
 have hd : s.data.toList.drop i = (s.data.toList.drop i).getD 0 0 :: s.data.toList.drop (i + 1) := by
  have h2 : i < s.data.toList.length := by rw [sz]; exact h
  rw [List.getD_eq_getElem?_getD, List.getElem?_drop, Nat.add_zero, List.getElem?_eq_getElem h2]
  exact List.drop_eq_getElem_cons h2
 rw [hd]
 refine validD_cons _ _ ?_
 have := bt_drop s i 0 i rfl
 omega
theorem V_lead {s : ByteArray} {i : Nat} (h : i < s.size) (hc : 128 ≤ bt s (i : Int)) :
  V s i = match checkN (s.size - i) (bt s ((i + 1 : Nat) : Int)).toNat (bt s ((i + 2 : Nat) : Int)).toNat (bt s ((i + 3 : Nat) : Int)).toNat (firstT (bt s (i : Int)).toNat % 8) (accLo (firstT (bt s (i : Int)).toNat / 16)) (accHi (firstT (bt s (i : Int)).toNat / 16)) with
   | none => false
   | some k => V s (i + k) := by
 have e0 := bt_drop s i 0 i rfl
 have e1 := bt_drop s i 1 _ rfl
 have e2 := bt_drop s i 2 _ rfl
 have e3 := bt_drop s i 3 _ rfl
 have hl : (s.data.toList.drop i).length = s.size - i := by rw [List.length_drop, sz]
 unfold V
 rw [validD_lead _ (ne_nil h) (by omega), hl, ← e0, ← e1, ← e2, ← e3]
 simp only [Int.toNat_natCast, List.drop_drop]
 rfl
theorem bad {s : ByteArray} {i : Nat} (h : i < s.size) (hc : ¬ (bt s (i : Int) < 128 ∨ (194 ≤ bt s (i : Int) ∧ bt s (i : Int) ≤ 244))) : V s i = false := by
 have hr := HHW.bt_range s i
 rw [V_lead h (by omega)]
 generalize bt s (i : Int) = c at *
 obtain ⟨n, rfl⟩ := Int.eq_ofNat_of_zero_le hr.1
 have h1 : ¬ n < 128 := by omega
 have h2 : firstT n = 241 := by
  unfold firstT
  split
  ·
   omega
  ·
   split
   ·
    rfl
   ·
    repeat' split
    all_goals omega
 rw [Int.toNat_natCast, h2]
 rfl
def Ok (s : ByteArray) (i need : Nat) (lo hi : Int) : Prop :=
 (1 ≤ need → i + 1 < s.size ∧ lo ≤ bt s ((i + 1 : Nat) : Int) ∧ bt s ((i + 1 : Nat) : Int) ≤ hi) ∧
 (2 ≤ need → i + 2 < s.size ∧ 128 ≤ bt s ((i + 2 : Nat) : Int) ∧ bt s ((i + 2 : Nat) : Int) ≤ 191) ∧
 (3 ≤ need → i + 3 < s.size ∧ 128 ≤ bt s ((i + 3 : Nat) : Int) ∧ bt s ((i + 3 : Nat) : Int) ≤ 191)
theorem step {s : ByteArray} {i need : Nat} {lo hi : Int} (h : i < s.size) (hl : Lead (bt s (i : Int)) need lo hi) : (Ok s i need lo hi → V s i = V s (i + (need + 1))) ∧ (¬ Ok s i need lo hi → V s i = false) := by
 have r0 := HHW.bt_range s i
 have r1 := HHW.bt_range s ((i + 1 : Nat) : Int)
 have r2 := HHW.bt_range s ((i + 2 : Nat) : Int)
 have r3 := HHW.bt_range s ((i + 3 : Nat) : Int)
 unfold Ok
 rcases hl with ⟨hc, rfl⟩ | hl
 ·
  refine ⟨fun _ => V_ascii h hc, fun hn => absurd ⟨by omega, by omega, by omega⟩ hn⟩
 ·
  rw [V_lead h (by omega)]
  generalize bt s (i : Int) = c at *
  generalize bt s ((i + 1 : Nat) : Int) = c1 at *
  generalize bt s ((i + 2 : Nat) : Int) = c2 at *
  generalize bt s ((i + 3 : Nat) : Int) = c3 at *
  obtain ⟨n, rfl⟩ := Int.eq_ofNat_of_zero_le r0.1
  obtain ⟨n1, rfl⟩ := Int.eq_ofNat_of_zero_le r1.1
  obtain ⟨n2, rfl⟩ := Int.eq_ofNat_of_zero_le r2.1
  obtain ⟨n3, rfl⟩ := Int.eq_ofNat_of_zero_le r3.1
  simp only [Int.toNat_natCast]
  have key : ∀ (f l' h' sz : Nat), firstT n = f → f % 8 = sz → accLo (f / 16) = l' → accHi (f / 16) = h' → sz = need + 1 → 1 ≤ need → need ≤ 3 → lo = l' → hi = h' →
    (((1 ≤ need → i + 1 < s.size ∧ lo ≤ (n1 : Int) ∧ (n1 : Int) ≤ hi) ∧ (2 ≤ need → i + 2 < s.size ∧ 128 ≤ (n2 : Int) ∧ (n2 : Int) ≤ 191) ∧ (3 ≤ need → i + 3 < s.size ∧ 128 ≤ (n3 : Int) ∧ (n3 : Int) ≤ 191)) →
     (match checkN (s.size - i) n1 n2 n3 (firstT n % 8) (accLo (firstT n / 16)) (accHi (firstT n / 16)) with | none => false | some k => V s (i + k)) = V s (i + (need + 1))) ∧
    (¬ ((1 ≤ need → i + 1 < s.size ∧ lo ≤ (n1 : Int) ∧ (n1 : Int) ≤ hi) ∧ (2 ≤ need → i + 2 < s.size ∧ 128 ≤ (n2 : Int) ∧ (n2 : Int) ≤ 191) ∧ (3 ≤ need → i + 3 < s.size ∧ 128 ≤ (n3 : Int) ∧ (n3 : Int) ≤ 191)) →
     (match checkN (s.size - i) n1 n2 n3 (firstT n % 8) (accLo (firstT n / 16)) (accHi (firstT n / 16)) with | none => false | some k => V s (i + k)) = false) := by
   intro f l' h' sz e1 e2 e3 e4 e5 e6 e7 e8 e9
   rw [e1, e2, e3, e4]
   subst e8 e9 e5
   unfold checkN
   rcases (show need = 1 ∨ need = 2 ∨ need = 3 by omega) with rfl | rfl | rfl <;> simp only [Nat.reduceAdd, Nat.reduceEqDiff, if_true, if_false]
   all_goals
    constructor
    ·
     intro hok
     rw [if_neg (by omega)]
    ·
     intro hno
     rw [if_pos (by omega)]
  rcases hl with ⟨h1, h2, rfl, rfl, rfl⟩ | ⟨h1, h2, rfl, h3, h4, h5, h6⟩ | ⟨h1, h2, rfl, h3, h4, h5, h6⟩
  ·
   exact key 2 128 191 2 (firstT_C2 (by omega)) rfl rfl rfl rfl (by omega) (by omega) rfl rfl
  ·
   by_cases a1 : n = 224
   ·
    exact key 19 160 191 3 (firstT_E0 a1) rfl rfl rfl rfl (by omega) (by omega) (by omega) (by omega)
   ·
    by_cases a2 : n = 237
    ·
     exact key 35 128 159 3 (firstT_ED a2) rfl rfl rfl rfl (by omega) (by omega) (by omega) (by omega)
    ·
     exact key 3 128 191 3 (firstT_E1 (by omega)) rfl rfl rfl rfl (by omega) (by omega) (by omega) (by omega)
  ·
   by_cases a1 : n = 240
   ·
    exact key 52 144 191 4 (firstT_F0 a1) rfl rfl rfl rfl (by omega) (by omega) (by omega) (by omega)
   ·
    by_cases a2 : n = 244
    ·
     exact key 68 128 143 4 (firstT_F4 a2) rfl rfl rfl rfl (by omega) (by omega) (by omega) (by omega)
    ·
     exact key 4 128 191 4 (firstT_F1 (by omega)) rfl rfl rfl rfl (by omega) (by omega) (by omega) (by omega)
def Inn (s : ByteArray) (i need : Nat) (lo hi : Int) (j : Nat) (l h : Int) : Prop :=
 1 ≤ j ∧ j ≤ need + 1 ∧ need ≤ 3 ∧ (j = 1 → l = lo ∧ h = hi) ∧ (1 < j → l = 128 ∧ h = 191) ∧
 (1 < j → i + 1 < s.size ∧ lo ≤ bt s ((i + 1 : Nat) : Int) ∧ bt s ((i + 1 : Nat) : Int) ≤ hi) ∧
 (2 < j → i + 2 < s.size ∧ 128 ≤ bt s ((i + 2 : Nat) : Int) ∧ bt s ((i + 2 : Nat) : Int) ≤ 191) ∧
 (3 < j → i + 3 < s.size ∧ 128 ≤ bt s ((i + 3 : Nat) : Int) ∧ bt s ((i + 3 : Nat) : Int) ≤ 191)
theorem Inn.start {s : ByteArray} {i need : Nat} {lo hi : Int} (h : need ≤ 3) : Inn s i need lo hi 1 lo hi := by unfold Inn; omega
theorem Inn.next {s : ByteArray} {i need : Nat} {lo hi : Int} {j : Nat} {l h : Int} (H : Inn s i need lo hi j l h) (hj : j ≤ need) (h1 : i + j < s.size) (h2 : l ≤ bt s ((i + j : Nat) : Int)) (h3 : bt s ((i + j : Nat) : Int) ≤ h) : Inn s i need lo hi (j + 1) 128 191 := by
 unfold Inn at *
 rcases (show j = 1 ∨ j = 2 ∨ j = 3 by omega) with rfl | rfl | rfl <;> omega
theorem Inn.bad {s : ByteArray} {i need : Nat} {lo hi : Int} {j : Nat} {l h : Int} (H : Inn s i need lo hi j l h) (hj : j ≤ need) (hn : ¬ (i + j < s.size ∧ l ≤ bt s ((i + j : Nat) : Int) ∧ bt s ((i + j : Nat) : Int) ≤ h)) : ¬ Ok s i need lo hi := by
 unfold Inn at H
 unfold Ok
 rcases (show j = 1 ∨ j = 2 ∨ j = 3 by omega) with rfl | rfl | rfl <;> omega
theorem Inn.done {s : ByteArray} {i need : Nat} {lo hi : Int} {j : Nat} {l h : Int} (H : Inn s i need lo hi j l h) (hj : need < j) : Ok s i need lo hi ∧ j = need + 1 ∧ (1 ≤ need → i + need < s.size) := by
  unfold Inn at H
  unfold Ok
  rcases (show j = 1 ∨ j = 2 ∨ j = 3 ∨ j = 4 by omega) with rfl | rfl | rfl | rfl
  all_goals
    first
      | (have : need = 0 := by omega
         subst this; omega)
      | (have : need = 1 := by omega
         subst this; omega)
      | (have : need = 2 := by omega
         subst this; omega)
      | (have : need = 3 := by omega
         subst this; omega)
theorem Lead.le {c : Int} {need : Nat} {lo hi : Int} (h : Lead c need lo hi) : need ≤ 3 := by unfold Lead at h; omega
end Go.Proofs.YtbahngfpadjbhaaGreatDoor.up
end
section
namespace Go.Proofs.HHW
open Go.RowKit Go.Proofs.YtbahngfpadjbhaaGreatDoorW.PrintWords
def SB (w : World) (A : Option Addr) (c : Nat) (l : List Int) : Prop := l.length ≤ c ∧ ((l = [] ∧ A = none ∧ c = 0) ∨ ∃ g o, A = some ⟨g, o, none⟩ ∧ RB w g o l)
theorem SB.later {w w' : World} {A : Option Addr} {c : Nat} {l : List Int} (h : SB w A c l) (hb : Below w.heap.size w w') : SB w' A c l := by
 obtain ⟨h1, h2 | ⟨g, o, h2, h3⟩⟩ := h
 ·
  exact ⟨h1, .inl h2⟩
 ·
  exact ⟨h1, .inr ⟨g, o, h2, h3.later hb⟩⟩
theorem SB.get {w : World} {A : Option Addr} {c : Nat} {l : List Int} (h : SB w A c l) {i : Nat} (hi : i < l.length) : ∃ g o, A = some ⟨g, o, none⟩ ∧ RB w g o l := by
 obtain ⟨h1, ⟨rfl, _⟩ | h2⟩ := h
 ·
  simp at hi
 ·
  exact h2
theorem SB.cut {w : World} {A : Option Addr} {c : Nat} {l : List Int} (h : SB w A c l) {m j : Nat} (hm : m ≤ j) (hj : j ≤ l.length) : SB w (cutAt A c m 1) (c - m) ((l.take j).drop m) := by
 obtain ⟨h1, h2⟩ := h
 refine ⟨by rw [List.length_drop, List.length_take]; omega, ?_⟩
 rcases h2 with ⟨rfl, rfl, rfl⟩ | ⟨g, o, rfl, h3⟩
 ·
  refine .inl ⟨by simp, ?_, by omega⟩
  unfold cutAt
  split <;> rfl
 ·
  exact .inr ⟨g, _, cutAt_off .., h3.cut m j h1⟩
theorem SB.drop {w : World} {A : Option Addr} {c : Nat} {l : List Int} (h : SB w A c l) {m : Nat} (hm : m ≤ l.length) : SB w (cutAt A c m 1) (c - m) (l.drop m) := by
 have := h.cut hm (Nat.le_refl _)
 rwa [List.take_of_length_le (Nat.le_refl _)] at this
theorem SB.take {w : World} {A : Option Addr} {c : Nat} {l : List Int} (h : SB w A c l) (m : Nat) : SB w A c (l.take m) := by
 obtain ⟨h1, h2⟩ := h
 refine ⟨by rw [List.length_take]; omega, ?_⟩
 rcases h2 with ⟨rfl, rfl, rfl⟩ | ⟨g, o, rfl, h3⟩
 ·
  exact .inl ⟨by simp, rfl, rfl⟩
 ·
  exact .inr ⟨g, o, rfl, h3.take m⟩
theorem SB.C {w : World} {A : Option Addr} {c : Nat} {l : List Int} (h : SB w A c l) (hl : l.length ≤ 9223372036854775807) : (Kd.int .u8).C w A l.length l := by
 obtain ⟨h1, ⟨rfl, rfl, rfl⟩ | ⟨g, o, rfl, h3⟩⟩ := h
 ·
  exact ⟨rfl, by simp, fun h => absurd h (by simp)⟩
 ·
  exact h3.C hl
theorem SB.src {w : World} {A : Option Addr} {c : Nat} {l : List Int} {P : Program} {tx e' : TypeId} (h : SB w A c l) (hl : l.length ≤ 9223372036854775807) (hk : P.underlying tx = some (.slice e')) : Src P 1 tx (.slice A l.length c) l.length (l.map (Value.int .u8)) w := src_C hk (h.C hl)
theorem SB.buf {w : World} {te : TypeId} {A : Option Addr} {l : List Int} {c : Nat} {cm : Bool} {mb L : YtbahngfpadjbhaaGreatDoor.dc.Bk} {x : Nat × Obj} {B : Nat} {wb : World} (h : YtbahngfpadjbhaaGreatDoor.dc.Buf te A l c cm mb) (H : HH B wb w (x :: (mb ++ L))) : SB w A c l := by
 obtain ⟨h1, _, ⟨rfl, rfl, rfl⟩ | ⟨g, cs, f, rfl, _, rfl, _, hr⟩⟩ := h
 ·
  exact ⟨h1, .inl ⟨List.length_eq_zero_iff.1 (by omega), rfl, rfl⟩⟩
 ·
  exact ⟨h1, .inr ⟨g, 0, rfl, RB.of H (List.mem_cons_of_mem _ (List.mem_append_left _ List.mem_cons_self)) hr⟩⟩
theorem SB.own {w : World} {te : TypeId} {A : Option Addr} {l : List Int} {c : Nat} {ow L : YtbahngfpadjbhaaGreatDoor.dc.Bk} {B : Nat} {wb : World} (h : OwnB te (.slice A l.length c) l ow) (H : HH B wb w (ow ++ L)) : SB w A c l := by
 rcases Nat.eq_zero_or_pos l.length with h0 | h0
 ·
  obtain rfl := List.length_eq_zero_iff.1 h0
  obtain ⟨_, ⟨hv, _, _⟩ | ⟨g, cs, c', f, hv, hc, _, _, _, _⟩⟩ := h
  ·
   injection hv with e1 _ e3
   exact ⟨by simp, .inl ⟨rfl, e1, e3⟩⟩
  ·
   injection hv with e1 _ e3
   exact ⟨by simp, .inr ⟨g, 0, e1, fun i v hi => by simp at hi⟩⟩
 ·
  obtain ⟨g, rfl, hr, hc, _⟩ := h.rb H h0
  exact ⟨hc, .inr ⟨g, 0, rfl, hr⟩⟩
theorem sl_sb {P : Program} {t e : TypeId} {w : World} {k k' : IntKind} {l : List Int} {m h c : Nat} {A : Option Addr} {i j : Int} (hu : P.underlying t = some (.slice e)) (hs : szB P e = some 1) (hi : i = (m : Int)) (hj : j = (h : Int)) (hm : m ≤ h) (hh : h ≤ l.length) (hc : l.length ≤ c) :
  (Instr.sliceAt t (.slice A l.length c) (some (.int k i)) (some (.int k' j)) none).run P w = .ok (.slice (cutAt A c m 1) ((l.take h).drop m).length (c - m)) w := by
 subst hi hj
 rw [sl_slice hu hs (by omega) (by omega) (by omega), Int.toNat_natCast, Int.toNat_natCast, List.length_drop, List.length_take, Nat.min_eq_left hh]
theorem sl_sb_lo {P : Program} {t e : TypeId} {w : World} {k : IntKind} {l : List Int} {m c : Nat} {A : Option Addr} {i : Int} (hu : P.underlying t = some (.slice e)) (hs : szB P e = some 1) (hi : i = (m : Int)) (hm : m ≤ l.length) :
  (Instr.sliceAt t (.slice A l.length c) (some (.int k i)) none none).run P w = .ok (.slice (cutAt A c m 1) (l.drop m).length (c - m)) w := by
 subst hi
 rw [sl_slice_lo hu hs (by omega) (by omega), Int.toNat_natCast, List.length_drop]
def cnt (b : Int) (l : List Int) : Nat := l.countP (· == b)
theorem cnt_succ (b : Int) {l : List Int} {j : Nat} (h : j < l.length) : cnt b (l.take (j + 1)) = cnt b (l.take j) + if l.getD j 0 = b then 1 else 0 := by
 unfold cnt
 rw [List.take_add_one, get_some 0 h, List.countP_append]
 by_cases e : l.getD j 0 = b <;> simp [List.countP_cons, e]
theorem cnt_le (b : Int) (l : List Int) : cnt b l ≤ l.length := List.countP_le_length
def lastp (b : Int) (l : List Int) : Nat → Nat
 | 0 => 0
 | k + 1 => if l.getD k 0 = b then k + 1 else lastp b l k
theorem lastp_le (b : Int) (l : List Int) : ∀ k, lastp b l k ≤ k
 | 0 => Nat.le_refl _
 | k + 1 => by
  unfold lastp
  have := lastp_le b l k
  split <;> omega
theorem lastp_hit {b : Int} {l : List Int} {k : Nat} (h : l.getD k 0 = b) : lastp b l (k + 1) = k + 1 := if_pos h
theorem lastp_miss {b : Int} {l : List Int} {k : Nat} (h : l.getD k 0 ≠ b) : lastp b l (k + 1) = lastp b l k := if_neg h
theorem seg_eq {l X : List Int} {r0 v b : Nat} (a : Nat) (hdr : l.drop r0 = X.take v) (hb : b ≤ v) : (l.take (r0 + b)).drop (r0 + a) = (X.take b).drop a := by
 have h1 : (l.take (r0 + b)).drop (r0 + a) = ((l.drop r0).take b).drop a := by
  rw [← List.drop_drop, List.drop_take, Nat.add_sub_cancel_left]
 rw [h1, hdr, List.take_take, Nat.min_eq_left hb]
theorem seg_eq0 {l X : List Int} {r0 v b : Nat} (hdr : l.drop r0 = X.take v) (hb : b ≤ v) : (l.take (r0 + b)).drop r0 = X.take b := by
 have := seg_eq 0 hdr hb
 rwa [Nat.add_zero, List.drop_zero] at this
theorem bv8_get {l : List Int} (hby : ∀ x ∈ l, 0 ≤ x ∧ x < 256) {i : Nat} (hi : i < l.length) : l[i]? = some ((BitVec.ofInt 8 (l.getD i 0)).toNat : Int) := by
 rw [get_some 0 hi]
 have hm : l.getD i 0 ∈ l := by
  rw [List.getD_eq_getElem?_getD, List.getElem?_eq_getElem hi]
  exact List.getElem_mem hi
 have := hby _ hm
 congr 1
 rw [BitVec.toNat_ofInt]
 omega
theorem top8 (x : Int) (h : 0 ≤ x ∧ x < 256) : (BitVec.ofInt 8 x).getLsbD 7 = decide (128 ≤ x) := by
 have e : (BitVec.ofInt 8 x).getLsbD 7 = (BitVec.ofInt 8 x).msb := by simp [BitVec.msb_eq_getLsbD_last]
 rw [e, BitVec.msb_eq_decide, BitVec.toNat_ofInt]
 simp only [decide_eq_decide]
 omega
theorem word_bits (b0 b1 b2 b3 b4 b5 b6 b7 : BitVec 8) : ∀ k, k < 8 → ((((((((b0.setWidth 64) ||| ((b1.setWidth 64) <<< 8)) ||| ((b2.setWidth 64) <<< 16)) ||| ((b3.setWidth 64) <<< 24)) ||| ((b4.setWidth 64) <<< 32)) ||| ((b5.setWidth 64) <<< 40)) ||| ((b6.setWidth 64) <<< 48)) ||| ((b7.setWidth 64) <<< 56)).getLsbD (8 * k + 7) = ([b0, b1, b2, b3, b4, b5, b6, b7].getD k 0).getLsbD 7 := by
 intro k hk
 rcases (show k = 0 ∨ k = 1 ∨ k = 2 ∨ k = 3 ∨ k = 4 ∨ k = 5 ∨ k = 6 ∨ k = 7 by omega) with rfl | rfl | rfl | rfl | rfl | rfl | rfl | rfl <;> simp [BitVec.getLsbD_or, BitVec.getLsbD_shiftLeft, BitVec.getLsbD_setWidth]
theorem word_tops {l : List Int} (hby : ∀ x ∈ l, 0 ≤ x ∧ x < 256) (h8 : 8 ≤ l.length) : ∀ k, k < 8 → ([BitVec.ofInt 8 (l.getD 0 0), BitVec.ofInt 8 (l.getD 1 0), BitVec.ofInt 8 (l.getD 2 0), BitVec.ofInt 8 (l.getD 3 0), BitVec.ofInt 8 (l.getD 4 0), BitVec.ofInt 8 (l.getD 5 0), BitVec.ofInt 8 (l.getD 6 0), BitVec.ofInt 8 (l.getD 7 0)].getD k 0).getLsbD 7 = decide (128 ≤ l.getD k 0) := by
 intro k hk
 have hm : ∀ i, i < 8 → 0 ≤ l.getD i 0 ∧ l.getD i 0 < 256 := fun i hi => hby _ (by
  rw [List.getD_eq_getElem?_getD, List.getElem?_eq_getElem (show i < l.length by omega)]
  exact List.getElem_mem _)
 rcases (show k = 0 ∨ k = 1 ∨ k = 2 ∨ k = 3 ∨ k = 4 ∨ k = 5 ∨ k = 6 ∨ k = 7 by omega) with rfl | rfl | rfl | rfl | rfl | rfl | rfl | rfl <;> exact top8 _ (hm _ (by omega))
theorem mask_low {x : BitVec 64} (h : ((x &&& 9259542123273814144#64).toNat : Int) = 0) : ∀ k, k < 8 → x.getLsbD (8 * k + 7) = false := by
 intro k hk
 have h0 : x &&& 9259542123273814144#64 = 0#64 := BitVec.eq_of_toNat_eq (by rw [show (0#64).toNat = 0 from rfl]; omega)
 have h1 := congrArg (fun z => BitVec.getLsbD z (8 * k + 7)) h0
 simp only [BitVec.getLsbD_and] at h1
 rcases (show k = 0 ∨ k = 1 ∨ k = 2 ∨ k = 3 ∨ k = 4 ∨ k = 5 ∨ k = 6 ∨ k = 7 by omega) with rfl | rfl | rfl | rfl | rfl | rfl | rfl | rfl <;> simpa using h1
theorem mask_or {x y : BitVec 64} (h : (((x ||| y) &&& 9259542123273814144#64).toNat : Int) = 0) : ((x &&& 9259542123273814144#64).toNat : Int) = 0 ∧ ((y &&& 9259542123273814144#64).toNat : Int) = 0 := by
 have h0 : (x ||| y) &&& 9259542123273814144#64 = 0#64 := BitVec.eq_of_toNat_eq (by rw [show (0#64).toNat = 0 from rfl]; omega)
 have hx : x &&& 9259542123273814144#64 = 0#64 := by
  apply BitVec.eq_of_getLsbD_eq
  intro i hi
  have h1 := congrArg (fun z => BitVec.getLsbD z i) h0
  simp only [BitVec.getLsbD_and, BitVec.getLsbD_or] at h1 ⊢
  revert h1
  cases x.getLsbD i <;> simp
 have hy : y &&& 9259542123273814144#64 = 0#64 := by
  apply BitVec.eq_of_getLsbD_eq
  intro i hi
  have h1 := congrArg (fun z => BitVec.getLsbD z i) h0
  simp only [BitVec.getLsbD_and, BitVec.getLsbD_or] at h1 ⊢
  revert h1
  cases y.getLsbD i <;> simp
 rw [hx, hy]
 exact ⟨rfl, rfl⟩
theorem int_at (s : ByteArray) {i k j : Nat} (hj : j = i + k) (h : j < s.size) : ((ints s).drop i)[k]? = some (HHW.bt s (j : Int)) := by
 subst hj
 rw [List.getElem?_drop, ints_bt s h]
 have := HHW.bt_range s ((i + k : Nat) : Int)
 congr 1
 omega
theorem ints_by (s : ByteArray) (m : Nat) : ∀ x ∈ (ints s).drop m, 0 ≤ x ∧ x < 256 := fun x hx => by have := ints_range s x (List.mem_of_mem_drop hx); omega
open YtbahngfpadjbhaaGreatDoor in
theorem V_skip {s : ByteArray} {i : Nat} : ∀ m : Nat, (∀ k, k < m → i + k < s.size ∧ HHW.bt s ((i + k : Nat) : Int) < 128) → up.V s i = up.V s (i + m)
 | 0, _ => rfl
 | m + 1, h => by
  rw [V_skip m (fun k hk => h k (by omega)), up.V_ascii (h m (by omega)).1 (h m (by omega)).2]
  rfl
open YtbahngfpadjbhaaGreatDoor in
theorem V_word {s : ByteArray} {j : Nat} {x : BitVec 64} (hx : ∀ k, k < 8 → x.getLsbD (8 * k + 7) = decide (128 ≤ ((ints s).drop j).getD k 0)) (hm : ((x &&& 9259542123273814144#64).toNat : Int) = 0) (hj : j + 8 ≤ s.size) : up.V s j = up.V s (j + 8) :=
 V_skip 8 fun k hk => ⟨by omega, by
  have h1 := hx k hk
  rw [mask_low hm k hk, List.getD_eq_getElem?_getD, int_at s rfl (show j + k < s.size by omega)] at h1
  have := of_decide_eq_false h1.symm
  simp only [Option.getD_some] at this
  omega⟩
section
variable {P : Program} {F : List (Nat × Value)} {B : Nat} {w0 : World} {L : List (Nat × Obj)}
theorem r_tab {t : TypeId} {x : Operand} {g i j : Nat} {v : Value} (hx : ev F x = some (.pointer (some ⟨g, j, none⟩))) (hj : j = i) (hc : w0.cell? ⟨g, i, none⟩ = some v) (hB : B = w0.heap.size) (ha : aggB P t = some false) : Reads P F B w0 L (.load t x) v := by
 subst hj
 exact r_loadG hx hc (by rw [hB]; exact cell_lt hc) ha
theorem r_pairG {t : TypeId} {x : Operand} {g i j : Nat} {v0 v1 : Value} (hx : ev F x = some (.pointer (some ⟨g, j, none⟩))) (hj : j = i) (h0 : w0.cell? ⟨g, i, none⟩ = some v0) (h1 : w0.cell? ⟨g, i + 1, none⟩ = some v1) (hB : B = w0.heap.size) (ha : aggB P t = some true) (hs : szB P t = some 2) : Reads P F B w0 L (.load t x) (.agg #[v0, v1]) := by
 subst hj hB
 refine r_loads hx (fun w H => ldn ha (cs := [v0, v1]) hs (fun k v hk => ?_))
 match k, hk with
 | 0, hk => simp at hk; subst hk; exact cell_later h0 H.below
 | 1, hk => simp at hk; subst hk; exact cell_later h1 H.below
 | k + 2, hk => simp at hk
end
set_option maxRecDepth 20000 in
theorem and7 : ∀ X : Fin 256, IntKind.u8.wrap (BitVec.ofInt IntKind.u8.bits ((X.val : Nat) : Int) &&& BitVec.ofInt IntKind.u8.bits 7).toNat = ((X.val % 8 : Nat) : Int) := by decide
theorem shr4 (x : Nat) : ((x : Nat) : Int).fdiv (2 ^ (min (4 : Int).toNat IntKind.u8.bits)) = ((x / 16 : Nat) : Int) := by
 show ((x : Nat) : Int).fdiv (2 ^ 4) = _
 rw [Int.fdiv_eq_ediv_of_nonneg _ (by decide)]
 omega
theorem firstT_lt (n : Nat) : Lib.firstT n < 256 := by
 rcases Lib.firstT_cases n with h | h | h | h | h | h | h | h | h <;> omega
theorem sl_max {P : Program} {t e : TypeId} {w : World} {k k' : IntKind} {n c : Nat} {A : Option Addr} (hu : P.underlying t = some (.slice e)) (hs : szB P e = some 1) (hc : n ≤ c) :
  (Instr.sliceAt t (.slice A n c) none (some (.int k (n : Int))) (some (.int k' (n : Int)))).run P w = .ok (.slice A n n) w := by
 unfold Instr.sliceAt
 rw [Sem.run_bind, run_underlying hu]
 show (Instr.slice t (.slice A n c) none (some (.int k (n : Int))) (some (.int k' (n : Int)))).run P w = _
 unfold Instr.slice
 rw [Sem.run_bind, run_underlying hu]
 simp only [Result.andThen]
 have : (A.map (·.add (0 * 1))) = A := by cases A <;> simp [Addr.add]
 simp [Instr.sliceBounds, Instr.sliceBound, asIntOf, Sem.run_bind, Result.andThen, hc, run_size hs]
 intro _
 cases A <;> simp [Addr.add]
theorem SB.max {w : World} {A : Option Addr} {c : Nat} {l : List Int} (h : SB w A c l) : SB w A l.length l := by
 obtain ⟨h1, h2 | h2⟩ := h
 ·
  exact ⟨Nat.le_refl _, .inl ⟨h2.1, h2.2.1, by rw [h2.1]; rfl⟩⟩
 ·
  exact ⟨Nat.le_refl _, .inr h2⟩
end Go.Proofs.HHW
end
