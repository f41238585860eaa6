/- What a decoder over a text holds: its struct, its buffer, its reader. -/
import Derived.Test.YtbahngfpadjbhaaDoorDe
namespace Go.Proofs.YtbahngfpadjbhaaDoor.dc
open Go.RowKit Go.Proofs.HHW Go.Proofs.YtbahngfpadjbhaaDoorW.PrintWords
set_option linter.unusedVariables false
set_option linter.unusedSimpArgs false
abbrev Bk := List (Nat × Obj)
/-- A row of bytes that the decoder owns. Where it may be written to ('cm' not set), it is no string's, and not too long. -/
def Buf (te : TypeId) (A : Option Addr) (l : List Int) (c : Nat) (cm : Bool) (mb : Bk) : Prop :=
  l.length ≤ c ∧ (cm = false → c ≤ 1000000000) ∧ ((A = none ∧ c = 0 ∧ mb = []) ∨ ∃ (g : Nat) (cs : Array Value) (f : Nat × Nat), A = some ⟨g, 0, none⟩ ∧ cs.size = c ∧ mb = [(g, .cells cs te f)] ∧ (cm = false → f = (0, 0)) ∧ ∀ (i : Nat) (v : Int), l[i]? = some v → cs[i]? = some (Value.int .u8 v))
/-- How many reads may still come: 'k' bytes are left, the piece 'a' comes next. -/
def Prog (zs : List Int) (a k M : Nat) : Prop :=
  (zs = [] ∧ k ≤ M) ∨ ∃ d, 0 < zs.getD ((a + d) % zs.length) 0 ∧ k * (zs.length + 1) + d ≤ M ∧ d < zs.length
/-- The reader that a decoder reads from: none where the buffer is all. -/
def Rdr (tr ti : TypeId) (wb : World) (rd : Value) (cm : Bool) (lf : List Int) (M : Nat) (mr : Bk) : Prop :=
  (cm = true ∧ lf = [] ∧ mr = []) ∨ (cm = false ∧ ∃ (gr : Nat) (s : ByteArray) (A : Option Addr) (zs : List Int) (c a : Nat), rd = .iface ti (.pointer (some ⟨gr, 0, none⟩)) ∧ lf = ints s ∧ mr = [(gr, .cells #[.string s, .slice A zs.length c, .int .i64 (a : Int), .bool false] tr (0, 0))] ∧
    (Kd.int .i64).C wb A zs.length zs ∧ zs.length ≤ c ∧ Prog zs a (ints s).length M ∧ a + M ≤ 1000000000000)
structure Ty where
  (td tr ti te : TypeId)
/-- A decoder: 'X' what is to be read from the first place kept on, 'p' how far it has come, 'v' how much of X is in the buffer, 'M' how many reads may come. -/
def Dec (T : Ty) (wb : World) (g : Nat) (X : List Int) (p v : Nat) (cm : Bool) (M : Nat) (sec : Int) (sk : Bool) (eb : Value) (line : Nat) (er : Value) (D : Bk) : Prop :=
  ∃ (rd : Value) (A : Option Addr) (l : List Int) (c r0 : Nat) (mb mr : Bk),
    D = (g, .cells #[rd, .slice A l.length c, .int .i64 (r0 : Int), .int .i64 ((r0 + p : Nat) : Int), .bool cm, .int .u8 sec, .bool sk, eb, .int .i64 (line : Int), er] T.td (0, 0)) :: (mb ++ mr) ∧
    Buf T.te A l c cm mb ∧ Rdr T.tr T.ti wb rd cm (X.drop v) M mr ∧ r0 + v = l.length ∧ v ≤ X.length ∧ l.drop r0 = X.take v ∧ r0 + X.length ≤ 1000000 ∧ p ≤ X.length
theorem Dec.all {T : Ty} {wb : World} {g : Nat} {X : List Int} {p v : Nat} {M : Nat} {sec : Int} {sk : Bool} {eb : Value} {line : Nat} {er : Value} {D : Bk} (h : Dec T wb g X p v true M sec sk eb line er D) : v = X.length := by
  obtain ⟨rd, A, l, c, r0, mb, mr, _, _, hr, _, hv, _⟩ := h
  rcases hr with ⟨_, h1, _⟩ | ⟨h1, _⟩
  · have := congrArg List.length h1
    rw [List.length_drop] at this
    simp at this; omega
  · cases h1
theorem Buf.ex {te : TypeId} {A : Option Addr} {l : List Int} {c : Nat} {cm : Bool} {mb : Bk} (h : Buf te A l c cm mb) (hl : 0 < l.length) : ∃ (g : Nat) (cs : Array Value) (f : Nat × Nat), A = some ⟨g, 0, none⟩ ∧ cs.size = c ∧ mb = [(g, .cells cs te f)] ∧ (cm = false → f = (0, 0)) ∧ ∀ (i : Nat) (v : Int), l[i]? = some v → cs[i]? = some (Value.int .u8 v) := by
  obtain ⟨h1, h3, h2⟩ := h
  rcases h2 with ⟨_, h0, _⟩ | h2
  · omega
  · exact h2
/-- A byte that is in the buffer. -/
theorem at_vis {l X : List Int} {r0 p v i : Nat} (h : l.drop r0 = X.take v) (hv : r0 + v = l.length) (hi : p + i < v) (hx : v ≤ X.length) : l.getD (r0 + p + i) 0 = X.getD (p + i) 0 := by
  have h1 : (l.drop r0)[p + i]? = (X.take v)[p + i]? := by rw [h]
  rw [List.getElem?_drop, List.getElem?_take_of_lt hi] at h1
  rw [List.getD_eq_getElem?_getD, List.getD_eq_getElem?_getD, ← h1, Nat.add_assoc]
/-- A cut of the buffer, to be copied. -/
theorem Buf.first {P : Program} {B : Nat} {w0 w : World} {te : TypeId} {A : Option Addr} {l : List Int} {c r : Nat} {cm : Bool} {mb L : Bk} (h : Buf te A l c cm mb) (H : HH B w0 w (mb ++ L)) (hr : r ≤ l.length) : First P (.slice (cutAt A c r 1) (l.length - r) (c - r)) (l.length - r) ((l.drop r).map (Value.int .u8)) w := by
  obtain ⟨h1, h3, h2⟩ := h
  rcases h2 with ⟨rfl, rfl, rfl⟩ | ⟨g, cs, f, rfl, hc, rfl, _, hrow⟩
  · have e1 : l = [] := List.length_eq_zero_iff.1 (by omega)
    subst e1
    have : cutAt none 0 r 1 = none := by unfold cutAt; split <;> rfl
    rw [this]
    simpa using first_nil (P := P) (w := w) (0 - r)
  · rw [cutAt_off]
    have hrb : RB w g 0 l := RB.of (e := te) (f := f) H (by simp) hrow
    have := (RB.off hrb r h1).first (P := P) (c := c - r)
    rwa [List.length_drop] at this
theorem Buf.ex' {te : TypeId} {A : Option Addr} {l : List Int} {c : Nat} {cm : Bool} {mb : Bk} (h : Buf te A l c cm mb) (hl : 0 < c) : ∃ (g : Nat) (cs : Array Value) (f : Nat × Nat), A = some ⟨g, 0, none⟩ ∧ cs.size = c ∧ mb = [(g, .cells cs te f)] ∧ (cm = false → f = (0, 0)) ∧ ∀ (i : Nat) (v : Int), l[i]? = some v → cs[i]? = some (Value.int .u8 v) := by
  obtain ⟨h1, h3, h2⟩ := h
  rcases h2 with ⟨_, h0, _⟩ | h2
  · omega
  · exact h2
theorem grow_ {l1 X : List Int} {r1 v K : Nat} {s : ByteArray} (h : l1.drop r1 = X.take v) (hr : r1 + v = l1.length) (hX : X.drop v = ints s) (hK : K ≤ s.size) (hv : v ≤ X.length) :
    (l1 ++ (ints s).take K).drop r1 = X.take (v + K) ∧ r1 + (v + K) = (l1 ++ (ints s).take K).length ∧ v + K ≤ X.length ∧ X.drop (v + K) = ints (s.extract K s.size) := by
  have hl := congrArg List.length hX
  rw [List.length_drop, ints_len] at hl
  refine ⟨?_, ?_, by omega, ?_⟩
  · rw [List.drop_append_of_le_length (by omega), h, ← hX, List.take_add]
  · rw [List.length_append, List.length_take, ints_len]; omega
  · rw [ints_drop, ← hX, List.drop_drop]
theorem spl_row {cs : Array Value} {l t : List Int} (h : ∀ (i : Nat) (v : Int), l[i]? = some v → cs[i]? = some (Value.int .u8 v)) (hs : l.length + t.length ≤ cs.size) : ∀ (i : Nat) (v : Int), (l ++ t)[i]? = some v → (spl cs l.length (t.map (Value.int .u8)))[i]? = some (Value.int .u8 v) := by
  intro i v hi
  by_cases hl : i < l.length
  · rw [List.getElem?_append_left hl] at hi
    rw [spl_out _ _ _ _ (.inl hl)]
    exact h i v hi
  · rw [List.getElem?_append_right (by omega)] at hi
    have hlt := (List.getElem?_eq_some_iff.1 hi).1
    have := spl_in (t.map (Value.int .u8)) cs l.length (i - l.length) (by rw [List.length_map]; exact hs) (by rw [List.length_map]; exact hlt)
    rw [show l.length + (i - l.length) = i by omega] at this
    rw [this, List.getElem?_map, hi]
    rfl
theorem spl_row0 {cs : Array Value} {t : List Int} (hs : t.length ≤ cs.size) : ∀ (i : Nat) (v : Int), t[i]? = some v → (spl cs 0 (t.map (Value.int .u8)))[i]? = some (Value.int .u8 v) := by
  have := spl_row (cs := cs) (l := []) (t := t) (fun i v h => by simp at h) (by simpa using hs)
  simpa using this
theorem ext_size {s : ByteArray} {k : Nat} (h : k ≤ s.size) : (s.extract k s.size).size = s.size - k := by
  rw [ByteArray.size_extract, Nat.min_self]
/-! ### progress -/
theorem Prog.zero {zs : List Int} {a M : Nat} (h : Prog zs a 0 M) : True := trivial
theorem Prog.le {zs : List Int} {a k k' M : Nat} (h : Prog zs a k M) (hk : k' ≤ k) : Prog zs a k' M := by
  rcases h with ⟨h1, h2⟩ | ⟨d, h1, h2, h3⟩
  · exact .inl ⟨h1, by omega⟩
  · refine .inr ⟨d, h1, ?_, h3⟩
    have := Nat.mul_le_mul_right (zs.length + 1) hk
    omega
/-- The pieces come round. -/
theorem round_ {zs : List Int} {a d : Nat} (h : 0 < zs.getD ((a + d) % zs.length) 0) (hd : d < zs.length) (b : Nat) : ∃ e, e < zs.length ∧ 0 < zs.getD ((b + e) % zs.length) 0 := by
  have hn : 0 < zs.length := by omega
  have hb := Nat.mod_lt b hn
  have hi := Nat.mod_lt (a + d) hn
  generalize hI : (a + d) % zs.length = i at h hi
  refine ⟨(i + zs.length - b % zs.length) % zs.length, Nat.mod_lt _ hn, ?_⟩
  have : (b + (i + zs.length - b % zs.length) % zs.length) % zs.length = i := by
    rw [Nat.add_mod, Nat.mod_mod, ← Nat.add_mod]
    have h2 : b + (i + zs.length - b % zs.length) = i + zs.length * (1 + b / zs.length) := by
      have := Nat.div_add_mod b zs.length
      rw [Nat.mul_add, Nat.mul_one]; omega
    rw [h2, Nat.add_mul_mod_self_left, Nat.mod_eq_of_lt hi]
  rw [this]; exact h
/-- What one read takes: at most 'r' places are free. -/
def took (zs : List Int) (a k r : Nat) : Nat := min k (min (if zs = [] then k else (zs.getD (a % zs.length) 0).toNat) r)
theorem took_le (zs : List Int) (a k r : Nat) : took zs a k r ≤ k := Nat.min_le_left _ _
theorem took_room (zs : List Int) (a k r : Nat) : took zs a k r ≤ r := Nat.le_trans (Nat.min_le_right _ _) (Nat.min_le_right _ _)
theorem Prog.step {zs : List Int} {a k M r : Nat} (h : Prog zs a k M) (hk : 0 < k) (hr : 0 < r) : ∃ M', M' < M ∧ Prog zs (if zs = [] then a else a + 1) (k - took zs a k r) M' ∧ (if zs = [] then a else a + 1) + M' ≤ a + M := by
  rcases h with ⟨rfl, h2⟩ | ⟨d, h1, h2, h3⟩
  · have ht : took [] a k r = min k r := by unfold took; simp
    rw [ht]
    refine ⟨k - min k r, by omega, .inl ⟨rfl, Nat.le_refl _⟩, by simp; omega⟩
  · have hz : zs ≠ [] := fun e => by subst e; simp at h3
    rw [if_neg hz]
    by_cases hp : 0 < zs.getD (a % zs.length) 0
    · obtain ⟨e, he, hpe⟩ := round_ h1 h3 (a + 1)
      have ht : 0 < took zs a k r := by
        unfold took
        rw [if_neg hz]
        omega
      have hm : (k - took zs a k r) * (zs.length + 1) + (zs.length + 1) ≤ k * (zs.length + 1) := by
        have := Nat.mul_le_mul_right (zs.length + 1) (show (k - took zs a k r) + 1 ≤ k by omega)
        rw [Nat.add_mul, Nat.one_mul] at this
        exact this
      exact ⟨(k - took zs a k r) * (zs.length + 1) + e, by omega, .inr ⟨e, hpe, Nat.le_refl _, he⟩, by omega⟩
    · have hd : d ≠ 0 := fun e => by subst e; exact hp h1
      have ht : took zs a k r = 0 := by
        unfold took
        rw [if_neg hz]
        omega
      rw [ht]
      refine ⟨M - 1, by omega, .inr ⟨d - 1, by rw [show a + 1 + (d - 1) = a + d by omega]; exact h1, by rw [Nat.sub_zero]; omega, by omega⟩, by omega⟩
/-- Some piece is above 0. -/
def pos (zs : List Int) (j : Nat) : Bool := (zs.take j).any fun z => decide (z > 0)
theorem pos_succ {zs : List Int} {j : Nat} (h : j < zs.length) : pos zs (j + 1) = (pos zs j || decide (zs.getD j 0 > 0)) := by
  unfold pos
  rw [List.take_add_one, get_some 0 h]
  simp
theorem pos_ex {zs : List Int} (h : pos zs zs.length = true) : ∃ i, i < zs.length ∧ 0 < zs.getD i 0 := by
  unfold pos at h
  rw [List.take_of_length_le (Nat.le_refl _)] at h
  obtain ⟨z, hz, hp⟩ := List.any_eq_true.1 h
  obtain ⟨i, hi⟩ := List.getElem?_of_mem hz
  have hlt := (List.getElem?_eq_some_iff.1 hi).1
  refine ⟨i, hlt, ?_⟩
  rw [List.getD_eq_getElem?_getD, hi]
  simpa using hp
theorem start_ {zs : List Int} {k : Nat} (h : pos zs zs.length = true) (hk : k ≤ 1000000) (hn : zs.length ≤ 1000) : ∃ M, Prog zs 0 k M ∧ 0 + M ≤ 1000000000000 := by
  obtain ⟨i, hi, hp⟩ := pos_ex h
  refine ⟨k * (zs.length + 1) + i, .inr ⟨i, by rw [Nat.zero_add, Nat.mod_eq_of_lt hi]; exact hp, Nat.le_refl _, hi⟩, ?_⟩
  have := Nat.mul_le_mul hk (show zs.length + 1 ≤ 1001 by omega)
  omega
theorem Buf.ofOwn {te : TypeId} {A : Option Addr} {l : List Int} {c : Nat} {ow : Bk} (h : OwnB te (.slice A l.length c) l ow) : Buf te A l c true ow := by
  obtain ⟨h0, h⟩ := h
  rcases h with ⟨hv, hl, rfl⟩ | ⟨g, cs, c', f, hv, hc, hcs, rfl, _, hr⟩
  · injection hv with e1 e2 e3
    exact ⟨by omega, ⟨fun h => (by cases h), .inl ⟨e1, e3, rfl⟩⟩⟩
  · injection hv with e1 e2 e3
    subst e3
    refine ⟨hc, ⟨fun h => (by cases h), .inr ⟨g, cs, f, e1, by omega, rfl, fun h => (by cases h), fun i v hi => ?_⟩⟩⟩
    have hlt := (List.getElem?_eq_some_iff.1 hi).1
    rw [hr i (by rw [List.length_map]; exact hlt), List.getElem?_map, hi]
    rfl
theorem own_new {te : TypeId} {g c : Nat} {cs : Array Value} (hc : cs.size = c) : OwnB te (.slice (some ⟨g, 0, none⟩) ([] : List Int).length c) [] [(g, .cells cs te (0, 0))] :=
  ⟨rfl, .inr ⟨g, cs, c, (0, 0), rfl, Nat.zero_le _, by omega, rfl, thaw0 _, fun j hj => by simp at hj⟩⟩
theorem bt_ints (s : ByteArray) (i : Nat) : Go.Proofs.YtbahngfpadjbhaaDoorW.PrintWords.bt s (i : Int) = (ints s).getD i 0 := by
  unfold Go.Proofs.YtbahngfpadjbhaaDoorW.PrintWords.bt ints
  rw [Int.toNat_natCast]
  split
  · rename_i h
    rw [List.getD_eq_getElem?_getD, List.getElem?_map]
    have : s.data.toList[i]? = some (s[i]'h) := by
      rw [Array.getElem?_toList, Array.getElem?_eq_getElem h]; rfl
    rw [this]; rfl
  · rename_i h
    rw [List.getD_eq_getElem?_getD, List.getElem?_eq_none (by simpa using (show s.size ≤ i by omega))]; rfl
theorem open_ {B : Nat} {wb w : World} {x : Nat × Obj} {mb mr L0 : Bk} : HH B wb w ((x :: (mb ++ mr)) ++ L0) ↔ HH B wb w (x :: (mb ++ (mr ++ L0))) := by
  rw [List.cons_append, List.append_assoc]
/-- What stands at a place: the end of a line, and how many bytes and lines it takes. -/
def eol (X : List Int) (p : Nat) : Bool × Nat × Nat :=
  if X.length ≤ p then (true, 0, 0) else if X.getD p 0 = 10 then (true, 1, 1) else if X.getD p 0 = 13 then (if X.length ≤ p + 1 then (true, 1, 0) else if X.getD (p + 1) 0 = 10 then (true, 2, 1) else (false, 0, 0)) else (false, 0, 0)
end Go.Proofs.YtbahngfpadjbhaaDoor.dc
