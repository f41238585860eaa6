/- Words of this seat's own: scopes and labels; appends that keep what may still be read; a token's bytes, plainly. -/
import Derived.Test.YtbahngfpadjbhaaDoorTk
import Derived.Scope
namespace Go.Proofs.HHW
open Go.RowKit Go.Proofs.YtbahngfpadjbhaaDoorW.PrintWords YtbahngfpadjbhaaDoorW.PrintLast
set_option linter.unusedVariables false
set_option linter.unusedSimpArgs false
section
variable {P : Program} {Q : Exit → Act → World → Prop} {a : Act} {w : World}
theorem c_label {l : Nat} (h : Q .normal a w) : (Code.label l).wp P Q a w := wp_label h
theorem c_scope {c : Code} (h : c.wp P (Exit.noGoto Q) a w) : (Code.scope c).wp P Q a w := wp_scope_straight h
theorem e_sc (h : Q .normal a w) : Exit.noGoto Q .normal a w := h
theorem e_sc_ret (h : Q .ret a w) : Exit.noGoto Q .ret a w := h
theorem e_sc_exit {i : Nat} (h : Q (.exit i) a w) : Exit.noGoto Q (.exit i) a w := h
end
/-! ### appends -/
open YtbahngfpadjbhaaDoor.dc in
/-- What could be read in the row of escapes can be read. -/
def KeepsE (eb : Value) (E : Bk) (eb' : Value) (E' G : Bk) : Prop := ∀ gt ot t, VisE eb E gt ot t → VisE eb' E' gt ot t ∨ InG G gt ot t
theorem KeepsE.refl (eb : Value) (E G : YtbahngfpadjbhaaDoor.dc.Bk) : KeepsE eb E eb E G := fun _ _ _ h => .inl h
theorem KeepsE.trans {eb eb1 eb2 : Value} {E E1 E2 G1 G2 : YtbahngfpadjbhaaDoor.dc.Bk} (h1 : KeepsE eb E eb1 E1 G1) (h2 : KeepsE eb1 E1 eb2 E2 G2) : KeepsE eb E eb2 E2 (G2 ++ G1) := fun gt ot t h => by
  rcases h1 gt ot t h with h | h
  · rcases h2 gt ot t h with h | h
    · exact .inl h
    · exact .inr h.left
  · exact .inr h.right
theorem KeepsE.more {eb eb' : Value} {E E' G : YtbahngfpadjbhaaDoor.dc.Bk} (h : KeepsE eb E eb' E' G) (G2 : YtbahngfpadjbhaaDoor.dc.Bk) : KeepsE eb E eb' E' (G2 ++ G) := fun gt ot t hv => (h gt ot t hv).elim .inl fun h => .inr h.right
theorem Keeps_more {D D' G : YtbahngfpadjbhaaDoor.dc.Bk} (h : YtbahngfpadjbhaaDoor.dc.Keeps D D' G) (G2 : YtbahngfpadjbhaaDoor.dc.Bk) : YtbahngfpadjbhaaDoor.dc.Keeps D D' (G2 ++ G) := fun gt ot t hv => (h gt ot t hv).elim .inl fun h => .inr h.right
theorem own_row_ {e : TypeId} {g c : Nat} {l : List Int} {ow : List (Nat × Obj)} (h : OwnB e (.slice (some ⟨g, 0, none⟩) l.length c) l ow) : ∃ cs f, ow = [(g, .cells cs e f)] ∧ YtbahngfpadjbhaaDoor.bf.Row cs 0 l ∧ l.length ≤ c := by
  rcases h.2 with ⟨hv, _, _⟩ | ⟨g', cs, c', f, hv, hc, _, rfl, _, hr⟩
  · cases hv
  · injection hv with h1 h2 h3
    injection h1 with h1
    injection h1 with h1
    subst h1 h3
    exact ⟨cs, f, rfl, fun i v hi => by
      have hi' := (List.getElem?_eq_some_iff.1 hi).1
      rw [Nat.zero_add, hr i (by simpa using hi'), List.getElem?_map, hi]
      rfl, hc⟩
theorem run_ownK {P : Program} {B : Nat} {w0 w : World} {Lp ow L : List (Nat × Obj)} {t tx ty e : TypeId} {z : Value} {bytes : Nat} {A : Option Addr} {c : Nat} {x : Value} {xs r : List Int} (H : HH B w0 w (Lp ++ (ow ++ L))) (hown : OwnB e (.slice A xs.length c) xs ow) (hsrc : Src P 1 tx x r.length (r.map (Value.int .u8)) w)
    (ht : P.underlying t = some (.slice e)) (hinfo : (P.info? e).map (fun i => (i.zero, i.size, i.bytes)) = some (some z, 1, bytes)) (hzs : z.cells.size = 1) (hb : (xs.length + r.length) * bytes ≤ 140737488355328) (hb0 : 0 < bytes) :
    ∃ A' c' ow' G w', (Builtin.append_ #[t, tx] ty #[.slice A xs.length c, x]).run P w = .ok (.slice A' (xs ++ r).length c') w' ∧ OwnB e (.slice A' (xs ++ r).length c') (xs ++ r) ow' ∧ HH B w0 w' (Lp ++ (ow' ++ (G ++ L))) ∧ KeepsE (.slice A xs.length c) ow (.slice A' (xs ++ r).length c') ow' G := by
  have hle : xs.length + r.length ≤ 140737488355328 := Nat.le_trans (Nat.le_mul_of_pos_right _ hb0) hb
  obtain ⟨i, hi, hzz⟩ := Option.map_eq_some_iff.1 hinfo
  simp only [Prod.mk.injEq] at hzz
  obtain ⟨hz, hsz, hby⟩ := hzz
  subst hby
  have hlen : (xs.map (Value.int .u8) ++ r.map (Value.int .u8)) = (xs ++ r).map (Value.int .u8) := (List.map_append).symm
  have hll : xs.length + r.length = (xs ++ r).length := (List.length_append).symm
  rcases hown.2 with ⟨hv, h0, rfl⟩ | ⟨g, cs, c', f, hv, hc, hcs, rfl, hth, hr⟩
  · obtain ⟨v', ow', w', h1, h2, h3⟩ := run_own (P := P) (ty := ty) H hown hsrc ht hinfo hzs hb hb0
    rw [hll, hlen] at h2
    obtain ⟨A', c', rfl, _⟩ := h2.slice
    refine ⟨A', c', ow', [], w', h1, h2, h3, fun gt ot t h => ?_⟩
    obtain ⟨_, _, _, _, _, _, h4, _⟩ := h
    cases h4
  · injection hv with h1 _ h3
    subst h1 h3
    rw [Nat.mul_one] at hcs
    have hm : (g, Obj.cells cs e f) ∈ Lp ++ ([(g, Obj.cells cs e f)] ++ L) := by simp
    have hat := H.at_ _ hm
    simp only at hat
    have hrow : ∀ j, j < xs.length → cs[j]? = (xs.map (Value.int .u8))[j]? := fun j hj => hr j (by simpa using hj)
    by_cases hroom : xs.length + r.length ≤ c
    · have hrun := run_append_room_src (P := P) w t tx ty e i ht hi g 0 xs.length c x r.length (r.map (Value.int .u8)) (by rw [hsz]; exact hsrc) hroom (fun j hj => by rw [List.length_map] at hj; simp [World.cell?, hat, hsz]; omega) (fun j hj => by rw [List.length_map] at hj; exact hth.at hat (by rw [hsz]; omega))
      rw [Nat.zero_add, hsz, Nat.mul_one] at hrun
      rw [hll] at hrun
      have hrow' : ∀ j, j < ((xs ++ r).map (Value.int .u8)).length → (spl cs xs.length (r.map (Value.int .u8)))[j]? = ((xs ++ r).map (Value.int .u8))[j]? := fun j hj => by
        rw [← hlen] at hj ⊢
        rw [List.length_append, List.length_map, List.length_map] at hj
        by_cases hj1 : j < xs.length
        · rw [spl_out _ _ _ _ (.inl hj1), List.getElem?_append_left (by simpa using hj1)]; exact hrow j hj1
        · have := spl_in (r.map (Value.int .u8)) cs xs.length (j - xs.length) (by simp; omega) (by simp; omega)
          rw [show xs.length + (j - xs.length) = j by omega] at this
          rw [this, List.getElem?_append_right (by simp; omega), List.length_map]
      refine ⟨_, c, [(g, .cells (spl cs xs.length (r.map (Value.int .u8))) e f)], [], _, hrun, ⟨by simp, .inr ⟨g, _, c, f, rfl, by rw [← hll]; exact hroom, by rw [spl_size, hcs, Nat.mul_one], rfl, fun j hj => hth j (by rw [spl_size] at hj; exact hj), hrow'⟩⟩, ?_, ?_⟩
      · exact H.sets (r.map (Value.int .u8)) xs.length cs (Rep.skip Lp .here)
      · rintro gt ot t ⟨n1, c1, cs1, te1, f1, h4, h5, h6, h7⟩
        injection h4 with h8 h9 h10
        injection h8 with h8
        injection h8 with h8
        simp only [List.cons.injEq, Prod.mk.injEq, and_true] at h5
        obtain ⟨h11, h12⟩ := h5
        injection h12 with h12 h13 h14
        subst h8 h9 h12 h13 h14
        exact .inl ⟨_, _, _, _, _, rfl, rfl, by rw [← hll]; omega, YtbahngfpadjbhaaDoor.dc.row_keep h7 h6⟩
    · have hold : (Builtin.firstCells i.size xs.length (.slice (some ⟨g, 0, none⟩) xs.length c)).run P w.drew = .ok (cs.toList.take (xs.length * i.size)).toArray w.drew := by
        refine run_firstCells_some w.drew i.size xs.length ⟨g, 0, none⟩ xs.length c _ ?_ (fun j u hj => ?_)
        · rw [hsz]; simp; omega
        · rw [addp]
          have h1 : j < xs.length * i.size := by
            have := (List.getElem?_eq_some_iff.1 hj).1
            simp at this
            omega
          rw [List.getElem?_take, if_pos h1] at hj
          have h2 : w.drew.heap = w.heap := rfl
          simp only [World.cell?, h2, hat]
          simpa using hj
      have hsrc' : Src P i.size tx x r.length (r.map (Value.int .u8)) w := by rw [hsz]; exact hsrc
      have hrun := run_append_grow_src (P := P) w t tx ty e i z ht hi hz (some ⟨g, 0, none⟩) xs.length c _ hold x r.length (r.map (Value.int .u8)) hsrc' (by omega) (by omega) (growslice_fits (by omega) hb)
      rw [hll] at hrun
      have hge := grownCap_ge w (xs ++ r).length c e
      have htk : (cs.toList.take (xs.length * i.size)).length = xs.length := by rw [hsz]; simp; omega
      refine ⟨_, _, [(w.heap.size, .cells ((cs.toList.take (xs.length * i.size) ++ r.map (Value.int .u8)).toArray ++ Builtin.zeroCells z.cells (grownCap w (xs ++ r).length c e - (xs ++ r).length)) e (0, 0))], [(g, .cells cs e f)], _, hrun, ⟨by simp, .inr ⟨w.heap.size, _, _, (0, 0), rfl, hge, ?_, rfl, thaw0 _, fun j hj => ?_⟩⟩, ?_, ?_⟩
      · simp only [Array.size_append, List.size_toArray, List.length_append, size_zeroCells, hzs, htk, List.length_map]
        simp only [List.length_append] at hge
        omega
      · rw [← hlen] at hj ⊢
        rw [Array.getElem?_append_left (by simp only [List.size_toArray, List.length_append, htk] at hj ⊢; simpa using hj)]
        simp only [List.getElem?_toArray]
        by_cases hj1 : j < xs.length
        · rw [List.getElem?_append_left (by omega), List.getElem?_append_left (by simpa using hj1), List.getElem?_take, if_pos (by rw [hsz]; omega), ← hrow j hj1]
          simp
        · rw [List.getElem?_append_right (by omega), List.getElem?_append_right (by simp; omega), htk, List.length_map]
      · exact ((H.drew).alloc _).perm (List.perm_middle.symm)
      · rintro gt ot t ⟨n1, c1, cs1, te1, f1, h4, h5, h6, h7⟩
        injection h4 with h8 h9 h10
        injection h8 with h8
        injection h8 with h8
        simp only [List.cons.injEq, Prod.mk.injEq, and_true] at h5
        obtain ⟨h11, h12⟩ := h5
        injection h12 with h12 h13 h14
        subst h8 h12 h13 h14
        exact .inr ⟨_, _, _, List.mem_cons_self, h7⟩
theorem l_ownK {P : Program} {ops : Array Oper} {Q : Exit → Act → World → Prop} {o : Oper} {rest : List Oper} {a : Act} {N : Nat} {ds : List Deferred} {F : List (Nat × Value)} {d : Nat} {B : Nat} {w0 w : World} (Lp : List (Nat × Obj)) {ow L : List (Nat × Obj)} {x y : Operand} {t tx e : TypeId} {z : Value} {bytes : Nat} {u : Value} {A : Option Addr} {c : Nat} {l r : List Int}
    (S : SL a N ds F) (H : HH B w0 w (Lp ++ (ow ++ L))) (ho : o.op = .call { callee := .builtin .append, args := #[x, y], argTypes := #[t, tx] }) (hx : ev F x = some (.slice A l.length c)) (hy : ev F y = some u) (hown : OwnB e (.slice A l.length c) l ow) (hsrc : Src P 1 tx u r.length (r.map (Value.int .u8)) w)
    (ht : P.underlying t = some (.slice e)) (hinfo : (P.info? e).map (fun i => (i.zero, i.size, i.bytes)) = some (some z, 1, bytes)) (hzs : z.cells.size = 1) (hb : (l.length + r.length) * bytes ≤ 140737488355328) (hb0 : 0 < bytes) (hg : o.guard = none) (hd : o.dst = some d) (hn : Nat.blt d N = true)
    (h : ∀ A' c' ow' G w a, OwnB e (.slice A' (l ++ r).length c') (l ++ r) ow' → HH B w0 w (Lp ++ (ow' ++ (G ++ L))) → KeepsE (.slice A l.length c) ow (.slice A' (l ++ r).length c') ow' G → SL a N ds ((d, .slice A' (l ++ r).length c') :: F) → wpList P ops Q rest a w) : wpList P ops Q (o :: rest) a w := by
  obtain ⟨A', c', ow', G, w', h1, h2, h3, h4⟩ := run_ownK (P := P) (ty := o.type) H hown hsrc ht hinfo hzs hb hb0
  refine l_event S (v := .slice A' (l ++ r).length c') (w1 := w') (fun ρ Ag => ?_) hg hd hn (fun a S' => h A' c' ow' G w' a h2 h3 h4 S')
  have e1 := Ag x _ hx
  have e2 := Ag y _ hy
  unfold execOp
  simp only [ho, resolve]
  rw [show Array.map ρ #[x, y] = #[.slice A l.length c, u] by simp [e1, e2]]
  have hinv : ∀ c0, (invoke (Target.builtin .append #[t, tx] o.type c0) #[.slice A l.length c, u]).run P w = .ok (.value (.slice A' (l ++ r).length c')) w' := fun _ => run_v h1
  exact hinv #[]
theorem d_ownK {P : Program} {ops : Array Oper} {Q : Exit → Act → World → Prop} {a : Act} {n : Nat} {ds : List Deferred} {F : List (Nat × Value)} {B : Nat} {w0 w : World} {d : Nat} {dss : List Nat} {fuel : Nat} {l : Array Bool} {K : World → Prop} {i : Nat} {oi : Oper} (Lp : List (Nat × Obj)) {ow L : List (Nat × Obj)} {x y : Operand} {t tx e : TypeId} {z : Value} {bytes : Nat} {u : Value} {A : Option Addr} {c : Nat} {xs r : List Int} (l' : Array Bool)
    (S : SL a n ds F) (H : HH B w0 w (Lp ++ (ow ++ L))) (hi : ops[i]? = some oi) (ho : oi.op = .call { callee := .builtin .append, args := #[x, y], argTypes := #[t, tx] }) (hx : ev F x = some (.slice A xs.length c)) (hy : ev F y = some u) (hown : OwnB e (.slice A xs.length c) xs ow) (hsrc : Src P 1 tx u r.length (r.map (Value.int .u8)) w)
    (ht : P.underlying t = some (.slice e)) (hinfo : (P.info? e).map (fun i => (i.zero, i.size, i.bytes)) = some (some z, 1, bytes)) (hzs : z.cells.size = 1) (hb : (xs.length + r.length) * bytes ≤ 140737488355328) (hb0 : 0 < bytes) (hw : Region.wanted oi (yielded ops a.tmps) = true) (hd : oi.dst = some d) (hn : Nat.blt d n = true)
    (hc : readyB .any ops l l' i = true) (hds : dss.contains i = true)
    (h : ∀ A' c' ow' G w a, OwnB e (.slice A' (xs ++ r).length c') (xs ++ r) ow' → HH B w0 w (Lp ++ (ow' ++ (G ++ L))) → KeepsE (.slice A xs.length c) ow (.slice A' (xs ++ r).length c') ow' G → SL a n ds ((d, .slice A' (xs ++ r).length c') :: F) → wpAnyLast P .any ops Q K dss fuel l' a w) : wpAnyLast P .any ops Q K dss (fuel + 1) l a w := by
  obtain ⟨A', c', ow', G, w', h1, h2, h3, h4⟩ := run_ownK (P := P) (ty := oi.type) H hown hsrc ht hinfo hzs hb hb0
  refine last_ l' hi hd hc (by simpa using hds) (fun K hK => value_ (v := .slice A' (xs ++ r).length c') (w1 := w') hw hd ?_ (hK.out _ _ (h A' c' ow' G w' _ h2 h3 h4 (S.put hn _))))
  have e1 := S.agree x _ hx
  have e2 := S.agree y _ hy
  unfold execOp
  simp only [ho, resolve]
  rw [show Array.map a.eval #[x, y] = #[.slice A xs.length c, u] by simp [e1, e2]]
  have hinv : ∀ c0, (invoke (Target.builtin .append #[t, tx] oi.type c0) #[.slice A xs.length c, u]).run P w = .ok (.value (.slice A' (xs ++ r).length c')) w' := fun _ => run_v h1
  exact hinv #[]
theorem HH.cast {B : Nat} {w0 w : World} {L L' : List (Nat × Obj)} (H : HH B w0 w L) (h : L = L') : HH B w0 w L' := h ▸ H
theorem HH.garb {B : Nat} {wb w : World} {D G E Gx L0 : List (Nat × Obj)} (H : HH B wb w (D ++ (G ++ (E ++ (Gx ++ L0))))) : HH B wb w (D ++ ((Gx ++ G) ++ (E ++ L0))) := H.perm (List.Perm.append_left D (by
  rw [← List.append_assoc G E (Gx ++ L0), List.append_assoc Gx G (E ++ L0), ← List.append_assoc G E L0]
  exact List.perm_append_comm_assoc (G ++ E) Gx L0))
section
variable {B : Nat} {wb w : World} {x y z : Nat × Obj} {mb mr G E Gx L0 : List (Nat × Obj)}
theorem HH.lp1 (H : HH B wb w (x :: (mb ++ (mr ++ (G ++ (E ++ L0)))))) : HH B wb w ((x :: (mb ++ (mr ++ G))) ++ (E ++ L0)) := H.cast (by simp only [List.cons_append, List.append_assoc])
theorem HH.lp2 (H : HH B wb w (x :: y :: (mr ++ (G ++ (E ++ L0))))) : HH B wb w ((x :: y :: (mr ++ G)) ++ (E ++ L0)) := H.cast (by simp only [List.cons_append, List.append_assoc])
theorem HH.lp3 (H : HH B wb w (x :: y :: z :: (mr ++ (G ++ (E ++ L0))))) : HH B wb w ((x :: y :: z :: (mr ++ G)) ++ (E ++ L0)) := H.cast (by simp only [List.cons_append, List.append_assoc])
theorem HH.un1 (H : HH B wb w ((x :: (mb ++ (mr ++ G))) ++ (E ++ (Gx ++ L0)))) : HH B wb w (x :: (mb ++ (mr ++ ((Gx ++ G) ++ (E ++ L0))))) :=
  (HH.garb (D := x :: (mb ++ mr)) (G := G) (E := E) (Gx := Gx) (L0 := L0) (H.cast (by simp only [List.cons_append, List.append_assoc]))).cast (by simp only [List.cons_append, List.append_assoc])
theorem HH.un2 (H : HH B wb w ((x :: y :: (mr ++ G)) ++ (E ++ (Gx ++ L0)))) : HH B wb w (x :: y :: (mr ++ ((Gx ++ G) ++ (E ++ L0)))) :=
  (HH.garb (D := x :: y :: mr) (G := G) (E := E) (Gx := Gx) (L0 := L0) (H.cast (by simp only [List.cons_append, List.append_assoc]))).cast (by simp only [List.cons_append, List.append_assoc])
theorem HH.un3 (H : HH B wb w ((x :: y :: z :: (mr ++ G)) ++ (E ++ (Gx ++ L0)))) : HH B wb w (x :: y :: z :: (mr ++ ((Gx ++ G) ++ (E ++ L0)))) :=
  (HH.garb (D := x :: y :: z :: mr) (G := G) (E := E) (Gx := Gx) (L0 := L0) (H.cast (by simp only [List.cons_append, List.append_assoc]))).cast (by simp only [List.cons_append, List.append_assoc])
theorem HH.close2 {L : List (Nat × Obj)} (H : HH B wb w (x :: y :: (mr ++ L))) : HH B wb w ((x :: ([y] ++ mr)) ++ L) := H
theorem Keeps_nil {D D1 D2 : YtbahngfpadjbhaaDoor.dc.Bk} (h1 : YtbahngfpadjbhaaDoor.dc.Keeps D D1 G) (h2 : YtbahngfpadjbhaaDoor.dc.Keeps D1 D2 []) : YtbahngfpadjbhaaDoor.dc.Keeps D D2 G := h1.trans h2
theorem Keeps_head {D D2 r : YtbahngfpadjbhaaDoor.dc.Bk} {g g' : Nat} {s s' : Array Value} {td td' : TypeId} (h1 : YtbahngfpadjbhaaDoor.dc.Keeps D ((g, .cells s td (0, 0)) :: r) G) (h2 : YtbahngfpadjbhaaDoor.dc.Keeps ((g', .cells s' td' (0, 0)) :: r) D2 []) (he : s'[1]? = s[1]?) : YtbahngfpadjbhaaDoor.dc.Keeps D D2 G := Keeps_nil (h1.then_head he) h2
theorem Keeps_two {D D1 : YtbahngfpadjbhaaDoor.dc.Bk} (h1 : YtbahngfpadjbhaaDoor.dc.Keeps D D1 G) : YtbahngfpadjbhaaDoor.dc.Keeps D D1 (x :: y :: G) := Keeps_more h1 [x, y]
theorem KeepsE_two {eb eb' : Value} {E E' : YtbahngfpadjbhaaDoor.dc.Bk} (h1 : KeepsE eb E eb' E' G) : KeepsE eb E eb' E' (x :: y :: G) := h1.more [x, y]
theorem HH.errIn (H : HH B wb w (y :: (x :: (mb ++ (mr ++ L0))))) : HH B wb w ((x :: (mb ++ mr)) ++ (y :: L0)) :=
  (H.cast (L' := y :: ((x :: (mb ++ mr)) ++ L0)) (by simp only [List.cons_append, List.append_assoc])).perm List.perm_middle.symm
end
/-! ### a decoder laid open -/
open YtbahngfpadjbhaaDoor.dc in
def DecO (T : Ty) (wb : World) (X : List Int) (p v : Nat) (cm : Bool) (M : Nat) (rd : Value) (A : Option Addr) (l : List Int) (c r0 : Nat) (mb mr : Bk) : Prop :=
  Buf T.te A l c cm mb ∧ Rdr T.tr T.ti wb rd cm (X.drop v) M mr ∧ r0 + v = l.length ∧ v ≤ X.length ∧ l.drop r0 = X.take v ∧ r0 + X.length ≤ 1000000 ∧ p ≤ X.length
/-! ### a token, plainly -/
/-- What a token is: its bytes, and how many bytes it takes. 'p' the bytes that it may have, 'h' what stands for an escaped byte (0: nothing). -/
def tk (p : Nat → Bool) (h : Nat → Nat) : List Int → List Int × Nat
  | [] => ([], 0)
  | [c] => if c = 92 then ([c], 1) else if p c.toNat then ([c], 1) else ([], 0)
  | c :: d :: l =>
    if c = 92 then (if h d.toNat = 0 then (c :: (tk p h (d :: l)).1, (tk p h (d :: l)).2 + 1) else ((h d.toNat : Int) :: (tk p h l).1, (tk p h l).2 + 2))
    else if p c.toNat then (c :: (tk p h (d :: l)).1, (tk p h (d :: l)).2 + 1) else ([], 0)
section
variable {p : Nat → Bool} {h : Nat → Nat} {X : List Int} {q : Nat}
theorem tk_1 (c : Int) : tk p h [c] = if c = 92 then ([c], 1) else if p c.toNat then ([c], 1) else ([], 0) := by rw [tk]
theorem tk_2 (c d : Int) (l : List Int) : tk p h (c :: d :: l) = if c = 92 then (if h d.toNat = 0 then (c :: (tk p h (d :: l)).1, (tk p h (d :: l)).2 + 1) else ((h d.toNat : Int) :: (tk p h l).1, (tk p h l).2 + 2))
    else if p c.toNat then (c :: (tk p h (d :: l)).1, (tk p h (d :: l)).2 + 1) else ([], 0) := by rw [tk]
theorem drop_at (hq : q < X.length) : X.drop q = X.getD q 0 :: X.drop (q + 1) := by
  rw [List.getD_eq_getElem?_getD, List.getElem?_eq_getElem hq]
  exact List.drop_eq_getElem_cons hq
theorem tk_nil (hq : X.length ≤ q) : tk p h (X.drop q) = ([], 0) := by rw [List.drop_eq_nil_of_le hq]; rfl
theorem tk_ord (hq : q < X.length) (hc : X.getD q 0 ≠ 92) (hp : p (X.getD q 0).toNat = true) : tk p h (X.drop q) = (X.getD q 0 :: (tk p h (X.drop (q + 1))).1, (tk p h (X.drop (q + 1))).2 + 1) := by
  rw [drop_at hq]
  by_cases h1 : q + 1 < X.length
  · rw [drop_at h1, tk_2, if_neg hc, if_pos hp]
  · rw [List.drop_eq_nil_of_le (by omega : X.length ≤ q + 1)]; rw [tk_1, if_neg hc, if_pos hp]; rfl
theorem tk_stop (hq : q < X.length) (hc : X.getD q 0 ≠ 92) (hp : p (X.getD q 0).toNat = false) : tk p h (X.drop q) = ([], 0) := by
  rw [drop_at hq]
  by_cases h1 : q + 1 < X.length
  · rw [drop_at h1, tk_2, if_neg hc, if_neg (by rw [hp]; decide)]
  · rw [List.drop_eq_nil_of_le (by omega : X.length ≤ q + 1)]; rw [tk_1, if_neg hc, if_neg (by rw [hp]; decide)]
theorem tk_last (hq : q + 1 = X.length) (hc : X.getD q 0 = 92) : tk p h (X.drop q) = ([92], 1) := by
  rw [drop_at (by omega), List.drop_eq_nil_of_le (by omega : X.length ≤ q + 1), hc]; rfl
theorem tk_bs (hq : q + 1 < X.length) (hc : X.getD q 0 = 92) (hh : h (X.getD (q + 1) 0).toNat = 0) : tk p h (X.drop q) = (92 :: (tk p h (X.drop (q + 1))).1, (tk p h (X.drop (q + 1))).2 + 1) := by
  rw [drop_at (by omega), drop_at hq, hc, tk_2, if_pos rfl, if_pos hh]
theorem tk_esc (hq : q + 1 < X.length) (hc : X.getD q 0 = 92) (hh : h (X.getD (q + 1) 0).toNat ≠ 0) : tk p h (X.drop q) = ((h (X.getD (q + 1) 0).toNat : Int) :: (tk p h (X.drop (q + 2))).1, (tk p h (X.drop (q + 2))).2 + 2) := by
  rw [drop_at (by omega), drop_at hq, hc, tk_2, if_pos rfl, if_neg hh]
theorem cut_succ {se : Nat} (hs : se ≤ q) (hq : q < X.length) : (X.take (q + 1)).drop se = (X.take q).drop se ++ [X.getD q 0] := by
  rw [List.take_add_one, get_some 0 hq, List.drop_append_of_le_length (by rw [List.length_take]; omega)]
  rfl
/-- On the way: 'p0' where the token begins, 'q' how far it has come, 'xs' what has been put aside, 'se' from where on nothing has. -/
def TkI (p : Nat → Bool) (h : Nat → Nat) (sk : Bool) (X : List Int) (p0 q se : Nat) (xs : List Int) : Prop :=
  p0 ≤ se ∧ se ≤ q ∧ q ≤ X.length ∧ (tk p h (X.drop p0)).2 = (q - p0) + (tk p h (X.drop q)).2 ∧ (xs = [] → se = p0) ∧ (sk = true → xs = []) ∧ (sk = false → (tk p h (X.drop p0)).1 = xs ++ ((X.take q).drop se ++ (tk p h (X.drop q)).1))
def TkE (p : Nat → Bool) (h : Nat → Nat) (sk : Bool) (X : List Int) (p0 q se : Nat) (xs : List Int) : Prop :=
  p0 ≤ se ∧ se ≤ q ∧ q ≤ X.length ∧ (tk p h (X.drop p0)).2 = q - p0 ∧ (xs = [] → se = p0) ∧ (sk = true → xs = []) ∧ (sk = false → (tk p h (X.drop p0)).1 = xs ++ (X.take q).drop se)
theorem TkI.start {sk : Bool} {p0 : Nat} (h0 : p0 ≤ X.length) : TkI p h sk X p0 p0 p0 [] := by
  refine ⟨Nat.le_refl _, Nat.le_refl _, h0, by omega, fun _ => rfl, fun _ => rfl, fun _ => ?_⟩
  rw [List.drop_eq_nil_of_le (by rw [List.length_take]; omega : (X.take p0).length ≤ p0)]
  rfl
theorem TkI.ord {sk : Bool} {p0 se : Nat} {xs : List Int} (I : TkI p h sk X p0 q se xs) (hq : q < X.length) (hc : X.getD q 0 ≠ 92) (hp : p (X.getD q 0).toNat = true) : TkI p h sk X p0 (q + 1) se xs := by
  obtain ⟨h1, h2, h3, h4, h5, h6, h7⟩ := I
  rw [tk_ord hq hc hp] at h4
  refine ⟨h1, by omega, by omega, by simp only at h4; omega, h5, h6, fun hs => ?_⟩
  rw [h7 hs, tk_ord hq hc hp, cut_succ h2 hq]
  simp
theorem TkI.bs {sk : Bool} {p0 se : Nat} {xs : List Int} (I : TkI p h sk X p0 q se xs) (hq : q + 1 < X.length) (hc : X.getD q 0 = 92) (hh : h (X.getD (q + 1) 0).toNat = 0) : TkI p h sk X p0 (q + 1) se xs := by
  obtain ⟨h1, h2, h3, h4, h5, h6, h7⟩ := I
  rw [tk_bs hq hc hh] at h4
  refine ⟨h1, by omega, by omega, by simp only at h4; omega, h5, h6, fun hs => ?_⟩
  rw [h7 hs, tk_bs hq hc hh, cut_succ h2 (by omega), hc]
  simp
theorem TkI.esc {p0 se : Nat} {xs : List Int} (I : TkI p h false X p0 q se xs) (hq : q + 1 < X.length) (hc : X.getD q 0 = 92) (hh : h (X.getD (q + 1) 0).toNat ≠ 0) : TkI p h false X p0 (q + 2) (q + 2) (xs ++ ((X.take q).drop se ++ [(h (X.getD (q + 1) 0).toNat : Int)])) := by
  obtain ⟨h1, h2, h3, h4, h5, h6, h7⟩ := I
  rw [tk_esc hq hc hh] at h4
  refine ⟨by omega, Nat.le_refl _, by omega, by simp only at h4; omega, fun e => ?_, (fun e => by cases e), fun hs => ?_⟩
  · have := congrArg List.length e
    simp at this
  · rw [h7 hs, tk_esc hq hc hh, List.drop_eq_nil_of_le (by rw [List.length_take]; omega : (X.take (q + 2)).length ≤ q + 2)]
    simp
theorem TkI.escS {p0 se : Nat} {xs : List Int} (I : TkI p h true X p0 q se xs) (hq : q + 1 < X.length) (hc : X.getD q 0 = 92) (hh : h (X.getD (q + 1) 0).toNat ≠ 0) : TkI p h true X p0 (q + 2) se xs := by
  obtain ⟨h1, h2, h3, h4, h5, h6, h7⟩ := I
  rw [tk_esc hq hc hh] at h4
  exact ⟨h1, by omega, by omega, by simp only at h4; omega, h5, h6, fun hs => by cases hs⟩
theorem TkI.stop {sk : Bool} {p0 se : Nat} {xs : List Int} (I : TkI p h sk X p0 q se xs) (hn : tk p h (X.drop q) = ([], 0)) : TkE p h sk X p0 q se xs := by
  obtain ⟨h1, h2, h3, h4, h5, h6, h7⟩ := I
  rw [hn] at h4
  exact ⟨h1, h2, h3, by simpa using h4, h5, h6, fun hs => by rw [h7 hs, hn]; simp⟩
theorem TkI.last {sk : Bool} {p0 se : Nat} {xs : List Int} (I : TkI p h sk X p0 q se xs) (hq : q + 1 = X.length) (hc : X.getD q 0 = 92) : TkE p h sk X p0 X.length se xs := by
  obtain ⟨h1, h2, h3, h4, h5, h6, h7⟩ := I
  rw [tk_last hq hc] at h4
  refine ⟨h1, by omega, Nat.le_refl _, by simp only at h4; omega, h5, h6, fun hs => ?_⟩
  rw [h7 hs, tk_last hq hc, ← hq, cut_succ h2 (by omega), hc]
end
/-- The token's text: as it stands, where it is skipped. -/
def tx (p : Nat → Bool) (h : Nat → Nat) (sk : Bool) (X : List Int) (p0 : Nat) : List Int := if sk then (X.drop p0).take (tk p h (X.drop p0)).2 else (tk p h (X.drop p0)).1
/-! ### bytes -/
theorem ints_nums {l : List Int} (h : ∀ x ∈ l, 0 ≤ x ∧ x < 256) : ints (strOfNums l) = l := by
  unfold ints strOfNums
  simp only [List.map_map]
  conv => rhs; rw [← List.map_id l]
  refine List.map_congr_left (fun x hx => ?_)
  have := h x hx
  simp only [Function.comp, id_eq, UInt8.toNat_ofNat']
  omega
theorem byte_nat {X : List Int} (h : ∀ x ∈ X, 0 ≤ x ∧ x < 256) {i : Nat} (hi : i < X.length) : ∃ b : Nat, X.getD i 0 = (b : Int) ∧ b < 256 := by
  have hm : X.getD i 0 ∈ X := by
    rw [List.getD_eq_getElem?_getD, List.getElem?_eq_getElem hi]
    exact List.getElem_mem hi
  have := h _ hm
  exact ⟨(X.getD i 0).toNat, by omega, by omega⟩
theorem tk_le (p : Nat → Bool) (h : Nat → Nat) : ∀ l : List Int, (tk p h l).1.length ≤ l.length ∧ (tk p h l).2 ≤ l.length
  | [] => by simp [tk]
  | [c] => by rw [tk_1]; split <;> (try split) <;> simp
  | c :: d :: l => by
    have h1 := tk_le p h (d :: l)
    have h2 := tk_le p h l
    rw [tk_2]
    simp only [List.length_cons] at h1 ⊢
    split
    · split
      · simp only [List.length_cons]; omega
      · simp only [List.length_cons]; omega
    · split
      · simp only [List.length_cons]; omega
      · simp
theorem tk_by {p : Nat → Bool} {h : Nat → Nat} (hh : ∀ j, h j < 256) : ∀ l : List Int, (∀ x ∈ l, 0 ≤ x ∧ x < 256) → ∀ x ∈ (tk p h l).1, 0 ≤ x ∧ x < 256
  | [], _ => by simp [tk]
  | [c], hl => by
    rw [tk_1]
    split
    · exact hl
    · split
      · exact hl
      · simp
  | c :: d :: l, hl => by
    have h1 := tk_by (p := p) hh (d :: l) (fun x hx => hl x (List.mem_cons_of_mem _ hx))
    have h2 := tk_by (p := p) hh l (fun x hx => hl x (List.mem_cons_of_mem _ (List.mem_cons_of_mem _ hx)))
    have h0 := hl c List.mem_cons_self
    rw [tk_2]
    split
    · split
      · intro x hx
        rcases List.mem_cons.1 hx with rfl | hx
        · exact h0
        · exact h1 x hx
      · intro x hx
        rcases List.mem_cons.1 hx with rfl | hx
        · have := hh d.toNat; omega
        · exact h2 x hx
    · split
      · intro x hx
        rcases List.mem_cons.1 hx with rfl | hx
        · exact h0
        · exact h1 x hx
      · simp
theorem drop_by {X : List Int} (h : ∀ x ∈ X, 0 ≤ x ∧ x < 256) (m : Nat) : ∀ x ∈ X.drop m, 0 ≤ x ∧ x < 256 := fun x hx => h x (List.mem_of_mem_drop hx)
theorem cut_by {X : List Int} (h : ∀ x ∈ X, 0 ≤ x ∧ x < 256) (k m : Nat) : ∀ x ∈ (X.take k).drop m, 0 ≤ x ∧ x < 256 := fun x hx => h x (List.mem_of_mem_take (List.mem_of_mem_drop hx))
theorem cut_len {X : List Int} {k m : Nat} (hk : k ≤ X.length) : ((X.take k).drop m).length = k - m := by rw [List.length_drop, List.length_take, Nat.min_eq_left hk]
section
variable {p : Nat → Bool} {h : Nat → Nat} {X : List Int} {q p0 se : Nat} {xs : List Int} {sk : Bool}
theorem TkI.xs_le (I : TkI p h sk X p0 q se xs) : xs.length ≤ X.length := by
  obtain ⟨h1, h2, h3, h4, h5, h6, h7⟩ := I
  cases sk with
  | true => rw [h6 rfl]; exact Nat.zero_le _
  | false =>
    have := congrArg List.length (h7 rfl)
    have h8 := (tk_le p h (X.drop p0)).1
    rw [List.length_append] at this
    rw [List.length_drop] at h8
    omega
theorem TkE.xs_le (I : TkE p h sk X p0 q se xs) : xs.length ≤ X.length := by
  obtain ⟨h1, h2, h3, h4, h5, h6, h7⟩ := I
  cases sk with
  | true => rw [h6 rfl]; exact Nat.zero_le _
  | false =>
    have := congrArg List.length (h7 rfl)
    have h8 := (tk_le p h (X.drop p0)).1
    rw [List.length_append] at this
    rw [List.length_drop] at h8
    omega
theorem TkE.n (I : TkE p h sk X p0 q se xs) : p0 + (tk p h (X.drop p0)).2 = q := by have := I.1; have := I.2.1; have := I.2.2.2.1; omega
/-- Nothing was put aside. -/
theorem TkE.raw (I : TkE p h sk X p0 q se xs) (hx : xs = []) : tx p h sk X p0 = (X.take q).drop p0 := by
  obtain ⟨h1, h2, h3, h4, h5, h6, h7⟩ := I
  unfold tx
  cases sk with
  | true => rw [if_pos rfl, h4, List.drop_take]
  | false => rw [if_neg (by decide), h7 rfl, hx, h5 hx]; rfl
theorem TkE.esc (I : TkE p h sk X p0 q se xs) (hx : xs ≠ []) : tx p h sk X p0 = xs ++ (X.take q).drop se := by
  obtain ⟨h1, h2, h3, h4, h5, h6, h7⟩ := I
  unfold tx
  cases sk with
  | true => exact absurd (h6 rfl) hx
  | false => rw [if_neg (by decide), h7 rfl]
end
theorem tx_by {p : Nat → Bool} {h : Nat → Nat} {X : List Int} {p0 : Nat} {sk : Bool} (hX : ∀ x ∈ X, 0 ≤ x ∧ x < 256) (hh : ∀ j, h j < 256) : ∀ x ∈ tx p h sk X p0, 0 ≤ x ∧ x < 256 := by
  unfold tx
  split
  · exact fun x hx => hX x (List.mem_of_mem_drop (List.mem_of_mem_take hx))
  · exact tk_by hh _ (drop_by hX p0)
/-! ### what is handed back -/
open YtbahngfpadjbhaaDoor.dc in
/-- A slice that a caller holds. -/
def HeldT (D E : Bk) (eb : Value) (A : Option Addr) (t : List Int) : Prop := t = [] ∨ ∃ gt ot, A = some ⟨gt, ot, none⟩ ∧ (Vis D gt ot t ∨ VisE eb E gt ot t)
open YtbahngfpadjbhaaDoor.dc in
theorem HeldT.keeps {D D' E : Bk} {eb : Value} {A : Option Addr} {t : List Int} (h : HeldT D E eb A t) (hk : Keeps D D' []) : HeldT D' E eb A t := by
  rcases h with h | ⟨gt, ot, h1, h2 | h2⟩
  · exact .inl h
  · rcases hk gt ot t h2 with h3 | ⟨cs, te, f, h3, _⟩
    · exact .inr ⟨gt, ot, h1, .inl h3⟩
    · cases h3
  · exact .inr ⟨gt, ot, h1, .inr h2⟩
open YtbahngfpadjbhaaDoor.dc in
theorem held_raw {g : Nat} {c0 c2 c3 c4 c5 c6 c7 c8 c9 : Value} {A : Option Addr} {l X : List Int} {c r0 v p0 q : Nat} {cm : Bool} {mb mr E : Bk} {te td : TypeId} {eb : Value} (hbuf : Buf te A l c cm mb) (hr0 : r0 + v = l.length) (hdr : l.drop r0 = X.take v) (hvX : v ≤ X.length) (hq : q ≤ v) :
    HeldT ((g, .cells #[c0, .slice A l.length c, c2, c3, c4, c5, c6, c7, c8, c9] td (0, 0)) :: (mb ++ mr)) E eb (cutAt A c (r0 + p0) 1) ((X.take q).drop p0) := by
  by_cases hp : q ≤ p0
  · exact .inl (List.drop_eq_nil_of_le (by rw [List.length_take]; omega))
  · obtain ⟨gb, cs, f, rfl, hcs, rfl, _, hrow⟩ := hbuf.ex (by omega)
    have hc := hbuf.1
    refine .inr ⟨gb, r0 + p0, ?_, .inl (vis_mk rfl ?_ ?_)⟩
    · rw [cutAt_off, show offAt 0 c (r0 + p0) = 0 + (r0 + p0) from if_neg (by omega), Nat.zero_add]
    · rw [cut_len (by omega)]; omega
    · rw [← seg_eq p0 hdr hq]
      intro i x hi
      rw [List.getElem?_drop] at hi
      have hlt := (List.getElem?_eq_some_iff.1 hi).1
      rw [List.length_take] at hlt
      rw [List.getElem?_take_of_lt (by omega)] at hi
      exact hrow _ x hi
open YtbahngfpadjbhaaDoor.dc in
theorem held_esc {D E : Bk} {A : Option Addr} {c : Nat} {ys el xs : List Int} {te : TypeId} (h : OwnB te (.slice A ys.length c) ys E) (hy : ys = el ++ xs) : HeldT D E (.slice A ys.length c) (cutAt A c el.length 1) xs := by
  by_cases hx : xs = []
  · exact .inl hx
  · have hl : 0 < xs.length := List.length_pos_iff.2 hx
    have hyl : ys.length = el.length + xs.length := by rw [hy, List.length_append]
    obtain ⟨hn, ⟨hv, h0, _⟩ | ⟨g, cs, c', f, hv, hc, hcs, rfl, _, hr⟩⟩ := h
    · omega
    · injection hv with h1 _ h3
      subst h1 h3
      refine .inr ⟨g, el.length, ?_, .inr ⟨_, _, cs, te, f, rfl, rfl, by omega, ?_⟩⟩
      · rw [cutAt_off, show offAt 0 c el.length = 0 + el.length from if_neg (by omega), Nat.zero_add]
      · intro i x hi
        have hi' := (List.getElem?_eq_some_iff.1 hi).1
        rw [hr _ (by simp; omega), List.getElem?_map, hy, List.getElem?_append_right (by omega), show el.length + i - el.length = i by omega, hi]
        rfl
/-- The line behind a token. -/
def lnT (p : Nat → Bool) (X : List Int) (p0 q line : Nat) : Nat := line + if p 10 then cnt 10 ((X.take q).drop p0) else 0
/-- A token's fault: it is not UTF-8. -/
def FaultT (t : List Int) (err : Value) (sec sec' : Int) (ln : Int) (X : List Int) (p0 q : Nat) (td ti : TypeId) (G : YtbahngfpadjbhaaDoor.dc.Bk) : Prop :=
  (YtbahngfpadjbhaaDoor.up.V (strOfNums t) 0 = true ∧ err = .nilIface ∧ sec' = sec) ∨ (YtbahngfpadjbhaaDoor.up.V (strOfNums t) 0 = false ∧ sec' = (if sec = 5 then 5 else 4) ∧ ∃ (gf : Nat) (et : TypeId) (ev : Value), err = .iface ti (.pointer (some ⟨gf, 0, none⟩)) ∧
    (gf, Obj.cells #[.int .i64 (ln - (cnt 10 ((X.take q).drop p0) : Int)), .int .i64 ((p0 - lastp 10 (X.take p0) p0 + 1 : Nat) : Int), .iface et ev] td (0, 0)) ∈ G)
theorem tabs_of {g3 g4 : Nat} {W w : World} {L : List (Nat × Obj)} {B : Nat} (h : Lib.Utf8Tabs g3 g4 W) (H : HH B W w L) (hB : B = W.heap.size) : Lib.Utf8Tabs g3 g4 w := by
  subst hB
  exact ⟨fun c hc => (H.old (cell_lt (h.1 c hc))).trans (h.1 c hc), fun i hi => ⟨(H.old (cell_lt (h.2 i hi).1)).trans (h.2 i hi).1, (H.old (cell_lt (h.2 i hi).2)).trans (h.2 i hi).2⟩⟩
end Go.Proofs.HHW
