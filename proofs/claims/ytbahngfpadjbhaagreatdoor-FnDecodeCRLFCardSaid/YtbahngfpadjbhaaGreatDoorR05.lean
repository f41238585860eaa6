/- Part of the proof that FnDecodeCRLF answers true at every text, in every world that its card's statement admits; no condition beyond those. -/
import Derived.Test.YtbahngfpadjbhaaGreatDoorR04
import Derived.Scope
import Derived.Test.YtbahngfpadjbhaaGreatDoorProg
set_option linter.unusedVariables false
set_option linter.unusedSimpArgs false
section
namespace Go.Proofs.HHW
open Go.RowKit Go.Proofs.YtbahngfpadjbhaaGreatDoorW.PrintWords YtbahngfpadjbhaaGreatDoorW.PrintLast
section
variable {P : Program} {Q : Exit → Act → World → Prop} {a : Act} {w : World}
theorem c_label {l : Nat} (h : Q .normal a w) : (Code.label l).wp P Q a w := wp_label h
theorem c_scope {c : Code} (h : c.wp P (Exit.noGoto Q) a w) : (Code.scope c).wp P Q a w := wp_scope_straight h
theorem e_sc_ret (h : Q .ret a w) : Exit.noGoto Q .ret a w := h
end
open YtbahngfpadjbhaaGreatDoor.dc in
def KeepsE (eb : Value) (E : Bk) (eb' : Value) (E' G : Bk) : Prop := ∀ gt ot t, VisE eb E gt ot t → VisE eb' E' gt ot t ∨ InG G gt ot t
theorem KeepsE.refl (eb : Value) (E G : YtbahngfpadjbhaaGreatDoor.dc.Bk) : KeepsE eb E eb E G := fun _ _ _ h => .inl h
theorem KeepsE.trans {eb eb1 eb2 : Value} {E E1 E2 G1 G2 : YtbahngfpadjbhaaGreatDoor.dc.Bk} (h1 : KeepsE eb E eb1 E1 G1) (h2 : KeepsE eb1 E1 eb2 E2 G2) : KeepsE eb E eb2 E2 (G2 ++ G1) := fun gt ot t h => by
 rcases h1 gt ot t h with h | h
 ·
  rcases h2 gt ot t h with h | h
  ·
   exact .inl h
  ·
   exact .inr h.left
 ·
  exact .inr h.right
theorem KeepsE.more {eb eb' : Value} {E E' G : YtbahngfpadjbhaaGreatDoor.dc.Bk} (h : KeepsE eb E eb' E' G) (G2 : YtbahngfpadjbhaaGreatDoor.dc.Bk) : KeepsE eb E eb' E' (G2 ++ G) := fun gt ot t hv => (h gt ot t hv).elim .inl fun h => .inr h.right
theorem Keeps_more {D D' G : YtbahngfpadjbhaaGreatDoor.dc.Bk} (h : YtbahngfpadjbhaaGreatDoor.dc.Keeps D D' G) (G2 : YtbahngfpadjbhaaGreatDoor.dc.Bk) : YtbahngfpadjbhaaGreatDoor.dc.Keeps D D' (G2 ++ G) := fun gt ot t hv => (h gt ot t hv).elim .inl fun h => .inr h.right
theorem run_ownK {P : Program} {B : Nat} {w0 w : World} {Lp ow L : List (Nat × Obj)} {t tx ty e : TypeId} {z : Value} {bytes : Nat} {A : Option Addr} {c : Nat} {x : Value} {xs r : List Int} (H : HH B w0 w (Lp ++ (ow ++ L))) (hown : OwnB e (.slice A xs.length c) xs ow) (hsrc : Src P 1 tx x r.length (r.map (Value.int .u8)) w)
  (ht : P.underlying t = some (.slice e)) (hinfo : (P.info? e).map (fun i => (i.zero, i.size, i.bytes)) = some (some z, 1, bytes)) (hzs : z.cells.size = 1) (hb : (xs.length + r.length) * bytes ≤ 140737488355328) (hb0 : 0 < bytes) :
  ∃ A' c' ow' G w', (Builtin.append_ #[t, tx] ty #[.slice A xs.length c, x]).run P w = .ok (.slice A' (xs ++ r).length c') w' ∧ OwnB e (.slice A' (xs ++ r).length c') (xs ++ r) ow' ∧ HH B w0 w' (Lp ++ (ow' ++ (G ++ L))) ∧ KeepsE (.slice A xs.length c) ow (.slice A' (xs ++ r).length c') ow' G := by
 have hle : xs.length + r.length ≤ 140737488355328 := Nat.le_trans (Nat.le_mul_of_pos_right _ hb0) hb
 obtain ⟨i, hi, hzz⟩ := Option.map_eq_some_iff.1 hinfo
 simp only [Prod.mk.injEq] at hzz
 obtain ⟨hz, hsz, hby⟩ := hzz
 subst hby
 have hlen : (xs.map (Value.int .u8) ++ r.map (Value.int .u8)) = (xs ++ r).map (Value.int .u8) := (List.map_append).symm
 have hll : xs.length + r.length = (xs ++ r).length := (List.length_append).symm
 rcases hown.2 with ⟨hv, h0, rfl⟩ | ⟨g, cs, c', f, hv, hc, hcs, rfl, hth, hr⟩
 ·
  obtain ⟨v', ow', w', h1, h2, h3⟩ := run_own (P := P) (ty := ty) H hown hsrc ht hinfo hzs hb hb0
  rw [hll, hlen] at h2
  obtain ⟨A', c', rfl, _⟩ := h2.slice
  refine ⟨A', c', ow', [], w', h1, h2, h3, fun gt ot t h => ?_⟩
  obtain ⟨_, _, _, _, _, _, h4, _⟩ := h
  cases h4
 ·
  injection hv with h1 _ h3
  subst h1 h3
  rw [Nat.mul_one] at hcs
  have hm : (g, Obj.cells cs e f) ∈ Lp ++ ([(g, Obj.cells cs e f)] ++ L) := by simp
  have hat := H.at_ _ hm
  simp only at hat
  have hrow : ∀ j, j < xs.length → cs[j]? = (xs.map (Value.int .u8))[j]? := fun j hj => hr j (by simpa using hj)
  by_cases hroom : xs.length + r.length ≤ c
  ·
   have hrun := run_append_room_src (P := P) w t tx ty e i ht hi g 0 xs.length c x r.length (r.map (Value.int .u8)) (by rw [hsz]; exact hsrc) hroom (fun j hj => by rw [List.length_map] at hj; simp [World.cell?, hat, hsz]; omega) (fun j hj => by rw [List.length_map] at hj; exact hth.at hat (by rw [hsz]; omega))
   rw [Nat.zero_add, hsz, Nat.mul_one] at hrun
   rw [hll] at hrun
   have hrow' : ∀ j, j < ((xs ++ r).map (Value.int .u8)).length → (spl cs xs.length (r.map (Value.int .u8)))[j]? = ((xs ++ r).map (Value.int .u8))[j]? := fun j hj => by
    rw [← hlen] at hj ⊢
    rw [List.length_append, List.length_map, List.length_map] at hj
    by_cases hj1 : j < xs.length
    ·
     rw [spl_out _ _ _ _ (.inl hj1), List.getElem?_append_left (by simpa using hj1)]; exact hrow j hj1
    ·
     have := spl_in (r.map (Value.int .u8)) cs xs.length (j - xs.length) (by simp; omega) (by simp; omega)
     rw [show xs.length + (j - xs.length) = j by omega] at this
     rw [this, List.getElem?_append_right (by simp; omega), List.length_map]
   refine ⟨_, c, [(g, .cells (spl cs xs.length (r.map (Value.int .u8))) e f)], [], _, hrun, ⟨by simp, .inr ⟨g, _, c, f, rfl, by rw [← hll]; exact hroom, by rw [spl_size, hcs, Nat.mul_one], rfl, fun j hj => hth j (by rw [spl_size] at hj; exact hj), hrow'⟩⟩, ?_, ?_⟩
   ·
    exact H.sets (r.map (Value.int .u8)) xs.length cs (Rep.skip Lp .here)
   ·
    rintro gt ot t ⟨n1, c1, cs1, te1, f1, h4, h5, h6, h7⟩
    injection h4 with h8 h9 h10
    injection h8 with h8
    injection h8 with h8
    simp only [List.cons.injEq, Prod.mk.injEq, and_true] at h5
    obtain ⟨h11, h12⟩ := h5
    injection h12 with h12 h13 h14
    subst h8 h9 h12 h13 h14
    exact .inl ⟨_, _, _, _, _, rfl, rfl, by rw [← hll]; omega, YtbahngfpadjbhaaGreatDoor.dc.row_keep h7 h6⟩
  ·
   have hold : (Builtin.firstCells i.size xs.length (.slice (some ⟨g, 0, none⟩) xs.length c)).run P w.drew = .ok (cs.toList.take (xs.length * i.size)).toArray w.drew := by
    refine run_firstCells_some w.drew i.size xs.length ⟨g, 0, none⟩ xs.length c _ ?_ (fun j u hj => ?_)
    ·
     rw [hsz]; simp; omega
    ·
     rw [addp]
     have h1 : j < xs.length * i.size := by
      have := (List.getElem?_eq_some_iff.1 hj).1
      simp at this
      omega
     rw [List.getElem?_take, if_pos h1] at hj
     have h2 : w.drew.heap = w.heap := rfl
     simp only [World.cell?, h2, hat]
     simpa using hj
   have hsrc' : Src P i.size tx x r.length (r.map (Value.int .u8)) w := by rw [hsz]; exact hsrc
   have hrun := run_append_grow_src (P := P) w t tx ty e i z ht hi hz (some ⟨g, 0, none⟩) xs.length c _ hold x r.length (r.map (Value.int .u8)) hsrc' (by omega) (by omega) (growslice_fits (by omega) hb)
   rw [hll] at hrun
   have hge := grownCap_ge w (xs ++ r).length c e
   have htk : (cs.toList.take (xs.length * i.size)).length = xs.length := by rw [hsz]; simp; omega
   refine ⟨_, _, [(w.heap.size, .cells ((cs.toList.take (xs.length * i.size) ++ r.map (Value.int .u8)).toArray ++ Builtin.zeroCells z.cells (grownCap w (xs ++ r).length c e - (xs ++ r).length)) e (0, 0))], [(g, .cells cs e f)], _, hrun, ⟨by simp, .inr ⟨w.heap.size, _, _, (0, 0), rfl, hge, ?_, rfl, thaw0 _, fun j hj => ?_⟩⟩, ?_, ?_⟩
   ·
    simp only [Array.size_append, List.size_toArray, List.length_append, size_zeroCells, hzs, htk, List.length_map]
    simp only [List.length_append] at hge
    omega
   ·
    rw [← hlen] at hj ⊢
    rw [Array.getElem?_append_left (by simp only [List.size_toArray, List.length_append, htk] at hj ⊢; simpa using hj)]
    simp only [List.getElem?_toArray]
    by_cases hj1 : j < xs.length
    ·
     rw [List.getElem?_append_left (by omega), List.getElem?_append_left (by simpa using hj1), List.getElem?_take, if_pos (by rw [hsz]; omega), ← hrow j hj1]
     simp
    ·
     rw [List.getElem?_append_right (by omega), List.getElem?_append_right (by simp; omega), htk, List.length_map]
   ·
    exact ((H.drew).alloc _).perm (List.perm_middle.symm)
   ·
    rintro gt ot t ⟨n1, c1, cs1, te1, f1, h4, h5, h6, h7⟩
    injection h4 with h8 h9 h10
    injection h8 with h8
    injection h8 with h8
    simp only [List.cons.injEq, Prod.mk.injEq, and_true] at h5
    obtain ⟨h11, h12⟩ := h5
    injection h12 with h12 h13 h14
    subst h8 h12 h13 h14
    exact .inr ⟨_, _, _, List.mem_cons_self, h7⟩
theorem l_ownK {P : Program} {ops : Array Oper} {Q : Exit → Act → World → Prop} {o : Oper} {rest : List Oper} {a : Act} {N : Nat} {ds : List Deferred} {F : List (Nat × Value)} {d : Nat} {B : Nat} {w0 w : World} (Lp : List (Nat × Obj)) {ow L : List (Nat × Obj)} {x y : Operand} {t tx e : TypeId} {z : Value} {bytes : Nat} {u : Value} {A : Option Addr} {c : Nat} {l r : List Int}
  (S : SL a N ds F) (H : HH B w0 w (Lp ++ (ow ++ L))) (ho : o.op = .call { callee := .builtin .append, args := #[x, y], argTypes := #[t, tx] }) (hx : ev F x = some (.slice A l.length c)) (hy : ev F y = some u) (hown : OwnB e (.slice A l.length c) l ow) (hsrc : Src P 1 tx u r.length (r.map (Value.int .u8)) w)
  (ht : P.underlying t = some (.slice e)) (hinfo : (P.info? e).map (fun i => (i.zero, i.size, i.bytes)) = some (some z, 1, bytes)) (hzs : z.cells.size = 1) (hb : (l.length + r.length) * bytes ≤ 140737488355328) (hb0 : 0 < bytes) (hg : o.guard = none) (hd : o.dst = some d) (hn : Nat.blt d N = true)
  (h : ∀ A' c' ow' G w a, OwnB e (.slice A' (l ++ r).length c') (l ++ r) ow' → HH B w0 w (Lp ++ (ow' ++ (G ++ L))) → KeepsE (.slice A l.length c) ow (.slice A' (l ++ r).length c') ow' G → SL a N ds ((d, .slice A' (l ++ r).length c') :: F) → wpList P ops Q rest a w) : wpList P ops Q (o :: rest) a w := by
 obtain ⟨A', c', ow', G, w', h1, h2, h3, h4⟩ := run_ownK (P := P) (ty := o.type) H hown hsrc ht hinfo hzs hb hb0
 refine l_event S (v := .slice A' (l ++ r).length c') (w1 := w') (fun ρ Ag => ?_) hg hd hn (fun a S' => h A' c' ow' G w' a h2 h3 h4 S')
 have e1 := Ag x _ hx
 have e2 := Ag y _ hy
 unfold execOp
 simp only [ho, resolve]
 rw [show Array.map ρ #[x, y] = #[.slice A l.length c, u] by simp [e1, e2]]
 have hinv : ∀ c0, (invoke (Target.builtin .append #[t, tx] o.type c0) #[.slice A l.length c, u]).run P w = .ok (.value (.slice A' (l ++ r).length c')) w' := fun _ => run_v h1
 exact hinv #[]
theorem d_ownK {P : Program} {ops : Array Oper} {Q : Exit → Act → World → Prop} {a : Act} {n : Nat} {ds : List Deferred} {F : List (Nat × Value)} {B : Nat} {w0 w : World} {d : Nat} {dss : List Nat} {fuel : Nat} {l : Array Bool} {K : World → Prop} {i : Nat} {oi : Oper} (Lp : List (Nat × Obj)) {ow L : List (Nat × Obj)} {x y : Operand} {t tx e : TypeId} {z : Value} {bytes : Nat} {u : Value} {A : Option Addr} {c : Nat} {xs r : List Int} (l' : Array Bool)
  (S : SL a n ds F) (H : HH B w0 w (Lp ++ (ow ++ L))) (hi : ops[i]? = some oi) (ho : oi.op = .call { callee := .builtin .append, args := #[x, y], argTypes := #[t, tx] }) (hx : ev F x = some (.slice A xs.length c)) (hy : ev F y = some u) (hown : OwnB e (.slice A xs.length c) xs ow) (hsrc : Src P 1 tx u r.length (r.map (Value.int .u8)) w)
  (ht : P.underlying t = some (.slice e)) (hinfo : (P.info? e).map (fun i => (i.zero, i.size, i.bytes)) = some (some z, 1, bytes)) (hzs : z.cells.size = 1) (hb : (xs.length + r.length) * bytes ≤ 140737488355328) (hb0 : 0 < bytes) (hw : Region.wanted oi (yielded ops a.tmps) = true) (hd : oi.dst = some d) (hn : Nat.blt d n = true)
  (hc : readyB .any ops l l' i = true) (hds : dss.contains i = true)
  (h : ∀ A' c' ow' G w a, OwnB e (.slice A' (xs ++ r).length c') (xs ++ r) ow' → HH B w0 w (Lp ++ (ow' ++ (G ++ L))) → KeepsE (.slice A xs.length c) ow (.slice A' (xs ++ r).length c') ow' G → SL a n ds ((d, .slice A' (xs ++ r).length c') :: F) → wpAnyLast P .any ops Q K dss fuel l' a w) : wpAnyLast P .any ops Q K dss (fuel + 1) l a w := by
 obtain ⟨A', c', ow', G, w', h1, h2, h3, h4⟩ := run_ownK (P := P) (ty := oi.type) H hown hsrc ht hinfo hzs hb hb0
 refine last_ l' hi hd hc (by simpa using hds) (fun K hK => value_ (v := .slice A' (xs ++ r).length c') (w1 := w') hw hd ?_ (hK.out _ _ (h A' c' ow' G w' _ h2 h3 h4 (S.put hn _))))
 have e1 := S.agree x _ hx
 have e2 := S.agree y _ hy
 unfold execOp
 simp only [ho, resolve]
 rw [show Array.map a.eval #[x, y] = #[.slice A xs.length c, u] by simp [e1, e2]]
 have hinv : ∀ c0, (invoke (Target.builtin .append #[t, tx] oi.type c0) #[.slice A xs.length c, u]).run P w = .ok (.value (.slice A' (xs ++ r).length c')) w' := fun _ => run_v h1
 exact hinv #[]
theorem HH.cast {B : Nat} {w0 w : World} {L L' : List (Nat × Obj)} (H : HH B w0 w L) (h : L = L') : HH B w0 w L' := h ▸ H
theorem HH.garb {B : Nat} {wb w : World} {D G E Gx L0 : List (Nat × Obj)} (H : HH B wb w (D ++ (G ++ (E ++ (Gx ++ L0))))) : HH B wb w (D ++ ((Gx ++ G) ++ (E ++ L0))) := H.perm (List.Perm.append_left D (by
 rw [← List.append_assoc G E (Gx ++ L0), List.append_assoc Gx G (E ++ L0), ← List.append_assoc G E L0]
 exact List.perm_append_comm_assoc (G ++ E) Gx L0))
section
variable {B : Nat} {wb w : World} {x y z : Nat × Obj} {mb mr G E Gx L0 : List (Nat × Obj)}
theorem HH.lp1 (H : HH B wb w (x :: (mb ++ (mr ++ (G ++ (E ++ L0)))))) : HH B wb w ((x :: (mb ++ (mr ++ G))) ++ (E ++ L0)) := H.cast (by simp only [List.cons_append, List.append_assoc])
theorem HH.lp2 (H : HH B wb w (x :: y :: (mr ++ (G ++ (E ++ L0))))) : HH B wb w ((x :: y :: (mr ++ G)) ++ (E ++ L0)) := H.cast (by simp only [List.cons_append, List.append_assoc])
theorem HH.lp3 (H : HH B wb w (x :: y :: z :: (mr ++ (G ++ (E ++ L0))))) : HH B wb w ((x :: y :: z :: (mr ++ G)) ++ (E ++ L0)) := H.cast (by simp only [List.cons_append, List.append_assoc])
theorem HH.un1 (H : HH B wb w ((x :: (mb ++ (mr ++ G))) ++ (E ++ (Gx ++ L0)))) : HH B wb w (x :: (mb ++ (mr ++ ((Gx ++ G) ++ (E ++ L0))))) :=
 (HH.garb (D := x :: (mb ++ mr)) (G := G) (E := E) (Gx := Gx) (L0 := L0) (H.cast (by simp only [List.cons_append, List.append_assoc]))).cast (by simp only [List.cons_append, List.append_assoc])
theorem HH.un2 (H : HH B wb w ((x :: y :: (mr ++ G)) ++ (E ++ (Gx ++ L0)))) : HH B wb w (x :: y :: (mr ++ ((Gx ++ G) ++ (E ++ L0)))) :=
 (HH.garb (D := x :: y :: mr) (G := G) (E := E) (Gx := Gx) (L0 := L0) (H.cast (by simp only [List.cons_append, List.append_assoc]))).cast (by simp only [List.cons_append, List.append_assoc])
theorem HH.un3 (H : HH B wb w ((x :: y :: z :: (mr ++ G)) ++ (E ++ (Gx ++ L0)))) : HH B wb w (x :: y :: z :: (mr ++ ((Gx ++ G) ++ (E ++ L0)))) :=
 (HH.garb (D := x :: y :: z :: mr) (G := G) (E := E) (Gx := Gx) (L0 := L0) (H.cast (by simp only [List.cons_append, List.append_assoc]))).cast (by simp only [List.cons_append, List.append_assoc])
theorem HH.close2 {L : List (Nat × Obj)} (H : HH B wb w (x :: y :: (mr ++ L))) : HH B wb w ((x :: ([y] ++ mr)) ++ L) := H
theorem Keeps_nil {D D1 D2 : YtbahngfpadjbhaaGreatDoor.dc.Bk} (h1 : YtbahngfpadjbhaaGreatDoor.dc.Keeps D D1 G) (h2 : YtbahngfpadjbhaaGreatDoor.dc.Keeps D1 D2 []) : YtbahngfpadjbhaaGreatDoor.dc.Keeps D D2 G := h1.trans h2
theorem Keeps_head {D D2 r : YtbahngfpadjbhaaGreatDoor.dc.Bk} {g g' : Nat} {s s' : Array Value} {td td' : TypeId} (h1 : YtbahngfpadjbhaaGreatDoor.dc.Keeps D ((g, .cells s td (0, 0)) :: r) G) (h2 : YtbahngfpadjbhaaGreatDoor.dc.Keeps ((g', .cells s' td' (0, 0)) :: r) D2 []) (he : s'[1]? = s[1]?) : YtbahngfpadjbhaaGreatDoor.dc.Keeps D D2 G := Keeps_nil (h1.then_head he) h2
theorem Keeps_two {D D1 : YtbahngfpadjbhaaGreatDoor.dc.Bk} (h1 : YtbahngfpadjbhaaGreatDoor.dc.Keeps D D1 G) : YtbahngfpadjbhaaGreatDoor.dc.Keeps D D1 (x :: y :: G) := Keeps_more h1 [x, y]
theorem KeepsE_two {eb eb' : Value} {E E' : YtbahngfpadjbhaaGreatDoor.dc.Bk} (h1 : KeepsE eb E eb' E' G) : KeepsE eb E eb' E' (x :: y :: G) := h1.more [x, y]
theorem HH.errIn (H : HH B wb w (y :: (x :: (mb ++ (mr ++ L0))))) : HH B wb w ((x :: (mb ++ mr)) ++ (y :: L0)) :=
 (H.cast (L' := y :: ((x :: (mb ++ mr)) ++ L0)) (by simp only [List.cons_append, List.append_assoc])).perm List.perm_middle.symm
end
open YtbahngfpadjbhaaGreatDoor.dc in
def DecO (T : Ty) (wb : World) (X : List Int) (p v : Nat) (cm : Bool) (M : Nat) (rd : Value) (A : Option Addr) (l : List Int) (c r0 : Nat) (mb mr : Bk) : Prop :=
 Buf T.te A l c cm mb ∧ Rdr T.tr T.ti wb rd cm (X.drop v) M mr ∧ r0 + v = l.length ∧ v ≤ X.length ∧ l.drop r0 = X.take v ∧ r0 + X.length ≤ 1000000 ∧ p ≤ X.length
def tk (p : Nat → Bool) (h : Nat → Nat) : List Int → List Int × Nat
 | [] => ([], 0)
 | [c] => if c = 92 then ([c], 1) else if p c.toNat then ([c], 1) else ([], 0)
 | c :: d :: l =>
  if c = 92 then (if h d.toNat = 0 then (c :: (tk p h (d :: l)).1, (tk p h (d :: l)).2 + 1) else ((h d.toNat : Int) :: (tk p h l).1, (tk p h l).2 + 2))
  else if p c.toNat then (c :: (tk p h (d :: l)).1, (tk p h (d :: l)).2 + 1) else ([], 0)
section
variable {p : Nat → Bool} {h : Nat → Nat} {X : List Int} {q : Nat}
theorem tk_1 (c : Int) : tk p h [c] = if c = 92 then ([c], 1) else if p c.toNat then ([c], 1) else ([], 0) := by rw [tk]
theorem tk_2 (c d : Int) (l : List Int) : tk p h (c :: d :: l) = if c = 92 then (if h d.toNat = 0 then (c :: (tk p h (d :: l)).1, (tk p h (d :: l)).2 + 1) else ((h d.toNat : Int) :: (tk p h l).1, (tk p h l).2 + 2))
  else if p c.toNat then (c :: (tk p h (d :: l)).1, (tk p h (d :: l)).2 + 1) else ([], 0) := by rw [tk]
theorem drop_at (hq : q < X.length) : X.drop q = X.getD q 0 :: X.drop (q + 1) := by
 rw [List.getD_eq_getElem?_getD, List.getElem?_eq_getElem hq]
 exact List.drop_eq_getElem_cons hq
theorem tk_nil (hq : X.length ≤ q) : tk p h (X.drop q) = ([], 0) := by rw [List.drop_eq_nil_of_le hq]; rfl
theorem tk_ord (hq : q < X.length) (hc : X.getD q 0 ≠ 92) (hp : p (X.getD q 0).toNat = true) : tk p h (X.drop q) = (X.getD q 0 :: (tk p h (X.drop (q + 1))).1, (tk p h (X.drop (q + 1))).2 + 1) := by
 rw [drop_at hq]
 by_cases h1 : q + 1 < X.length
 ·
  rw [drop_at h1, tk_2, if_neg hc, if_pos hp]
 ·
  rw [List.drop_eq_nil_of_le (by omega : X.length ≤ q + 1)]; rw [tk_1, if_neg hc, if_pos hp]; rfl
theorem tk_stop (hq : q < X.length) (hc : X.getD q 0 ≠ 92) (hp : p (X.getD q 0).toNat = false) : tk p h (X.drop q) = ([], 0) := by
 rw [drop_at hq]
 by_cases h1 : q + 1 < X.length
 ·
  rw [drop_at h1, tk_2, if_neg hc, if_neg (by rw [hp]; decide)]
 ·
  rw [List.drop_eq_nil_of_le (by omega : X.length ≤ q + 1)]; rw [tk_1, if_neg hc, if_neg (by rw [hp]; decide)]
theorem tk_last (hq : q + 1 = X.length) (hc : X.getD q 0 = 92) : tk p h (X.drop q) = ([92], 1) := by
 rw [drop_at (by omega), List.drop_eq_nil_of_le (by omega : X.length ≤ q + 1), hc]; rfl
theorem tk_bs (hq : q + 1 < X.length) (hc : X.getD q 0 = 92) (hh : h (X.getD (q + 1) 0).toNat = 0) : tk p h (X.drop q) = (92 :: (tk p h (X.drop (q + 1))).1, (tk p h (X.drop (q + 1))).2 + 1) := by
 rw [drop_at (by omega), drop_at hq, hc, tk_2, if_pos rfl, if_pos hh]
theorem tk_esc (hq : q + 1 < X.length) (hc : X.getD q 0 = 92) (hh : h (X.getD (q + 1) 0).toNat ≠ 0) : tk p h (X.drop q) = ((h (X.getD (q + 1) 0).toNat : Int) :: (tk p h (X.drop (q + 2))).1, (tk p h (X.drop (q + 2))).2 + 2) := by
 rw [drop_at (by omega), drop_at hq, hc, tk_2, if_pos rfl, if_neg hh]
theorem cut_succ {se : Nat} (hs : se ≤ q) (hq : q < X.length) : (X.take (q + 1)).drop se = (X.take q).drop se ++ [X.getD q 0] := by
 rw [List.take_add_one, get_some 0 hq, List.drop_append_of_le_length (by rw [List.length_take]; omega)]
 rfl
def TkI (p : Nat → Bool) (h : Nat → Nat) (sk : Bool) (X : List Int) (p0 q se : Nat) (xs : List Int) : Prop :=
 p0 ≤ se ∧ se ≤ q ∧ q ≤ X.length ∧ (tk p h (X.drop p0)).2 = (q - p0) + (tk p h (X.drop q)).2 ∧ (xs = [] → se = p0) ∧ (sk = true → xs = []) ∧ (sk = false → (tk p h (X.drop p0)).1 = xs ++ ((X.take q).drop se ++ (tk p h (X.drop q)).1))
def TkE (p : Nat → Bool) (h : Nat → Nat) (sk : Bool) (X : List Int) (p0 q se : Nat) (xs : List Int) : Prop :=
 p0 ≤ se ∧ se ≤ q ∧ q ≤ X.length ∧ (tk p h (X.drop p0)).2 = q - p0 ∧ (xs = [] → se = p0) ∧ (sk = true → xs = []) ∧ (sk = false → (tk p h (X.drop p0)).1 = xs ++ (X.take q).drop se)
theorem TkI.start {sk : Bool} {p0 : Nat} (h0 : p0 ≤ X.length) : TkI p h sk X p0 p0 p0 [] := by
 refine ⟨Nat.le_refl _, Nat.le_refl _, h0, by omega, fun _ => rfl, fun _ => rfl, fun _ => ?_⟩
 rw [List.drop_eq_nil_of_le (by rw [List.length_take]; omega : (X.take p0).length ≤ p0)]
 rfl
theorem TkI.ord {sk : Bool} {p0 se : Nat} {xs : List Int} (I : TkI p h sk X p0 q se xs) (hq : q < X.length) (hc : X.getD q 0 ≠ 92) (hp : p (X.getD q 0).toNat = true) : TkI p h sk X p0 (q + 1) se xs := by
 obtain ⟨h1, h2, h3, h4, h5, h6, h7⟩ := I
 rw [tk_ord hq hc hp] at h4
 refine ⟨h1, by omega, by omega, by simp only at h4; omega, h5, h6, fun hs => ?_⟩
 rw [h7 hs, tk_ord hq hc hp, cut_succ h2 hq]
 simp
theorem TkI.bs {sk : Bool} {p0 se : Nat} {xs : List Int} (I : TkI p h sk X p0 q se xs) (hq : q + 1 < X.length) (hc : X.getD q 0 = 92) (hh : h (X.getD (q + 1) 0).toNat = 0) : TkI p h sk X p0 (q + 1) se xs := by
 obtain ⟨h1, h2, h3, h4, h5, h6, h7⟩ := I
 rw [tk_bs hq hc hh] at h4
 refine ⟨h1, by omega, by omega, by simp only at h4; omega, h5, h6, fun hs => ?_⟩
 rw [h7 hs, tk_bs hq hc hh, cut_succ h2 (by omega), hc]
 simp
theorem TkI.esc {p0 se : Nat} {xs : List Int} (I : TkI p h false X p0 q se xs) (hq : q + 1 < X.length) (hc : X.getD q 0 = 92) (hh : h (X.getD (q + 1) 0).toNat ≠ 0) : TkI p h false X p0 (q + 2) (q + 2) (xs ++ ((X.take q).drop se ++ [(h (X.getD (q + 1) 0).toNat : Int)])) := by
 obtain ⟨h1, h2, h3, h4, h5, h6, h7⟩ := I
 rw [tk_esc hq hc hh] at h4
 refine ⟨by omega, Nat.le_refl _, by omega, by simp only at h4; omega, fun e => ?_, (fun e => by cases e), fun hs => ?_⟩
 ·
  have := congrArg List.length e
  simp at this
 ·
  rw [h7 hs, tk_esc hq hc hh, List.drop_eq_nil_of_le (by rw [List.length_take]; omega : (X.take (q + 2)).length ≤ q + 2)]
  simp
theorem TkI.escS {p0 se : Nat} {xs : List Int} (I : TkI p h true X p0 q se xs) (hq : q + 1 < X.length) (hc : X.getD q 0 = 92) (hh : h (X.getD (q + 1) 0).toNat ≠ 0) : TkI p h true X p0 (q + 2) se xs := by
 obtain ⟨h1, h2, h3, h4, h5, h6, h7⟩ := I
 rw [tk_esc hq hc hh] at h4
 exact ⟨h1, by omega, by omega, by simp only at h4; omega, h5, h6, fun hs => by cases hs⟩
theorem TkI.stop {sk : Bool} {p0 se : Nat} {xs : List Int} (I : TkI p h sk X p0 q se xs) (hn : tk p h (X.drop q) = ([], 0)) : TkE p h sk X p0 q se xs := by
 obtain ⟨h1, h2, h3, h4, h5, h6, h7⟩ := I
 rw [hn] at h4
 exact ⟨h1, h2, h3, by simpa using h4, h5, h6, fun hs => by rw [h7 hs, hn]; simp⟩
theorem TkI.last {sk : Bool} {p0 se : Nat} {xs : List Int} (I : TkI p h sk X p0 q se xs) (hq : q + 1 = X.length) (hc : X.getD q 0 = 92) : TkE p h sk X p0 X.length se xs := by
 obtain ⟨h1, h2, h3, h4, h5, h6, h7⟩ := I
 rw [tk_last hq hc] at h4
 refine ⟨h1, by omega, Nat.le_refl _, by simp only at h4; omega, h5, h6, fun hs => ?_⟩
 rw [h7 hs, tk_last hq hc, ← hq, cut_succ h2 (by omega), hc]
end
def tx (p : Nat → Bool) (h : Nat → Nat) (sk : Bool) (X : List Int) (p0 : Nat) : List Int := if sk then (X.drop p0).take (tk p h (X.drop p0)).2 else (tk p h (X.drop p0)).1
theorem ints_nums {l : List Int} (h : ∀ x ∈ l, 0 ≤ x ∧ x < 256) : ints (strOfNums l) = l := by
 unfold ints strOfNums
 simp only [List.map_map]
 conv => rhs; rw [← List.map_id l]
 refine List.map_congr_left (fun x hx => ?_)
 have := h x hx
 simp only [Function.comp, id_eq, UInt8.toNat_ofNat']
 omega
theorem byte_nat {X : List Int} (h : ∀ x ∈ X, 0 ≤ x ∧ x < 256) {i : Nat} (hi : i < X.length) : ∃ b : Nat, X.getD i 0 = (b : Int) ∧ b < 256 := by
 have hm : X.getD i 0 ∈ X := by
  rw [List.getD_eq_getElem?_getD, List.getElem?_eq_getElem hi]
  exact List.getElem_mem hi
 have := h _ hm
 exact ⟨(X.getD i 0).toNat, by omega, by omega⟩
theorem tk_le (p : Nat → Bool) (h : Nat → Nat) : ∀ l : List Int, (tk p h l).1.length ≤ l.length ∧ (tk p h l).2 ≤ l.length
 | [] => by simp [tk]
 | [c] => by rw [tk_1]; split <;> (try split) <;> simp
 | c :: d :: l => by
  have h1 := tk_le p h (d :: l)
  have h2 := tk_le p h l
  rw [tk_2]
  simp only [List.length_cons] at h1 ⊢
  split
  ·
   split
   ·
    simp only [List.length_cons]; omega
   ·
    simp only [List.length_cons]; omega
  ·
   split
   ·
    simp only [List.length_cons]; omega
   ·
    simp
theorem tk_by {p : Nat → Bool} {h : Nat → Nat} (hh : ∀ j, h j < 256) : ∀ l : List Int, (∀ x ∈ l, 0 ≤ x ∧ x < 256) → ∀ x ∈ (tk p h l).1, 0 ≤ x ∧ x < 256
 | [], _ => by simp [tk]
 | [c], hl => by
  rw [tk_1]
  split
  ·
   exact hl
  ·
   split
   ·
    exact hl
   ·
    simp
 | c :: d :: l, hl => by
  have h1 := tk_by (p := p) hh (d :: l) (fun x hx => hl x (List.mem_cons_of_mem _ hx))
  have h2 := tk_by (p := p) hh l (fun x hx => hl x (List.mem_cons_of_mem _ (List.mem_cons_of_mem _ hx)))
  have h0 := hl c List.mem_cons_self
  rw [tk_2]
  split
  ·
   split
   ·
    intro x hx
    rcases List.mem_cons.1 hx with rfl | hx
    ·
     exact h0
    ·
     exact h1 x hx
   ·
    intro x hx
    rcases List.mem_cons.1 hx with rfl | hx
    ·
     have := hh d.toNat; omega
    ·
     exact h2 x hx
  ·
   split
   ·
    intro x hx
    rcases List.mem_cons.1 hx with rfl | hx
    ·
     exact h0
    ·
     exact h1 x hx
   ·
    simp
theorem drop_by {X : List Int} (h : ∀ x ∈ X, 0 ≤ x ∧ x < 256) (m : Nat) : ∀ x ∈ X.drop m, 0 ≤ x ∧ x < 256 := fun x hx => h x (List.mem_of_mem_drop hx)
theorem cut_by {X : List Int} (h : ∀ x ∈ X, 0 ≤ x ∧ x < 256) (k m : Nat) : ∀ x ∈ (X.take k).drop m, 0 ≤ x ∧ x < 256 := fun x hx => h x (List.mem_of_mem_take (List.mem_of_mem_drop hx))
theorem cut_len {X : List Int} {k m : Nat} (hk : k ≤ X.length) : ((X.take k).drop m).length = k - m := by rw [List.length_drop, List.length_take, Nat.min_eq_left hk]
section
variable {p : Nat → Bool} {h : Nat → Nat} {X : List Int} {q p0 se : Nat} {xs : List Int} {sk : Bool}
theorem TkI.xs_le (I : TkI p h sk X p0 q se xs) : xs.length ≤ X.length := by
 obtain ⟨h1, h2, h3, h4, h5, h6, h7⟩ := I
 cases sk with
 | true => rw [h6 rfl]; exact Nat.zero_le _
 | false =>
  have := congrArg List.length (h7 rfl)
  have h8 := (tk_le p h (X.drop p0)).1
  rw [List.length_append] at this
  rw [List.length_drop] at h8
  omega
theorem TkE.xs_le (I : TkE p h sk X p0 q se xs) : xs.length ≤ X.length := by
 obtain ⟨h1, h2, h3, h4, h5, h6, h7⟩ := I
 cases sk with
 | true => rw [h6 rfl]; exact Nat.zero_le _
 | false =>
  have := congrArg List.length (h7 rfl)
  have h8 := (tk_le p h (X.drop p0)).1
  rw [List.length_append] at this
  rw [List.length_drop] at h8
  omega
theorem TkE.n (I : TkE p h sk X p0 q se xs) : p0 + (tk p h (X.drop p0)).2 = q := by have := I.1; have := I.2.1; have := I.2.2.2.1; omega
theorem TkE.raw (I : TkE p h sk X p0 q se xs) (hx : xs = []) : tx p h sk X p0 = (X.take q).drop p0 := by
 obtain ⟨h1, h2, h3, h4, h5, h6, h7⟩ := I
 unfold tx
 cases sk with
 | true => rw [if_pos rfl, h4, List.drop_take]
 | false => rw [if_neg (by decide), h7 rfl, hx, h5 hx]; rfl
theorem TkE.esc (I : TkE p h sk X p0 q se xs) (hx : xs ≠ []) : tx p h sk X p0 = xs ++ (X.take q).drop se := by
 obtain ⟨h1, h2, h3, h4, h5, h6, h7⟩ := I
 unfold tx
 cases sk with
 | true => exact absurd (h6 rfl) hx
 | false => rw [if_neg (by decide), h7 rfl]
end
theorem tx_by {p : Nat → Bool} {h : Nat → Nat} {X : List Int} {p0 : Nat} {sk : Bool} (hX : ∀ x ∈ X, 0 ≤ x ∧ x < 256) (hh : ∀ j, h j < 256) : ∀ x ∈ tx p h sk X p0, 0 ≤ x ∧ x < 256 := by
 unfold tx
 split
 ·
  exact fun x hx => hX x (List.mem_of_mem_drop (List.mem_of_mem_take hx))
 ·
  exact tk_by hh _ (drop_by hX p0)
open YtbahngfpadjbhaaGreatDoor.dc in
def HeldT (D E : Bk) (eb : Value) (A : Option Addr) (t : List Int) : Prop := t = [] ∨ ∃ gt ot, A = some ⟨gt, ot, none⟩ ∧ (Vis D gt ot t ∨ VisE eb E gt ot t)
open YtbahngfpadjbhaaGreatDoor.dc in
theorem HeldT.keeps {D D' E : Bk} {eb : Value} {A : Option Addr} {t : List Int} (h : HeldT D E eb A t) (hk : Keeps D D' []) : HeldT D' E eb A t := by
 rcases h with h | ⟨gt, ot, h1, h2 | h2⟩
 ·
  exact .inl h
 ·
  rcases hk gt ot t h2 with h3 | ⟨cs, te, f, h3, _⟩
  ·
   exact .inr ⟨gt, ot, h1, .inl h3⟩
  ·
   cases h3
 ·
  exact .inr ⟨gt, ot, h1, .inr h2⟩
open YtbahngfpadjbhaaGreatDoor.dc in
theorem held_raw {g : Nat} {c0 c2 c3 c4 c5 c6 c7 c8 c9 : Value} {A : Option Addr} {l X : List Int} {c r0 v p0 q : Nat} {cm : Bool} {mb mr E : Bk} {te td : TypeId} {eb : Value} (hbuf : Buf te A l c cm mb) (hr0 : r0 + v = l.length) (hdr : l.drop r0 = X.take v) (hvX : v ≤ X.length) (hq : q ≤ v) :
  HeldT ((g, .cells #[c0, .slice A l.length c, c2, c3, c4, c5, c6, c7, c8, c9] td (0, 0)) :: (mb ++ mr)) E eb (cutAt A c (r0 + p0) 1) ((X.take q).drop p0) := by
 by_cases hp : q ≤ p0
 ·
  exact .inl (List.drop_eq_nil_of_le (by rw [List.length_take]; omega))
 ·
  obtain ⟨gb, cs, f, rfl, hcs, rfl, _, hrow⟩ := hbuf.ex (by omega)
  have hc := hbuf.1
  refine .inr ⟨gb, r0 + p0, ?_, .inl (vis_mk rfl ?_ ?_)⟩
  ·
   rw [cutAt_off, show offAt 0 c (r0 + p0) = 0 + (r0 + p0) from if_neg (by omega), Nat.zero_add]
  ·
   rw [cut_len (by omega)]; omega
  ·
   rw [← seg_eq p0 hdr hq]
   intro i x hi
   rw [List.getElem?_drop] at hi
   have hlt := (List.getElem?_eq_some_iff.1 hi).1
   rw [List.length_take] at hlt
   rw [List.getElem?_take_of_lt (by omega)] at hi
   exact hrow _ x hi
open YtbahngfpadjbhaaGreatDoor.dc in
theorem held_esc {D E : Bk} {A : Option Addr} {c : Nat} {ys el xs : List Int} {te : TypeId} (h : OwnB te (.slice A ys.length c) ys E) (hy : ys = el ++ xs) : HeldT D E (.slice A ys.length c) (cutAt A c el.length 1) xs := by
 by_cases hx : xs = []
 ·
  exact .inl hx
 ·
  have hl : 0 < xs.length := List.length_pos_iff.2 hx
  have hyl : ys.length = el.length + xs.length := by rw [hy, List.length_append]
  obtain ⟨hn, ⟨hv, h0, _⟩ | ⟨g, cs, c', f, hv, hc, hcs, rfl, _, hr⟩⟩ := h
  ·
   omega
  ·
   injection hv with h1 _ h3
   subst h1 h3
   refine .inr ⟨g, el.length, ?_, .inr ⟨_, _, cs, te, f, rfl, rfl, by omega, ?_⟩⟩
   ·
    rw [cutAt_off, show offAt 0 c el.length = 0 + el.length from if_neg (by omega), Nat.zero_add]
   ·
    intro i x hi
    have hi' := (List.getElem?_eq_some_iff.1 hi).1
    rw [hr _ (by simp; omega), List.getElem?_map, hy, List.getElem?_append_right (by omega), show el.length + i - el.length = i by omega, hi]
    rfl
def lnT (p : Nat → Bool) (X : List Int) (p0 q line : Nat) : Nat := line + if p 10 then cnt 10 ((X.take q).drop p0) else 0
def FaultT (t : List Int) (err : Value) (sec sec' : Int) (ln : Int) (X : List Int) (p0 q : Nat) (td ti es : TypeId) (B : Nat) (G : YtbahngfpadjbhaaGreatDoor.dc.Bk) : Prop :=
 (YtbahngfpadjbhaaGreatDoor.up.V (strOfNums t) 0 = true ∧ err = .nilIface ∧ sec' = sec) ∨ (YtbahngfpadjbhaaGreatDoor.up.V (strOfNums t) 0 = false ∧ sec' = (if sec = 5 then 5 else 4) ∧ ∃ (gf gn : Nat), err = .iface ti (.pointer (some ⟨gf, 0, none⟩)) ∧ B ≤ gn ∧
  (gf, Obj.cells #[.int .i64 (ln - (cnt 10 ((X.take q).drop p0) : Int)), .int .i64 ((p0 - lastp 10 (X.take p0) p0 + 1 : Nat) : Int), .iface es (.pointer (some ⟨gn, 0, none⟩))] td (0, 0)) ∈ G ∧ ∃ v0 ty0, (gn, Obj.cells #[v0] ty0 (0, 0)) ∈ G)
theorem tabs_of {g3 g4 : Nat} {W w : World} {L : List (Nat × Obj)} {B : Nat} (h : Lib.Utf8Tabs g3 g4 W) (H : HH B W w L) (hB : B = W.heap.size) : Lib.Utf8Tabs g3 g4 w := by
 subst hB
 exact ⟨fun c hc => (H.old (cell_lt (h.1 c hc))).trans (h.1 c hc), fun i hi => ⟨(H.old (cell_lt (h.2 i hi).1)).trans (h.2 i hi).1, (H.old (cell_lt (h.2 i hi).2)).trans (h.2 i hi).2⟩⟩
end Go.Proofs.HHW
end
section
namespace Go.Proofs.YtbahngfpadjbhaaGreatDoor.fx
open Go.RowKit Go.Proofs.HHW Go.Proofs.YtbahngfpadjbhaaGreatDoorW.PrintWords
theorem ag23 : aggB Tryz.prog 23 = some false := by kernel_rfl
theorem ag3 : aggB Tryz.prog 3 = some false := by kernel_rfl
theorem ag4 : aggB Tryz.prog 4 = some false := by kernel_rfl
theorem ag5 : aggB Tryz.prog 5 = some false := by kernel_rfl
theorem ag51 : aggB Tryz.prog 51 = some false := by kernel_rfl
theorem ag9 : aggB Tryz.prog 9 = some false := by kernel_rfl
theorem fa58_1 (w : World) (g o : Nat) : (Instr.fieldAt 58 (.pointer (some ⟨g, o, none⟩)) 1).run Tryz.prog w = .ok (.pointer (some ⟨g, o + 1, none⟩)) w := by kernel_rfl
theorem fa58_3 (w : World) (g o : Nat) : (Instr.fieldAt 58 (.pointer (some ⟨g, o, none⟩)) 3).run Tryz.prog w = .ok (.pointer (some ⟨g, o + 3, none⟩)) w := by kernel_rfl
theorem sz3 : szB Tryz.prog 3 = some 1 := by kernel_rfl
theorem sz5 : szB Tryz.prog 5 = some 1 := by kernel_rfl
theorem sz9 : szB Tryz.prog 9 = some 1 := by kernel_rfl
theorem ag2 : aggB Tryz.prog 2 = some false := by kernel_rfl
theorem ag54 : aggB Tryz.prog 54 = some false := by kernel_rfl
theorem fa58_2 (w : World) (g o : Nat) : (Instr.fieldAt 58 (.pointer (some ⟨g, o, none⟩)) 2).run Tryz.prog w = .ok (.pointer (some ⟨g, o + 2, none⟩)) w := by kernel_rfl
theorem fa58_5 (w : World) (g o : Nat) : (Instr.fieldAt 58 (.pointer (some ⟨g, o, none⟩)) 5).run Tryz.prog w = .ok (.pointer (some ⟨g, o + 5, none⟩)) w := by kernel_rfl
theorem fa58_8 (w : World) (g o : Nat) : (Instr.fieldAt 58 (.pointer (some ⟨g, o, none⟩)) 8).run Tryz.prog w = .ok (.pointer (some ⟨g, o + 8, none⟩)) w := by kernel_rfl
theorem sz54 : szB Tryz.prog 54 = some 1 := by kernel_rfl
theorem sz4 : szB Tryz.prog 4 = some 1 := by kernel_rfl
theorem mi51 : Tryz.prog.underlying 51 = some (.interface (Tryz.prog.methodsAt 51)) := by kernel_rfl
theorem fa58_4 (w : World) (g o : Nat) : (Instr.fieldAt 58 (.pointer (some ⟨g, o, none⟩)) 4).run Tryz.prog w = .ok (.pointer (some ⟨g, o + 4, none⟩)) w := by kernel_rfl
theorem sz23 : szB Tryz.prog 23 = some 1 := by kernel_rfl
theorem in5 : (Tryz.prog.info? 5).map (fun i => (i.zero, i.size, i.bytes)) = some (some (.int .u8 0), 1, 1) := by kernel_rfl
theorem sz2 : szB Tryz.prog 2 = some 1 := by kernel_rfl
theorem fa58_6 (w : World) (g o : Nat) : (Instr.fieldAt 58 (.pointer (some ⟨g, o, none⟩)) 6).run Tryz.prog w = .ok (.pointer (some ⟨g, o + 6, none⟩)) w := by kernel_rfl
theorem fa58_7 (w : World) (g o : Nat) : (Instr.fieldAt 58 (.pointer (some ⟨g, o, none⟩)) 7).run Tryz.prog w = .ok (.pointer (some ⟨g, o + 7, none⟩)) w := by kernel_rfl
theorem zv5 : zvB Tryz.prog 5 = some (.int .u8 0) := by kernel_rfl
theorem fa96_1 (w : World) (g o : Nat) : (Instr.fieldAt 96 (.pointer (some ⟨g, o, none⟩)) 1).run Tryz.prog w = .ok (.pointer (some ⟨g, o + 256, none⟩)) w := by kernel_rfl
theorem ag38 : aggB Tryz.prog 38 = some true := by kernel_rfl
theorem sz38 : szB Tryz.prog 38 = some 4 := by kernel_rfl
theorem zv38 : zvB Tryz.prog 38 = some (.agg #[.bool false, .int .i64 0, .int .i64 0, .bool false]) := by kernel_rfl
theorem ag35 : aggB Tryz.prog 35 = some false := by kernel_rfl
theorem ag36 : aggB Tryz.prog 36 = some false := by kernel_rfl
theorem ag40 : aggB Tryz.prog 40 = some true := by kernel_rfl
theorem fa40_1 (w : World) (g o : Nat) : (Instr.fieldAt 40 (.pointer (some ⟨g, o, none⟩)) 1).run Tryz.prog w = .ok (.pointer (some ⟨g, o + 1, none⟩)) w := by kernel_rfl
theorem fa40_2 (w : World) (g o : Nat) : (Instr.fieldAt 40 (.pointer (some ⟨g, o, none⟩)) 2).run Tryz.prog w = .ok (.pointer (some ⟨g, o + 2, none⟩)) w := by kernel_rfl
theorem fa40_3 (w : World) (g o : Nat) : (Instr.fieldAt 40 (.pointer (some ⟨g, o, none⟩)) 3).run Tryz.prog w = .ok (.pointer (some ⟨g, o + 3, none⟩)) w := by kernel_rfl
theorem fa40_4 (w : World) (g o : Nat) : (Instr.fieldAt 40 (.pointer (some ⟨g, o, none⟩)) 4).run Tryz.prog w = .ok (.pointer (some ⟨g, o + 4, none⟩)) w := by kernel_rfl
theorem fa40_5 (w : World) (g o : Nat) : (Instr.fieldAt 40 (.pointer (some ⟨g, o, none⟩)) 5).run Tryz.prog w = .ok (.pointer (some ⟨g, o + 5, none⟩)) w := by kernel_rfl
theorem fa40_6 (w : World) (g o : Nat) : (Instr.fieldAt 40 (.pointer (some ⟨g, o, none⟩)) 6).run Tryz.prog w = .ok (.pointer (some ⟨g, o + 9, none⟩)) w := by kernel_rfl
theorem sz35 : szB Tryz.prog 35 = some 1 := by kernel_rfl
theorem sz36 : szB Tryz.prog 36 = some 1 := by kernel_rfl
theorem sz40 : szB Tryz.prog 40 = some 10 := by kernel_rfl
theorem zv40 : zvB Tryz.prog 40 = some (.agg #[.string ⟨#[]⟩, .slice none 0 0, .slice none 0 0, .string ⟨#[]⟩, .bool false, .bool false, .int .i64 0, .int .i64 0, .bool false, .int .i64 0]) := by kernel_rfl
theorem in66 : (Tryz.prog.info? 66).map (fun i => (i.zero, i.size, i.bytes)) = some (some (.agg #[.string ⟨#[]⟩, .string ⟨#[]⟩]), 2, 32) := by kernel_rfl
theorem in71 : (Tryz.prog.info? 71).map (fun i => (i.zero, i.size, i.bytes)) = some (some (.agg #[.string ⟨#[]⟩, .int .i64 0, .string ⟨#[]⟩]), 3, 40) := by kernel_rfl
theorem bld66_0_1 (x0_0 : ByteArray) (x1_0 : ByteArray) : Tryz.prog.built 66 [(0, (.string x0_0)), (1, (.string x1_0))] = some #[.string x0_0, .string x1_0] := by kernel_rfl
theorem litP (w : World) (x y : ByteArray) : (Instr.buildSlice 35 1 #[(0, .agg #[.string x, .string y])]).run Tryz.prog w = .ok (.slice (some ⟨w.heap.size, 0, none⟩) 1 1) (w.alloc (.cells #[.string x, .string y] 66 (0, 0))) := by kernel_rfl
theorem litFd (w : World) (x : ByteArray) (n : Int) (y : ByteArray) : (Instr.buildSlice 36 1 #[(0, .agg #[.string x, .int .i64 n, .string y])]).run Tryz.prog w = .ok (.slice (some ⟨w.heap.size, 0, none⟩) 1 1) (w.alloc (.cells #[.string x, .int .i64 n, .string y] 71 (0, 0))) := by kernel_rfl
theorem in40 : (Tryz.prog.info? 40).map (fun i => (i.zero, i.size, i.bytes)) = some (some (.agg #[.string ⟨#[]⟩, .slice none 0 0, .slice none 0 0, .string ⟨#[]⟩, .bool false, .bool false, .int .i64 0, .int .i64 0, .bool false, .int .i64 0]), 10, 128) := by kernel_rfl
theorem ag66 : aggB Tryz.prog 66 = some true := by kernel_rfl
theorem ag71 : aggB Tryz.prog 71 = some true := by kernel_rfl
theorem fa38_0 (w : World) (g o : Nat) : (Instr.fieldAt 38 (.pointer (some ⟨g, o, none⟩)) 0).run Tryz.prog w = .ok (.pointer (some ⟨g, o + 0, none⟩)) w := by kernel_rfl
theorem fa40_0 (w : World) (g o : Nat) : (Instr.fieldAt 40 (.pointer (some ⟨g, o, none⟩)) 0).run Tryz.prog w = .ok (.pointer (some ⟨g, o + 0, none⟩)) w := by kernel_rfl
theorem sz66 : szB Tryz.prog 66 = some 2 := by kernel_rfl
theorem sz71 : szB Tryz.prog 71 = some 3 := by kernel_rfl
theorem zv66 : zvB Tryz.prog 66 = some (.agg #[.string ⟨#[]⟩, .string ⟨#[]⟩]) := by kernel_rfl
theorem zv71 : zvB Tryz.prog 71 = some (.agg #[.string ⟨#[]⟩, .int .i64 0, .string ⟨#[]⟩]) := by kernel_rfl
theorem fa73_0 (w : World) (g o : Nat) : (Instr.fieldAt 73 (.pointer (some ⟨g, o, none⟩)) 0).run Tryz.prog w = .ok (.pointer (some ⟨g, o + 0, none⟩)) w := by kernel_rfl
theorem fa73_1 (w : World) (g o : Nat) : (Instr.fieldAt 73 (.pointer (some ⟨g, o, none⟩)) 1).run Tryz.prog w = .ok (.pointer (some ⟨g, o + 1, none⟩)) w := by kernel_rfl
theorem fa73_3 (w : World) (g o : Nat) : (Instr.fieldAt 73 (.pointer (some ⟨g, o, none⟩)) 3).run Tryz.prog w = .ok (.pointer (some ⟨g, o + 3, none⟩)) w := by kernel_rfl
theorem fa73_2 (w : World) (g o : Nat) : (Instr.fieldAt 73 (.pointer (some ⟨g, o, none⟩)) 2).run Tryz.prog w = .ok (.pointer (some ⟨g, o + 2, none⟩)) w := by kernel_rfl
end Go.Proofs.YtbahngfpadjbhaaGreatDoor.fx
end
section
namespace Go.Proofs.YtbahngfpadjbhaaGreatDoor.dec
open Go.Proofs.YtbahngfpadjbhaaGreatDoor.fx
open Go.RowKit Go.Proofs.HHW Go.Proofs.YtbahngfpadjbhaaGreatDoorW.PrintWords
abbrev TY : dc.Ty := ⟨58, 84, 48, 5⟩
theorem ag30 : aggB Tryz.prog 30 = some false := by kernel_rfl
theorem fa84_0 (w : World) (g o : Nat) : (Instr.fieldAt 84 (.pointer (some ⟨g, o, none⟩)) 0).run Tryz.prog w = .ok (.pointer (some ⟨g, o + 0, none⟩)) w := by kernel_rfl
theorem fa84_1 (w : World) (g o : Nat) : (Instr.fieldAt 84 (.pointer (some ⟨g, o, none⟩)) 1).run Tryz.prog w = .ok (.pointer (some ⟨g, o + 1, none⟩)) w := by kernel_rfl
theorem fa84_2 (w : World) (g o : Nat) : (Instr.fieldAt 84 (.pointer (some ⟨g, o, none⟩)) 2).run Tryz.prog w = .ok (.pointer (some ⟨g, o + 2, none⟩)) w := by kernel_rfl
theorem fa84_3 (w : World) (g o : Nat) : (Instr.fieldAt 84 (.pointer (some ⟨g, o, none⟩)) 3).run Tryz.prog w = .ok (.pointer (some ⟨g, o + 3, none⟩)) w := by kernel_rfl
theorem at_ (wb w0 : World) (D L0 : dc.Bk) (g : Nat) (X : List Int) (p v : Nat) (cm : Bool) (M : Nat) (sec : Int) (sk : Bool) (eb : Value) (line : Nat) (er : Value) (hD : dc.Dec TY wb g X p v cm M sec sk eb line er D) (H : HH wb.heap.size wb w0 (D ++ L0)) (i : Nat) (hi : i ≤ 1000000) : Calls Tryz.prog 39 #[.pointer (some ⟨g, 0, none⟩), .int .i64 (i : Int)] w0 fun e w' => e = .returned (.int .u8 (if p + i < v then X.getD (p + i) 0 else 0)) ∧ HH wb.heap.size wb w' (D ++ L0) := by
 obtain ⟨rd, A, l, c, r0, mb, mr, rfl, hbuf, hrd, hr0, hvX, hdr, hsz, hpX⟩ := hD
 replace H := dc.open_.1 H
 refine c_enter (args := [.pointer (some ⟨g, 0, none⟩), .int .i64 (i : Int)]) (k := 27) Tryz.func39 rfl rfl rfl ?_
 refine pS (pG (pM 1 rfl (pL (pT (pS (pS ?_))))));intro a S
 refine d_start (id := 1) [] 12 (bA 12 0) H rfl rfl rfl (fun w H => ?_)
 revert a;refine qM [0,1,4,6,7] rfl (qA 2 fa58_3 rfl rfl rfl rfl (qE 3 H rfl rfl rfl m0 rfl ag3 rfl (qP 5 rfl (p_add rfl rfl (nat_add (x := (r0 + p)) (y := i) (by omega))) rfl (qA 8 fa58_1 rfl rfl rfl rfl (qE 9 H rfl rfl rfl m0 rfl ag23 rfl (qP 10 rfl (p_len Tryz.underlying23 rfl) rfl (qP 11 rfl (p_lss rfl rfl) rfl (qD (pT (zc rfl (fun bc2 => ?_) (fun bc2 => ?_)))))))))))
 ·
  have c2 := of_decide_eq_true bc2
  obtain ⟨gb, cs, f, rfl, hcs, rfl, _, hrow⟩ := hbuf.ex (by omega)
  replace H : HH wb.heap.size wb _ ((g, _) :: (gb, .cells cs 5 f) :: (mr ++ L0)) := H
  refine pS ?_;intro a S
  refine d_start (id := 2) [] 13 (bA 13 0) H rfl rfl rfl (fun w H => ?_)
  revert a;refine qM [0,1,4,5,8] rfl (qA 2 fa58_1 rfl rfl rfl rfl (qE 3 H rfl rfl rfl m0 rfl ag23 rfl (qA 6 fa58_3 rfl rfl rfl rfl (qE 7 H rfl rfl rfl m0 rfl ag3 rfl (qP 9 rfl (p_add rfl rfl (nat_add (x := (r0 + p)) (y := i) (by omega))) rfl (qP 10 rfl (p_indexAddr rfl rfl (fun w => ia_slice Tryz.underlying23 sz5 (by omega) (by omega))) rfl (qR 11 H rfl (r_load rfl m1 (row_at hrow (i := r0 + p + i) (by omega) (by omega)) (fun w hc => ld1 ag5 hc)) rfl (qM [12] rfl (qD (pT (pZ (pU ?_))))))))))));intro a S
  exact r_ret1 S rfl rfl ⟨by rw [if_pos (by omega), dc.at_vis hdr hr0 (by omega) hvX], dc.open_.2 H⟩
 have c2 := of_decide_eq_false bc2
 refine pK (pT (pS (pG (pM 1 rfl (pL (pT (pZ ?_)))))));intro a S
 exact r_ret1 S rfl rfl ⟨by rw [if_neg (by omega)], dc.open_.2 H⟩
theorem advance_ (wb w0 : World) (D L0 : dc.Bk) (g : Nat) (X : List Int) (p v : Nat) (cm : Bool) (M : Nat) (sec : Int) (sk : Bool) (eb : Value) (line : Nat) (er : Value) (hD : dc.Dec TY wb g X p v cm M sec sk eb line er D) (H : HH wb.heap.size wb w0 (D ++ L0)) (i : Nat) (hpi : p + i ≤ X.length) : Calls Tryz.prog 42 #[.pointer (some ⟨g, 0, none⟩), .int .i64 (i : Int)] w0 fun e w' => e = .returned (.tuple #[]) ∧ ∃ D', dc.Dec TY wb g X (p + i) v cm M sec sk eb line er D' ∧ HH wb.heap.size wb w' (D' ++ L0) ∧ dc.Keeps D D' [] := by
 obtain ⟨rd, A, l, c, r0, mb, mr, rfl, hbuf, hrd, hr0, hvX, hdr, hsz, hpX⟩ := hD
 replace H := dc.open_.1 H
 refine c_enter (args := [.pointer (some ⟨g, 0, none⟩), .int .i64 (i : Int)]) (k := 10) Tryz.func42 rfl rfl rfl ?_
 refine pG (pM 2 rfl (pA fa58_3 rfl rfl rfl (pD H rfl rfl m0 rfl ag3 rfl (pM 1 rfl (pP (p_add rfl rfl (nat_add (x := (r0 + p)) (y := i) (by omega))) rfl (pM 1 rfl (pA fa58_3 rfl rfl rfl (pE H rfl rfl rfl .here (by first | decide | simp [Value.cells]) sz3 ?_))))))));clear H;intro w H
 refine pL ?_
 have e1 : r0 + p + i = r0 + (p + i) := Nat.add_assoc _ _ _
 rw [e1] at H
 intro a S
 exact r_end0 S rfl ⟨rfl, _, ⟨rd, A, l, c, r0, mb, mr, rfl, hbuf, hrd, hr0, hvX, hdr, hsz, hpi⟩, dc.open_.2 H, dc.Keeps.head rfl⟩
set_option maxHeartbeats 1000000 in
theorem read_ (wb w0 : World) (L0 : dc.Bk) (gr gb : Nat) (s : ByteArray) (Az : Option Addr) (zs : List Int) (cz ap : Nat) (cs : Array Value) (o n : Nat) (ae : Addr) (hE : wb.cell? ⟨1, 0, none⟩ = some (.iface 118 (.pointer (some ae)))) (hlt : 1 < wb.heap.size) (H : HH wb.heap.size wb w0 ((gr, .cells #[.string s, .slice Az zs.length cz, .int .i64 (ap : Int), .bool false] 84 (0, 0)) :: (gb, .cells cs 5 (0, 0)) :: L0)) (hC : (Kd.int .i64).C wb Az zs.length zs) (ho : o + n ≤ cs.size) (hn : n ≤ 1000000000000) (ha : ap ≤ 2000000000000) (hs : s.size ≤ 1000000) : Calls Tryz.prog 126 #[.pointer (some ⟨gr, 0, none⟩), .slice (some ⟨gb, o, none⟩) n n] w0 fun e w' => (s.size = 0 ∧ e = .returned (.tuple #[.int .i64 0, .iface 118 (.pointer (some ae))]) ∧ HH wb.heap.size wb w' ((gr, .cells #[.string s, .slice Az zs.length cz, .int .i64 (ap : Int), .bool false] 84 (0, 0)) :: (gb, .cells cs 5 (0, 0)) :: L0)) ∨ (0 < s.size ∧ e = .returned (.tuple #[.int .i64 (dc.took zs ap s.size n : Int), .nilIface]) ∧ HH wb.heap.size wb w' ((gr, .cells #[.string (s.extract (dc.took zs ap s.size n) s.size), .slice Az zs.length cz, .int .i64 ((if zs = [] then ap else ap + 1 : Nat) : Int), .bool false] 84 (0, 0)) :: (gb, .cells (spl cs o (((ints s).map (Value.int .u8)).take (dc.took zs ap s.size n))) 5 (0, 0)) :: L0)) := by
 refine c_enter (args := [.pointer (some ⟨gr, 0, none⟩), .slice (some ⟨gb, o, none⟩) n n]) (k := 81) Tryz.func126 rfl rfl rfl ?_
 refine pS (pG (pM 2 rfl (pL (pT (pS (pS (pG (pM 2 rfl (pA fa84_0 rfl rfl rfl (pD H rfl rfl m0 rfl ag9 rfl (pP (p_lens Tryz.underlying9 rfl) rfl (pP (p_eql rfl rfl) rfl (pM 1 rfl ?_)))))))))))));intro a S
 refine l_split (S.of 13 rfl) (fun bc2 => ?_) (fun bc2 => ?_)
 ·
  have c2 := eq_of_beq bc2
  revert a;refine pN bc2 (pP (p_move rfl) rfl (pN bc2 (pP (p_nilCheck rfl) rfl (pN bc2 (pA fa84_3 rfl rfl rfl (pN bc2 (pD H rfl rfl m0 rfl ag4 rfl (pP (p_pick_t rfl bc2 rfl) rfl (pL (pT (zf (pK (pT (pS (pS (pG (pM 2 rfl (pA fa84_0 rfl rfl rfl (pD H rfl rfl m0 rfl ag9 rfl (pP (p_lens Tryz.underlying9 rfl) rfl (pP (p_eql rfl rfl) rfl (pL (pT ?_)))))))))))))))))))))));intro a S
  refine c_cond S rfl (fun _ => ?_) (fun h => by rw [(show ((s.size : Int) == 0) = true from beq_iff_eq.2 (by omega))] at h; cases h)
  revert a;refine pS ?_;intro a S
  refine d_start (id := 4) [] 3 (bA 3 0) H rfl rfl rfl (fun w H => ?_)
  revert a;refine qM [1] rfl (qR 0 H rfl (r_loadG rfl hE hlt ag51) rfl (qM [2] rfl (qD (pT (pZ (pU ?_))))));intro a S
  exact r_ret2 S rfl rfl rfl (.inl ⟨by omega, rfl, H⟩)
 have c2 := ne_of_beq_false bc2
 revert a;refine pO bc2 rfl (pO bc2 rfl (pO bc2 rfl (pO bc2 rfl (pP (p_pick_f rfl bc2 rfl) rfl (pL (pT (zf (pK (pT (pS (pS (pG (pM 2 rfl (pA fa84_0 rfl rfl rfl (pD H rfl rfl m0 rfl ag9 rfl (pP (p_lens Tryz.underlying9 rfl) rfl (pP (p_eql rfl rfl) rfl (pL (pT ?_)))))))))))))))))));intro a S
 refine c_cond S rfl (fun h => by rw [(show ((s.size : Int) == 0) = false from beq_eq_false_iff_ne.2 (by omega))] at h; cases h) (fun _ => ?_)
 revert a;refine pK (pT (pS (pG (pM 2 rfl (pA fa84_0 rfl rfl rfl (pD H rfl rfl m0 rfl ag9 rfl (pP (p_lens Tryz.underlying9 rfl) rfl (pM 1 rfl (pL (pT ?_))))))))));intro a S
 refine c_cut (fun a w => ∃ q : Nat, ∃ a1 : Nat, SL a 83 [] [(0, .pointer (some ⟨gr, 0, none⟩)), (1, .slice (some ⟨gb, o, none⟩) n n), (6, .int .i64 (q : Int))] ∧ HH (wb.heap.size) wb w ((gr, .cells #[.string s, .slice Az zs.length cz, .int .i64 (a1 : Int), .bool false] 84 (0, 0)) :: (gb, .cells cs 5 (0, 0)) :: L0) ∧ q = (if zs = [] then s.size else (zs.getD (ap % zs.length) 0).toNat) ∧ a1 = (if zs = [] then ap else ap + 1)) ?_ ?_
 ·
  clear S a H; rintro a w ⟨q, a1, S, H, hinv⟩
  obtain ⟨hq, ha1⟩ := hinv
  have hkl := dc.took_le zs ap s.size n
  have hk : Nat.min s.size (min q n) = dc.took zs ap s.size n := by rw [hq]; rfl
  revert a;refine pS ?_;intro a S
  refine d_start (id := 9) [10] 12 (bA 12 0) H rfl rfl rfl (fun w H => ?_)
  revert a;refine qM [0,1,2,6,7] rfl (qP 3 rfl (p_len Tryz.underlying23 rfl) rfl (qP 4 rfl (p_minN (x := q) (y := n) rfl rfl) rfl (qP 5 rfl (p_slice rfl (fun _ _ => o_none) (o_some rfl) (fun _ _ => o_none) (fun w => sl_hi Tryz.underlying23 sz5 rfl (by omega))) rfl (qA 8 fa84_0 rfl rfl rfl rfl (qE 9 H rfl rfl rfl m0 rfl ag9 rfl ?_)))));intro a S
  refine d_copy (i := 10) (bA 12 2047) S H rfl rfl rfl rfl Tryz.underlying23 sz5 (first_string s) (by omega) hk (.there .here) (wanted_none rfl) rfl rfl (by kernel_rfl) rfl ?_; clear S a H; intro w a H S
  revert a;refine qM [11] rfl (qD (pT (pS (pG (pM 3 rfl (pA fa84_0 rfl rfl rfl (pD H rfl rfl m0 rfl ag9 rfl (pM 1 rfl (pP (p_slice rfl (o_some rfl) (fun _ _ => o_none) (fun _ _ => o_none) (fun w => sl_string_lo Tryz.underlying9 (by omega) (by omega))) rfl (pM 1 rfl (pA fa84_0 rfl rfl rfl (pE H rfl rfl rfl .here (by first | decide | simp [Value.cells]) sz9 ?_))))))))))));clear H;intro w H
  refine pL (pT (pS (pG (pM 3 rfl (pL (pT (pZ ?_)))))))
  rw [Int.toNat_natCast] at H
  intro a S
  exact r_ret2 S rfl rfl rfl (.inr ⟨by omega, rfl, by rw [← ha1]; exact H⟩)
 revert a;refine pS (pG (pM 2 rfl (pA fa84_1 rfl rfl rfl (pD H rfl rfl m0 rfl ag30 rfl (pP (p_len Tryz.underlying30 rfl) rfl (pP (p_gtr rfl rfl) rfl (pL (pT (zc rfl (fun bc12 => ?_) (fun bc12 => ?_))))))))))
 ·
  have c12 := of_decide_eq_true bc12
  obtain ⟨ad, rfl⟩ := C_some hC (show 0 < zs.length by omega)
  refine pS ?_;intro a S
  refine d_start (id := 7) [] 18 (bA 18 0) H rfl rfl rfl (fun w H => ?_)
  revert a;refine qM [0,1,4,5,8,9] rfl (qA 2 fa84_1 rfl rfl rfl rfl (qE 3 H rfl rfl rfl m0 rfl ag30 rfl (qA 6 fa84_2 rfl rfl rfl rfl (qE 7 H rfl rfl rfl m0 rfl ag3 rfl (qA 10 fa84_1 rfl rfl rfl rfl (qE 11 H rfl rfl rfl m0 rfl ag30 rfl (qP 12 rfl (p_len Tryz.underlying30 rfl) rfl (qP 13 rfl (p_rem rfl rfl (by omega) (nat_rem ap zs.length)) rfl (qP 14 rfl (p_indexAddr rfl rfl (fun w => ia_any Tryz.underlying30 sz3 (by omega) (by have := Nat.mod_lt ap (show 0 < zs.length by omega); omega))) rfl (qR 15 H rfl (r_row (i := ap % zs.length) hC rfl (by rw [Int.toNat_natCast, Nat.mul_one]) (get_some 0 (Nat.mod_lt _ (by omega))) ag3 rfl) rfl (qP 16 rfl (p_max0 rfl rfl) rfl (qM [17] rfl (qD (pT (pG (pM 2 rfl (pA fa84_2 rfl rfl rfl (pD H rfl rfl m0 rfl ag3 rfl (pP (p_add rfl rfl (nat_add (x := ap) (y := 1) (by omega))) rfl (pM 1 rfl (pA fa84_2 rfl rfl rfl (pE H rfl rfl rfl .here (by first | decide | simp [Value.cells]) sz3 ?_))))))))))))))))))))));clear H;intro w H
  refine pL (pT ?_)
  have hz : zs ≠ [] := fun e => by subst e; simp at *
  intro a S
  exact ⟨(zs.getD (ap % zs.length) 0).toNat, (ap + 1), S.only ⟨rfl, rfl, rfl, trivial⟩, H, ⟨by rw [if_neg hz], by rw [if_neg hz]⟩⟩
 have c12 := of_decide_eq_false bc12
 refine pK (pT ?_);intro a S
 exact ⟨s.size, ap, S.only ⟨rfl, rfl, rfl, trivial⟩, H, ⟨by rw [if_pos (List.length_eq_zero_iff.1 (by omega))], by rw [if_pos (List.length_eq_zero_iff.1 (by omega))]⟩⟩
end Go.Proofs.YtbahngfpadjbhaaGreatDoor.dec
end
section
namespace Go.Proofs.YtbahngfpadjbhaaGreatDoor.dec
open Go.Proofs.YtbahngfpadjbhaaGreatDoor.fx
open Go.RowKit Go.Proofs.HHW Go.Proofs.YtbahngfpadjbhaaGreatDoorW.PrintWords
namespace gt
theorem bld104_0_1_2 (x0_0 : Int) (x1_0 : Int) (x2_0t : TypeId) (x2_0v : Value) : Tryz.prog.built 104 [(0, (.int .i64 x0_0)), (1, (.int .i64 x1_0)), (2, (.iface x2_0t x2_0v))] = some #[.int .i64 x0_0, .int .i64 x1_0, .iface x2_0t x2_0v] := by kernel_rfl
theorem bld120_0 (x0_0 : ByteArray) : Tryz.prog.built 120 [(0, (.string x0_0))] = some #[.string x0_0] := by kernel_rfl
theorem mk101 (w : World) (p : Option Addr) : (Instr.makeInterface 101 (.pointer p)).run Tryz.prog w = .ok (.iface 101 (.pointer p)) w := by kernel_rfl
theorem mk118 (w : World) (p : Option Addr) : (Instr.makeInterface 118 (.pointer p)).run Tryz.prog w = .ok (.iface 118 (.pointer p)) w := by kernel_rfl
theorem count_ (w0 : World) (A : Option Addr) (c : Nat) (l : List Int) (b : Int) (hsb : SB w0 A c l) (hl : l.length ≤ 1000000000) : Calls Tryz.prog 78 #[.slice A l.length c, .int .u8 b] w0 fun e w' => e = .returned (.int .i64 (cnt b l : Int)) ∧ Below w0.heap.size w0 w' := by
 have H := HH.start w0
 refine c_enter (args := [.slice A l.length c, .int .u8 b]) (k := 19) Tryz.func78 rfl rfl rfl ?_
 refine pS (pG (pM 1 rfl (pL (pT (pS (pG (pM 1 rfl (pL (pT (pS (pS (pG (pM 1 rfl (pP (p_len Tryz.underlying23 rfl) rfl (pM 1 rfl (pL (pT (pB ?_))))))))))))))))));intro a S
 refine c_loop (σ := Nat × Nat) (fun s_ a w => match s_ with | ⟨j, n⟩ => SL a 21 [] [(1, .int .u8 b), (5, .int .i64 (n : Int)), (8, .slice A l.length c), (9, .int .i64 (l.length : Int)), (10, .int .i64 (j : Int))] ∧ HH (w0.heap.size) w0 w [] ∧ (j ≤ l.length ∧ n = cnt b (l.take j))) (fun s_ => match s_ with | ⟨j, n⟩ => l.length - j) ⟨0, 0⟩ ⟨S.only ⟨rfl, rfl, rfl, rfl, rfl, trivial⟩, H, ⟨Nat.zero_le _, rfl⟩⟩ ?_
 clear S a H; rintro ⟨j, n⟩ a w ⟨S, H, hinv⟩
 obtain ⟨hj, hn⟩ := hinv
 have hcl := cnt_le b (l.take j)
 rw [List.length_take, ← hn] at hcl
 revert a;refine pS (pG (pP (p_lss rfl rfl) rfl (pL (pT (pS (zc rfl (fun bc2 => ?_) (fun bc2 => ?_)))))))
 ·
  have c2 := of_decide_eq_true bc2
  refine pK (pT (pS (pB (pS (pG ?_)))))
  obtain ⟨gq3, oq3, hAq3, hRq3⟩ := hsb.get (show j < l.length by omega)
  refine pP (p_indexAddr (u := .slice (some ⟨gq3, oq3, none⟩) l.length c) (by rw [← hAq3]; rfl) rfl (fun w => ia_slice Tryz.underlying23 sz5 (by omega) (by omega))) rfl (pR H (r_byte (l := l) (i := j) rfl (by omega) ag5 hRq3 rfl (get_some 0 (by omega))) rfl (pM 1 rfl (pL (pT (pS (pG (pM 2 rfl (pP (p_eql rfl rfl) rfl (pL (pT (zc rfl (fun bc5 => ?_) (fun bc5 => ?_))))))))))))
  ·
   have c5 := eq_of_beq bc5
   have hcs := cnt_succ b (l := l) (j := j) (by omega)
   rw [if_pos c5] at hcs
   refine pG (pM 1 rfl (pP (p_add rfl rfl (nat_add (x := n) (y := 1) (by omega))) rfl (pM 1 rfl (pL (pI 1 (pT (pG (pP (p_add rfl rfl (nat_add (x := j) (y := 1) (by omega))) rfl (pM 1 rfl (pL (pT ?_)))))))))));intro a S
   exact ⟨⟨j + 1, (n + 1)⟩, ⟨S.only ⟨rfl, rfl, rfl, rfl, rfl, trivial⟩, H, ⟨by omega, by omega⟩⟩, (show l.length - (j + 1) < l.length - j from by omega)⟩
  have c5 := ne_of_beq_false bc5
  have hcs := cnt_succ b (l := l) (j := j) (by omega)
  rw [if_neg c5] at hcs
  refine pK (pI 1 (pT (pG (pP (p_add rfl rfl (nat_add (x := j) (y := 1) (by omega))) rfl (pM 1 rfl (pL (pT ?_)))))));intro a S
  exact ⟨⟨j + 1, n⟩, ⟨S.only ⟨rfl, rfl, rfl, rfl, rfl, trivial⟩, H, ⟨by omega, by omega⟩⟩, (show l.length - (j + 1) < l.length - j from by omega)⟩
 have c2 := of_decide_eq_false bc2
 refine pX (pV (pV (pW (pT (pS (pG (pM 2 rfl (pL (pT (pZ ?_))))))))))
 obtain rfl : j = l.length := by omega
 rw [List.take_of_length_le (Nat.le_refl _)] at hn
 subst hn
 intro a S
 exact r_ret1 S rfl rfl ⟨rfl, H.below⟩
theorem lastI_ (w0 : World) (A : Option Addr) (c : Nat) (l : List Int) (b : Int) (hsb : SB w0 A c l) (hl : l.length ≤ 1000000000) : Calls Tryz.prog 95 #[.slice A l.length c, .int .u8 b] w0 fun e w' => e = .returned (.int .i64 ((lastp b l l.length : Int) - 1)) ∧ Below w0.heap.size w0 w' := by
 have H := HH.start w0
 refine c_enter (args := [.slice A l.length c, .int .u8 b]) (k := 18) Tryz.func95 rfl rfl rfl ?_
 refine pS (pG (pM 1 rfl (pL (pT (pS (pS (pG (pM 1 rfl (pP (p_len Tryz.underlying23 rfl) rfl (pP (p_sub (r := _) rfl rfl (IntWalk.i64_in _ (by omega))) rfl (pM 1 rfl (pL (pT (pB ?_))))))))))))));intro a S
 refine c_loop (σ := Nat) (fun s_ a w => match s_ with | k => SL a 20 [] [(0, .slice A l.length c), (1, .int .u8 b), (5, .int .i64 ((k : Int) - 1))] ∧ HH (w0.heap.size) w0 w [] ∧ (k ≤ l.length ∧ lastp b l l.length = lastp b l k)) (fun s_ => match s_ with | k => k) l.length ⟨S.only ⟨rfl, rfl, rfl, trivial⟩, H, ⟨Nat.le_refl _, rfl⟩⟩ ?_
 clear S a H; rintro k a w ⟨S, H, hinv⟩
 obtain ⟨hk, hlp⟩ := hinv
 revert a;refine pS (pS (pG (pM 1 rfl (pP (p_geq rfl rfl) rfl (pL (pT (zc rfl (fun bc2 => ?_) (fun bc2 => ?_))))))))
 ·
  have c2 := of_decide_eq_true bc2
  obtain ⟨j, rfl⟩ : ∃ j, k = j + 1 := ⟨k - 1, by omega⟩
  intro a S
  rw [show ((j + 1 : Nat) : Int) - 1 = (j : Int) by omega] at S
  revert a;refine pK (pT (pS (pB (pS (pG (pM 2 rfl ?_))))))
  obtain ⟨gq3, oq3, hAq3, hRq3⟩ := hsb.get (show j < l.length by omega)
  refine pP (p_indexAddr (u := .slice (some ⟨gq3, oq3, none⟩) l.length c) (by rw [← hAq3]; rfl) rfl (fun w => ia_slice Tryz.underlying23 sz5 (by omega) (by omega))) rfl (pR H (r_byte (l := l) (i := j) rfl (by omega) ag5 hRq3 rfl (get_some 0 (by omega))) rfl (pM 1 rfl (pP (p_eql rfl rfl) rfl (pL (pT (zc rfl (fun bc5 => ?_) (fun bc5 => ?_)))))))
  ·
   have c5 := eq_of_beq bc5
   refine pS (pG (pM 2 rfl (pL (pT (pZ (pJ (pU (pU (pJ (pU ?_))))))))))
   have e1 : lastp b l l.length = j + 1 := hlp.trans (lastp_hit (by assumption))
   intro a S
   exact r_ret1 S rfl rfl ⟨by rw [e1, show ((j + 1 : Nat) : Int) - 1 = (j : Int) by omega], H.below⟩
  have c5 := ne_of_beq_false bc5
  refine pK (pI 1 (pT (pG (pM 1 rfl (pP (p_sub (r := _) rfl rfl (IntWalk.i64_in _ (by omega))) rfl (pM 1 rfl (pL (pT ?_))))))));intro a S
  exact ⟨j, ⟨S.only ⟨rfl, rfl, rfl, trivial⟩, H, ⟨by omega, hlp.trans (lastp_miss (by assumption))⟩⟩, (Nat.lt_succ_self j)⟩
 have c2 := of_decide_eq_false bc2
 refine pX (pV (pV (pW (pT (pS (pG (pM 1 rfl (pL (pT (pZ ?_))))))))))
 obtain rfl : k = 0 := by omega
 intro a S
 exact r_ret1 S rfl rfl ⟨by rw [hlp]; rfl, H.below⟩
theorem last_ (w0 : World) (A : Option Addr) (c : Nat) (l : List Int) (b : Int) (hsb : SB w0 A c l) (hl : l.length ≤ 1000000000) : Calls Tryz.prog 82 #[.slice A l.length c, .int .u8 b] w0 fun e w' => e = .returned (.int .i64 ((lastp b l l.length : Int) - 1)) ∧ Below w0.heap.size w0 w' := by
 have H := HH.start w0
 refine c_enter (args := [.slice A l.length c, .int .u8 b]) (k := 6) Tryz.func82 rfl rfl rfl ?_
 refine pS (pG (pM 1 rfl (pL (pT (pS (pG (pM 2 rfl ?_)))))))
 have hcon := lastI_ _ A c l b (hsb.later H.below) hl
 refine pC Tryz.func95 hcon ?_
 rintro e w ⟨rfl, hb⟩
 refine ⟨_, rfl, ?_⟩
 replace H := H.later hb; clear hcon hb
 refine pM 1 rfl (pL (pT (pZ ?_)));intro a S
 exact r_ret1 S rfl rfl ⟨rfl, H.below⟩
theorem errNew_ (wb w0 : World) (B : Nat) (L0 : List (Nat × Obj)) (s : ByteArray) (H : HH B wb w0 L0) : Calls Tryz.prog 49 #[.string s] w0 fun e w' => ∃ g, e = .returned (.iface 118 (.pointer (some ⟨g, 0, none⟩))) ∧ HH B wb w' ((g, .cells #[.string s] 120 (0, 0)) :: L0) := by
 refine c_enter (args := [.string s]) (k := 6) Tryz.func49 rfl rfl rfl ?_
 refine pS (pG (pM 1 rfl (pL (pT (pS (pG (pM 1 rfl (pP (p_bld (ps := [(0, .tmp 3)]) rfl (bld120_0 _)) rfl ?_))))))));intro a S
 refine l_box (cs := #[.string s]) S H rfl rfl (fun w => bx) rfl rfl rfl ?_; clear S a H; intro g1 w a H S
 revert a;refine pP (p_iface rfl (fun w => mk118 w _)) rfl (pM 1 rfl (pL (pT (pZ ?_))));intro a S
 exact r_ret1 S rfl rfl ⟨g1, rfl, H⟩
theorem synErr_ (wb w0 : World) (D L0 : dc.Bk) (g : Nat) (X : List Int) (p v : Nat) (cm : Bool) (M : Nat) (sec : Int) (sk : Bool) (eb : Value) (line : Nat) (er : Value) (hD : dc.Dec TY wb g X p v cm M sec sk eb line er D) (H : HH wb.heap.size wb w0 (D ++ L0)) (o : Nat) (hop : o ≤ p) (hpv : p ≤ v) (hl : line ≤ 1000000000000) (et : TypeId) (ev : Value) : Calls Tryz.prog 48 #[.pointer (some ⟨g, 0, none⟩), .int .i64 (o : Int), .iface et ev] w0 fun e w' => ∃ ge D', e = .returned (.iface 101 (.pointer (some ⟨ge, 0, none⟩))) ∧ dc.Dec TY wb g X p v cm M (if sec = 5 then 5 else 4) sk eb line er D' ∧ HH wb.heap.size wb w' ((ge, .cells #[.int .i64 ((line : Int) - (cnt 10 ((X.take p).drop o) : Int)), .int .i64 ((o - lastp 10 (X.take o) o + 1 : Nat) : Int), .iface et ev] 104 (0, 0)) :: (D' ++ L0)) ∧ dc.Keeps D D' [] := by
 obtain ⟨rd, A, l, c, r0, mb, mr, rfl, hbuf, hrd, hr0, hvX, hdr, hsz, hpX⟩ := hD
 replace H := dc.open_.1 H
 have hlc := hbuf.1
 refine c_enter (args := [.pointer (some ⟨g, 0, none⟩), .int .i64 (o : Int), .iface et ev]) (k := 73) Tryz.func48 rfl rfl rfl ?_
 refine pS (pG (pM 1 rfl (pL (pT (pS ?_)))));intro a S
 refine d_start (id := 1) [] 16 (bA 16 0) H rfl rfl rfl (fun w H => ?_)
 revert a;refine qM [0,1,4,5,8,9,12] rfl (qA 2 fa58_1 rfl rfl rfl rfl (qE 3 H rfl rfl rfl m0 rfl ag23 rfl (qA 6 fa58_2 rfl rfl rfl rfl (qE 7 H rfl rfl rfl m0 rfl ag3 rfl (qA 10 fa58_2 rfl rfl rfl rfl (qE 11 H rfl rfl rfl m0 rfl ag3 rfl (qP 13 rfl (p_add rfl rfl (nat_add (x := r0) (y := o) (by omega))) rfl (qP 14 rfl (p_slice rfl (o_some rfl) (o_some rfl) (fun _ _ => o_none) (fun w => sl_sb (m := r0) (h := r0 + o) Tryz.underlying23 sz5 rfl rfl (by omega) (by omega) hbuf.1)) rfl ?_))))))));intro a S
 rw [seg_eq0 hdr (b := o) (by omega)] at S
 revert a;refine qM [15] rfl (qD (pT (pS (pG (pM 1 rfl (pL (pT (pS (pS (pG (pM 1 rfl ?_)))))))))))
 have hs1 : SB _ _ _ (X.take o) := (seg_eq0 hdr (b := o) (by omega)) ▸ (SB.buf hbuf H).cut (m := r0) (j := r0 + o) (by omega) (by omega)
 have hcon := last_ _ _ _ (X.take o) 10 hs1 (by rw [List.length_take]; omega)
 refine pC Tryz.func82 hcon ?_
 rintro e w ⟨rfl, hb⟩
 refine ⟨_, rfl, ?_⟩
 replace H := H.later hb; clear hcon hb hs1
 have hle := lastp_le 10 (X.take o) (X.take o).length
 have hlx : (X.take o).length = o := by rw [List.length_take]; omega
 have hle2 : (X.take o).length ≤ c - r0 := by rw [hlx]; omega
 intro a S
 revert S hle hle2
 generalize hz : lastp 10 (X.take o) (X.take o).length = z
 intro S hle hle2
 revert a;refine pM 1 rfl (pL (pT (pS (pG (pM 1 rfl (pP (p_geq rfl rfl) rfl (pL (pT (zc rfl (fun bc2 => ?_) (fun bc2 => ?_))))))))))
 ·
  have c2 := of_decide_eq_true bc2
  refine pG (pM 2 rfl (pP (p_add (r := _) rfl rfl (IntWalk.i64_in _ (by omega))) rfl ?_));intro a S
  rw [show (z : Int) - 1 + 1 = ((z : Nat) : Int) by omega] at S
  revert a;refine pP (p_slice rfl (o_some rfl) (fun _ _ => o_none) (fun _ _ => o_none) (fun w => sl_sb_lo Tryz.underlying23 sz5 rfl (by omega))) rfl ?_;intro a S
  rw [List.length_drop, hlx] at S
  revert a;refine pM 1 rfl (pL (pT (pS (pG (pM 1 rfl (pP (p_len Tryz.underlying23 rfl) rfl (pP (p_add rfl rfl (nat_add (x := (o - z)) (y := 1) (by omega))) rfl (pM 1 rfl (pL (pT (pS ?_)))))))))));intro a S
  refine d_start (id := 8) [] 16 (bA 16 0) H rfl rfl rfl (fun w H => ?_)
  revert a;refine qM [0,1,4,5,8,10,11] rfl (qA 2 fa58_1 rfl rfl rfl rfl (qE 3 H rfl rfl rfl m0 rfl ag23 rfl (qA 6 fa58_2 rfl rfl rfl rfl (qE 7 H rfl rfl rfl m0 rfl ag3 rfl (qP 9 rfl (p_add rfl rfl (nat_add (x := r0) (y := o) (by omega))) rfl (qA 12 fa58_3 rfl rfl rfl rfl (qE 13 H rfl rfl rfl m0 rfl ag3 rfl (qP 14 rfl (p_slice rfl (o_some rfl) (o_some rfl) (fun _ _ => o_none) (fun w => sl_sb (m := r0 + o) (h := r0 + p) Tryz.underlying23 sz5 rfl rfl (by omega) (by omega) hbuf.1)) rfl ?_))))))));intro a S
  rw [seg_eq o hdr (b := p) (by omega)] at S
  revert a;refine qM [15] rfl (qD (pT (pS ?_)));intro a S
  refine d_start (id := 9) [] 8 (bA 8 0) H rfl rfl rfl (fun w H => ?_)
  revert a;refine qM [0,1,4] rfl (qA 2 fa58_8 rfl rfl rfl rfl (qE 3 H rfl rfl rfl m0 rfl ag2 rfl ?_))
  have hs2 : SB _ _ _ ((X.take p).drop o) := (seg_eq o hdr (b := p) (by omega)) ▸ (SB.buf hbuf H).cut (m := r0 + o) (j := r0 + p) (by omega) (by omega)
  have hcon := count_ _ _ _ ((X.take p).drop o) 10 hs2 (by rw [List.length_drop, List.length_take]; omega)
  intro a S
  refine d_call (i := 5) (bA 8 63) S rfl rfl rfl Tryz.func78 rfl rfl (hcon) (wanted_none rfl) rfl rfl (by kernel_rfl) rfl ?_
  rintro e w ⟨rfl, hb⟩
  refine ⟨_, rfl, H.later hb, ?_⟩; replace H := H.later hb; clear hb hcon hs2;clear S a
  have hcl := cnt_le 10 ((X.take p).drop o)
  rw [List.length_drop, List.length_take] at hcl
  refine qP 6 rfl (p_sub (r := _) rfl rfl (IntWalk.i64_in _ (by omega))) rfl (qM [7] rfl (qD (pT (pS (pS (pG (pM 2 rfl (pA fa58_5 rfl rfl rfl (pD H rfl rfl m0 rfl ag54 rfl (pP (p_neq rfl rfl) rfl (pL (pT (zc rfl (fun bc4 => ?_) (fun bc4 => ?_))))))))))))))
  ·
   have c4 := bne_iff_ne.1 bc4
   refine pG (pM 2 rfl (pA fa58_5 rfl rfl rfl (pE H rfl rfl rfl .here (by first | decide | simp [Value.cells]) sz54 ?_)));clear H;intro w H
   refine pL (pT (pS (pG (pM 3 rfl (pP (p_bld (ps := [(0, .tmp 70), (1, .tmp 71), (2, .tmp 72)]) rfl (bld104_0_1_2 _ _ _ _)) rfl ?_)))));intro a S
   refine l_box (cs := #[.int .i64 ((line : Int) - (cnt 10 ((X.take p).drop o) : Int)), .int .i64 ((((o - z) + 1) : Nat) : Int), .iface et ev]) S H rfl rfl (fun w => bx) rfl rfl rfl ?_; clear S a H; intro g5 w a H S
   revert a;refine pP (p_iface rfl (fun w => mk101 w _)) rfl (pM 1 rfl (pL (pT (pZ ?_))))
   have hz2 : lastp 10 (X.take o) o = z := by rw [← hz, hlx]
   intro a S
   rw [hz2, if_neg c4]
   exact r_ret1 S rfl rfl ⟨g5, _, rfl, ⟨_, _, _, _, _, mb, mr, rfl, hbuf, hrd, hr0, hvX, hdr, hsz, hpX⟩, (by rw [List.cons_append, List.append_assoc]; exact H), dc.Keeps.head rfl⟩
  have c4 := bne_eq_false_iff_eq.1 bc4
  refine pK (pT (pS (pG (pM 3 rfl (pP (p_bld (ps := [(0, .tmp 70), (1, .tmp 71), (2, .tmp 72)]) rfl (bld104_0_1_2 _ _ _ _)) rfl ?_)))));intro a S
  refine l_box (cs := #[.int .i64 ((line : Int) - (cnt 10 ((X.take p).drop o) : Int)), .int .i64 ((((o - z) + 1) : Nat) : Int), .iface et ev]) S H rfl rfl (fun w => bx) rfl rfl rfl ?_; clear S a H; intro g6 w a H S
  revert a;refine pP (p_iface rfl (fun w => mk101 w _)) rfl (pM 1 rfl (pL (pT (pZ ?_))))
  have hz2 : lastp 10 (X.take o) o = z := by rw [← hz, hlx]
  subst c4
  intro a S
  rw [hz2, if_pos rfl]
  exact r_ret1 S rfl rfl ⟨g6, _, rfl, ⟨_, _, _, _, _, mb, mr, rfl, hbuf, hrd, hr0, hvX, hdr, hsz, hpX⟩, (by rw [List.cons_append, List.append_assoc]; exact H), dc.Keeps.head rfl⟩
 have c2 := of_decide_eq_false bc2
 obtain rfl : z = 0 := by omega
 intro a S
 rw [hlx] at S
 revert a;refine pG (pM 2 rfl (pL (pT (pS (pG (pM 1 rfl (pP (p_len Tryz.underlying23 rfl) rfl (pP (p_add rfl rfl (nat_add (x := o) (y := 1) (by omega))) rfl (pM 1 rfl (pL (pT (pS ?_))))))))))));intro a S
 refine d_start (id := 8) [] 16 (bA 16 0) H rfl rfl rfl (fun w H => ?_)
 revert a;refine qM [0,1,4,5,8,10,11] rfl (qA 2 fa58_1 rfl rfl rfl rfl (qE 3 H rfl rfl rfl m0 rfl ag23 rfl (qA 6 fa58_2 rfl rfl rfl rfl (qE 7 H rfl rfl rfl m0 rfl ag3 rfl (qP 9 rfl (p_add rfl rfl (nat_add (x := r0) (y := o) (by omega))) rfl (qA 12 fa58_3 rfl rfl rfl rfl (qE 13 H rfl rfl rfl m0 rfl ag3 rfl (qP 14 rfl (p_slice rfl (o_some rfl) (o_some rfl) (fun _ _ => o_none) (fun w => sl_sb (m := r0 + o) (h := r0 + p) Tryz.underlying23 sz5 rfl rfl (by omega) (by omega) hbuf.1)) rfl ?_))))))));intro a S
 rw [seg_eq o hdr (b := p) (by omega)] at S
 revert a;refine qM [15] rfl (qD (pT (pS ?_)));intro a S
 refine d_start (id := 9) [] 8 (bA 8 0) H rfl rfl rfl (fun w H => ?_)
 revert a;refine qM [0,1,4] rfl (qA 2 fa58_8 rfl rfl rfl rfl (qE 3 H rfl rfl rfl m0 rfl ag2 rfl ?_))
 have hs2 : SB _ _ _ ((X.take p).drop o) := (seg_eq o hdr (b := p) (by omega)) ▸ (SB.buf hbuf H).cut (m := r0 + o) (j := r0 + p) (by omega) (by omega)
 have hcon := count_ _ _ _ ((X.take p).drop o) 10 hs2 (by rw [List.length_drop, List.length_take]; omega)
 intro a S
 refine d_call (i := 5) (bA 8 63) S rfl rfl rfl Tryz.func78 rfl rfl (hcon) (wanted_none rfl) rfl rfl (by kernel_rfl) rfl ?_
 rintro e w ⟨rfl, hb⟩
 refine ⟨_, rfl, H.later hb, ?_⟩; replace H := H.later hb; clear hb hcon hs2;clear S a
 have hcl := cnt_le 10 ((X.take p).drop o)
 rw [List.length_drop, List.length_take] at hcl
 refine qP 6 rfl (p_sub (r := _) rfl rfl (IntWalk.i64_in _ (by omega))) rfl (qM [7] rfl (qD (pT (pS (pS (pG (pM 2 rfl (pA fa58_5 rfl rfl rfl (pD H rfl rfl m0 rfl ag54 rfl (pP (p_neq rfl rfl) rfl (pL (pT (zc rfl (fun bc8 => ?_) (fun bc8 => ?_))))))))))))))
 ·
  have c8 := bne_iff_ne.1 bc8
  refine pG (pM 2 rfl (pA fa58_5 rfl rfl rfl (pE H rfl rfl rfl .here (by first | decide | simp [Value.cells]) sz54 ?_)));clear H;intro w H
  refine pL (pT (pS (pG (pM 3 rfl (pP (p_bld (ps := [(0, .tmp 70), (1, .tmp 71), (2, .tmp 72)]) rfl (bld104_0_1_2 _ _ _ _)) rfl ?_)))));intro a S
  refine l_box (cs := #[.int .i64 ((line : Int) - (cnt 10 ((X.take p).drop o) : Int)), .int .i64 (((o + 1) : Nat) : Int), .iface et ev]) S H rfl rfl (fun w => bx) rfl rfl rfl ?_; clear S a H; intro g9 w a H S
  revert a;refine pP (p_iface rfl (fun w => mk101 w _)) rfl (pM 1 rfl (pL (pT (pZ ?_))))
  have hz2 : lastp 10 (X.take o) o = 0 := by rw [← hz, hlx]
  intro a S
  rw [hz2, if_neg c8]
  exact r_ret1 S rfl rfl ⟨g9, _, rfl, ⟨_, _, _, _, _, mb, mr, rfl, hbuf, hrd, hr0, hvX, hdr, hsz, hpX⟩, (by rw [List.cons_append, List.append_assoc]; exact H), dc.Keeps.head rfl⟩
 have c8 := bne_eq_false_iff_eq.1 bc8
 refine pK (pT (pS (pG (pM 3 rfl (pP (p_bld (ps := [(0, .tmp 70), (1, .tmp 71), (2, .tmp 72)]) rfl (bld104_0_1_2 _ _ _ _)) rfl ?_)))));intro a S
 refine l_box (cs := #[.int .i64 ((line : Int) - (cnt 10 ((X.take p).drop o) : Int)), .int .i64 (((o + 1) : Nat) : Int), .iface et ev]) S H rfl rfl (fun w => bx) rfl rfl rfl ?_; clear S a H; intro g10 w a H S
 revert a;refine pP (p_iface rfl (fun w => mk101 w _)) rfl (pM 1 rfl (pL (pT (pZ ?_))))
 have hz2 : lastp 10 (X.take o) o = 0 := by rw [← hz, hlx]
 subst c8
 intro a S
 rw [hz2, if_pos rfl]
 exact r_ret1 S rfl rfl ⟨g10, _, rfl, ⟨_, _, _, _, _, mb, mr, rfl, hbuf, hrd, hr0, hvX, hdr, hsz, hpX⟩, (by rw [List.cons_append, List.append_assoc]; exact H), dc.Keeps.head rfl⟩
end gt
end Go.Proofs.YtbahngfpadjbhaaGreatDoor.dec
end
