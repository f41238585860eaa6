/- Words of this seat's own: append, copies, conversions between texts and bytes, over the list of blocks. -/
import Derived.Test.YtnmelglnkefjfaaDoorSd
import Derived.Deep.AppendSrc
import Derived.Lib.ConvBytes
namespace Go.Proofs.HHW
open Go.RowKit
set_option linter.unusedVariables false
set_option linter.unusedSimpArgs false

/-- L' is L with the block (g, o) replaced by (g', o'). -/
inductive Rep : List (Nat × Obj) → Nat → Obj → Nat → Obj → List (Nat × Obj) → Prop
  | here {L : List (Nat × Obj)} {g g' : Nat} {o o' : Obj} : Rep ((g, o) :: L) g o g' o' ((g', o') :: L)
  | there {L L' : List (Nat × Obj)} {p : Nat × Obj} {g g' : Nat} {o o' : Obj} (h : Rep L g o g' o' L') : Rep (p :: L) g o g' o' (p :: L')
theorem Rep.upd_ {L L' : List (Nat × Obj)} {g g' : Nat} {o o' : Obj} (h : Rep L g o g' o' L') : g' = g → Upd L g o o' L' := by
  induction h with
  | here => intro e; subst e; exact .here
  | there h ih => intro e; exact .there (ih e)
theorem Rep.upd {L L' : List (Nat × Obj)} {g : Nat} {o o' : Obj} (h : Rep L g o g o' L') : Upd L g o o' L' := h.upd_ rfl
theorem Rep.mem {L L' : List (Nat × Obj)} {g g' : Nat} {o o' : Obj} (h : Rep L g o g' o' L') : (g, o) ∈ L := by
  induction h with
  | here => exact List.mem_cons_self
  | there h ih => exact List.mem_cons_of_mem _ ih
theorem Rep.sub {L L' : List (Nat × Obj)} {g g' : Nat} {o o' : Obj} (h : Rep L g o g' o' L') : ∀ p ∈ L', p = (g', o') ∨ p ∈ L := by
  induction h with
  | here =>
    intro p hp
    rcases List.mem_cons.1 hp with rfl | hp
    · exact .inl rfl
    · exact .inr (List.mem_cons_of_mem _ hp)
  | there h ih =>
    intro p hp
    rcases List.mem_cons.1 hp with rfl | hp
    · exact .inr List.mem_cons_self
    · rcases ih p hp with h1 | h1
      · exact .inl h1
      · exact .inr (List.mem_cons_of_mem _ h1)
theorem Rep.pair {L L' : List (Nat × Obj)} {g z : Nat} {o o' : Obj} (h : Rep L g o z o' L') : (∀ p ∈ L, p.1 < z) → L.Pairwise (fun p q => p.1 ≠ q.1) → L'.Pairwise (fun p q => p.1 ≠ q.1) := by
  induction h with
  | here =>
    intro hl hn
    refine List.pairwise_cons.2 ⟨fun q hq => ?_, (List.pairwise_cons.1 hn).2⟩
    have := hl q (List.mem_cons_of_mem _ hq)
    simp only
    omega
  | there h ih =>
    intro hl hn
    refine List.pairwise_cons.2 ⟨fun q hq => ?_, ih (fun p hp => hl p (List.mem_cons_of_mem _ hp)) (List.pairwise_cons.1 hn).2⟩
    rcases h.sub q hq with rfl | h1
    · have := hl _ List.mem_cons_self
      simp only
      omega
    · exact (List.pairwise_cons.1 hn).1 q h1
theorem HH.rep {B : Nat} {w0 w : World} {L L' : List (Nat × Obj)} {g : Nat} {o o' : Obj} (H : HH B w0 w L) (hr : Rep L g o w.heap.size o' L') : HH B w0 (w.alloc o') L' := by
  have H1 := H.alloc o'
  refine ⟨H1.below, H1.hB, ?_, hr.pair (fun p hp => H.lt hp) H.nodup, ?_⟩
  · intro p hp
    rcases hr.sub p hp with rfl | h
    · exact H.hB
    · exact H.lo p h
  · intro p hp
    rcases hr.sub p hp with rfl | h
    · exact H1.at_ _ List.mem_cons_self
    · exact H1.at_ _ (List.mem_cons_of_mem _ h)
theorem HH.swap {B : Nat} {w0 w : World} {L L' : List (Nat × Obj)} {g : Nat} {o o' : Obj} (H : HH B w0 w L) (hr : Rep L g o w.heap.size o' L') : HH B w0 (w.drew.alloc o') L' := H.drew.rep hr
theorem splice_size : ∀ (vs : List Value) (cs : Array Value) (o : Nat), (vs.zipIdx.foldl (fun a p => a.setIfInBounds (o + p.2) p.1) cs).size = cs.size := by
  intro vs
  suffices h : ∀ (l : List (Value × Nat)) (cs : Array Value) (o : Nat), (l.foldl (fun a p => a.setIfInBounds (o + p.2) p.1) cs).size = cs.size from fun cs o => h _ cs o
  intro l
  induction l with
  | nil => intro cs o; rfl
  | cons p r ih => intro cs o; simp only [List.foldl_cons]; rw [ih]; simp
/-- What lies in a row of cells behind stores from o on. -/
def spl : Array Value → Nat → List Value → Array Value
  | cs, _, [] => cs
  | cs, o, v :: r => spl (cs.setIfInBounds o v) (o + 1) r
theorem spl_size : ∀ (vs : List Value) (cs : Array Value) (o : Nat), (spl cs o vs).size = cs.size
  | [], _, _ => rfl
  | v :: r, cs, o => by rw [spl, spl_size r]; simp
theorem spl_out : ∀ (vs : List Value) (cs : Array Value) (o j : Nat), j < o ∨ o + vs.length ≤ j → (spl cs o vs)[j]? = cs[j]?
  | [], _, _, _, _ => rfl
  | v :: r, cs, o, j, h => by
    have h' : j < o ∨ o + r.length + 1 ≤ j := by simpa [Nat.add_assoc] using h
    rw [spl, spl_out r _ _ j (by omega)]
    exact Array.getElem?_setIfInBounds_ne (by omega)
theorem spl_in : ∀ (vs : List Value) (cs : Array Value) (o j : Nat), o + vs.length ≤ cs.size → j < vs.length → (spl cs o vs)[o + j]? = vs[j]?
  | [], _, _, _, _, h => by simp at h
  | v :: r, cs, o, j, hs, hj => by
    simp only [List.length_cons] at hs hj
    rw [spl]
    cases j with
    | zero =>
      rw [spl_out r _ _ _ (by omega)]
      simp [show o < cs.size by omega]
    | succ j =>
      have := spl_in r (cs.setIfInBounds o v) (o + 1) j (by simp; omega) (by omega)
      rw [show o + (j + 1) = o + 1 + j by omega, this]
      simp
theorem HH.sets {B : Nat} {w0 : World} {g : Nat} {t : TypeId} {f : Nat × Nat} : ∀ (vs : List Value) (o : Nat) (cs : Array Value) {w : World} {L L' : List (Nat × Obj)} (H : HH B w0 w L) (hr : Rep L g (.cells cs t f) g (.cells (spl cs o vs) t f) L'), HH B w0 (w.setCells g o vs) L'
  | [], o, cs, w, L, L', H, hr => by
    have : L' = L := hr.upd.same rfl
    rw [this]
    exact H
  | v :: r, o, cs, w, L, L', H, hr => by
    rw [World.setCells]
    obtain ⟨L1, h1, h2⟩ : ∃ L1, Upd L g (.cells cs t f) (.cells (cs.setIfInBounds o v) t f) L1 ∧ Rep L1 g (.cells (cs.setIfInBounds o v) t f) g (.cells (spl (cs.setIfInBounds o v) (o + 1) r) t f) L' := by
      rw [spl] at hr
      generalize spl (cs.setIfInBounds o v) (o + 1) r = X at hr
      clear H
      have hu := hr.upd
      clear hr
      generalize ho : Obj.cells cs t f = O at hu
      generalize hx : Obj.cells X t f = O' at hu
      induction hu with
      | here => subst ho; subst hx; exact ⟨_, .here, .here⟩
      | there h ih =>
        obtain ⟨L1, h1, h2⟩ := ih ho hx
        exact ⟨_, .there h1, .there h2⟩
    exact HH.sets r (o + 1) _ (H.set h1) h2

section
variable {P : Program} {ops : Array Oper} {rest : List Oper} {o : Oper} {a : Act} {Q : Exit → Act → World → Prop} {B : Nat} {w0 w : World} {L : List (Nat × Obj)} {n d : Nat} {ds : List Deferred} {F : List (Nat × Value)}
/-- Whatever an append to a row of the list's comes to: the row behind it (the same block, or a new one in its place). -/
theorem run_app {t tx ty e : TypeId} {i : TypeInfo} {z : Value} (H : HH B w0 w L) (ht : P.underlying t = some (.slice e)) (hi : P.info? e = some i) (hz : i.zero = some z) (hs : i.size = 1) (hzs : z.cells.size = 1)
    {g len : Nat} {cs : Array Value} {x : Value} {m : Nat} {news : List Value} (hlen : len ≤ cs.size) (hm : (g, Obj.cells cs e (0, 0)) ∈ L) (hsrc : Src P 1 tx x m news w) (hb : (len + m) * i.bytes ≤ 140737488355328) (hb0 : 0 < i.bytes) :
    ∃ g' cs' w', (Builtin.append_ #[t, tx] ty #[.slice (some ⟨g, 0, none⟩) len cs.size, x]).run P w = .ok (.slice (some ⟨g', 0, none⟩) (len + m) cs'.size) w' ∧ (∀ L', Rep L g (.cells cs e (0, 0)) g' (.cells cs' e (0, 0)) L' → HH B w0 w' L') ∧
      len + m ≤ cs'.size ∧ (∀ j, j < len → cs'[j]? = cs[j]?) ∧ (∀ j, j < m → cs'[len + j]? = news[j]?) := by
  have hml : news.length = m := by have := hsrc.newsLen; omega
  have hsrc' : Src P i.size tx x m news w := by rw [hs]; exact hsrc
  have hat := H.at_ _ hm
  simp only at hat
  have hle : len + m ≤ 140737488355328 := Nat.le_trans (Nat.le_mul_of_pos_right _ hb0) hb
  by_cases hroom : len + m ≤ cs.size
  · refine ⟨g, spl cs len news, w.setCells g len news, ?_, fun L' hL' => H.sets news len cs hL', by rw [spl_size]; exact hroom, fun j hj => spl_out _ _ _ _ (.inl hj), fun j hj => spl_in _ _ _ _ (by omega) (by omega)⟩
    have := run_append_room_src (P := P) w t tx ty e i ht hi g 0 len cs.size x m news hsrc' hroom (fun j hj => by simp [World.cell?, hat, hs]; omega) (fun j hj => by simp [World.frozen?, hat])
    rw [hs] at this
    simpa [spl_size] using this
  · have hold : (Builtin.firstCells i.size len (.slice (some ⟨g, 0, none⟩) len cs.size)).run P w.drew = .ok (cs.toList.take len).toArray w.drew := by
      rw [hs]
      refine run_firstCells_some w.drew 1 len ⟨g, 0, none⟩ len cs.size _ (by simp [hlen]) (fun j u hj => ?_)
      rw [addp]
      have h1 : j < len := by
        have := (List.getElem?_eq_some_iff.1 hj).1
        simp at this
        omega
      rw [List.getElem?_take, if_pos h1] at hj
      have h2 : w.drew.heap = w.heap := rfl
      simp only [World.cell?, h2, hat]
      simpa using hj
    have hr := run_append_grow_src (P := P) w t tx ty e i z ht hi hz (some ⟨g, 0, none⟩) len cs.size _ hold x m news hsrc' (by omega) (by omega) (growslice_fits (by omega) hb)
    have hge := grownCap_ge w (len + m) cs.size e
    have hsz : ((cs.toList.take len ++ news).toArray ++ Builtin.zeroCells z.cells (grownCap w (len + m) cs.size e - (len + m))).size = grownCap w (len + m) cs.size e := by
      simp only [Array.size_append, List.size_toArray, List.length_append, List.length_take, Array.length_toList, size_zeroCells, hzs]
      omega
    refine ⟨w.heap.size, _, _, ?_, fun L' hL' => H.swap hL', by rw [hsz]; exact hge, fun j hj => ?_, fun j hj => ?_⟩
    · rw [hsz]
      exact hr
    · rw [Array.getElem?_append_left (by simp; omega)]
      simp only [List.getElem?_toArray]
      rw [List.getElem?_append_left (by simp; omega), List.getElem?_take, if_pos hj]
      simp
    · rw [Array.getElem?_append_left (by simp; omega)]
      simp only [List.getElem?_toArray]
      rw [List.getElem?_append_right (by simp; omega)]
      simp [Nat.min_eq_left hlen]
theorem l_append {s x : Operand} {t tx e : TypeId} {z : Value} {bytes : Nat} {g len : Nat} {cs : Array Value} {v : Value} {m lm : Nat} {news : List Value} (hlm : len + m = lm) (S : SL a n ds F) (H : HH B w0 w L)
    (ho : o.op = .call { callee := .builtin .append, args := #[s, x], argTypes := #[t, tx] }) (hs : ev F s = some (.slice (some ⟨g, 0, none⟩) len cs.size)) (hx : ev F x = some v)
    (ht : P.underlying t = some (.slice e)) (hinfo : (P.info? e).map (fun i => (i.zero, i.size, i.bytes)) = some (some z, 1, bytes)) (hzs : z.cells.size = 1) (hb0 : 0 < bytes)
    (hm : (g, Obj.cells cs e (0, 0)) ∈ L) (hlen : len ≤ cs.size) (hsrc : Src P 1 tx v m news w) (hb : (len + m) * bytes ≤ 140737488355328) (hg : o.guard = none) (hd : o.dst = some d) (hn : Nat.blt d n = true)
    (h : ∀ (g' : Nat) (cs' : Array Value) w a, (∀ L', Rep L g (.cells cs e (0, 0)) g' (.cells cs' e (0, 0)) L' → HH B w0 w L') → lm ≤ cs'.size → (∀ j, j < len → cs'[j]? = cs[j]?) → (∀ j, j < m → cs'[len + j]? = news[j]?) →
      SL a n ds ((d, .slice (some ⟨g', 0, none⟩) lm cs'.size) :: F) → wpList P ops Q rest a w) : wpList P ops Q (o :: rest) a w := by
  subst hlm
  obtain ⟨i, hi, hzz⟩ := Option.map_eq_some_iff.1 hinfo
  simp only [Prod.mk.injEq] at hzz
  obtain ⟨hz, hsz, rfl⟩ := hzz
  obtain ⟨g', cs', w', h1, h2, h3, h4, h5⟩ := run_app (P := P) (ty := o.type) H ht hi hz hsz hzs hlen hm hsrc hb hb0
  refine l_event S (v := .slice (some ⟨g', 0, none⟩) (len + m) cs'.size) (w1 := w') (fun ρ A => ?_) hg hd hn (fun a S' => h g' cs' w' a h2 h3 h4 h5 S')
  have e1 := A s _ hs
  have e2 := A x _ hx
  unfold execOp
  simp only [ho, resolve]
  rw [show Array.map ρ #[s, x] = #[.slice (some ⟨g, 0, none⟩) len cs.size, v] by simp [e1, e2]]
  have hinv : ∀ c0, (invoke (Target.builtin .append #[t, tx] o.type c0) #[.slice (some ⟨g, 0, none⟩) len cs.size, v]).run P w = .ok (.value (.slice (some ⟨g', 0, none⟩) (len + m) cs'.size)) w' := fun _ => run_v h1
  exact hinv #[]
/-- An empty literal '[]T{}'. -/
theorem l_lit0 {t e : TypeId} {s : Nat} (S : SL a n ds F) (H : HH B w0 w L) (ho : o.op = .buildSlice t 0 #[]) (hu : P.underlying t = some (.slice e)) (hs : szB P e = some s) (hg : o.guard = none) (hd : o.dst = some d) (hn : Nat.blt d n = true)
    (h : ∀ g w a, HH B w0 w ((g, .cells #[] e (0, 0)) :: L) → SL a n ds ((d, .slice (some ⟨g, 0, none⟩) 0 0) :: F) → wpList P ops Q rest a w) : wpList P ops Q (o :: rest) a w := by
  refine l_event S (v := .slice (some ⟨w.heap.size, 0, none⟩) 0 0) (w1 := w.alloc (.cells #[] e (0, 0))) (fun ρ A => ?_) hg hd hn (fun a S' => h _ _ a (H.alloc _) S')
  unfold execOp
  simp only [ho]
  refine run_v ?_
  rw [show Array.map (fun x : Nat × Operand => (x.fst, ρ x.snd)) #[] = #[] by simp]
  unfold Instr.buildSlice
  rw [Sem.run_bind, run_underlying hu]
  simp only [Result.andThen]
  rw [Sem.run_bind, run_size hs]
  simp [Result.andThen, Instr.fill, newRow, show (Array.range 0) = #[] from rfl]
end
end Go.Proofs.HHW
