/- Words of this seat's own: what a call knows of the memory that it works in ('HH': a list of blocks, apart from one another, all made since block number B; below B all is as it was). -/
import Derived.WalkKit
import Derived.Handy
import Derived.Below
import Derived.Carry
import Derived.Deep.Draws
import Derived.Deep.QuietTactic
import Derived.BigQuiet
namespace Go.Proofs.HHW
open Go.RowKit
set_option linter.unusedVariables false

structure HH (B : Nat) (w0 w : World) (L : List (Nat × Obj)) : Prop where
  below : Below B w0 w
  hB : B ≤ w.heap.size
  lo : ∀ p ∈ L, B ≤ p.1
  nodup : L.Pairwise (fun p q => p.1 ≠ q.1)
  at_ : ∀ p ∈ L, w.heap[p.1]? = some p.2

theorem HH.start (w : World) : HH w.heap.size w w [] := ⟨Below.refl _ _, Nat.le_refl _, by simp, by simp, by simp⟩
theorem HH.same {B : Nat} {w0 w w' : World} {L : List (Nat × Obj)} (H : HH B w0 w L) (hh : w'.heap = w.heap) (ho : w'.os = w.os) (ht : w'.tape = w.tape) (hp : w'.output = w.output) : HH B w0 w' L :=
  ⟨⟨ho.trans H.below.os, ht.trans H.below.tape, hp.trans H.below.output, by rw [hh]; exact H.below.size, fun k hk => by rw [hh]; exact H.below.block k hk⟩, by rw [hh]; exact H.hB, H.lo, H.nodup, fun p hp => by rw [hh]; exact H.at_ p hp⟩
theorem HH.drew {B : Nat} {w0 w : World} {L : List (Nat × Obj)} (H : HH B w0 w L) : HH B w0 w.drew L := H.same rfl rfl rfl rfl
theorem HH.drewN {B : Nat} {w0 w : World} {L : List (Nat × Obj)} (H : HH B w0 w L) (n : Nat) : HH B w0 (w.drewN n) L := H.same rfl rfl rfl rfl
theorem HH.lt {B : Nat} {w0 w : World} {L : List (Nat × Obj)} (H : HH B w0 w L) {p : Nat × Obj} (hp : p ∈ L) : p.1 < w.heap.size := (Array.getElem?_eq_some_iff.1 (H.at_ p hp)).1
theorem HH.alloc {B : Nat} {w0 w : World} {L : List (Nat × Obj)} (H : HH B w0 w L) (o : Obj) : HH B w0 (w.alloc o) ((w.heap.size, o) :: L) := by
  refine ⟨H.below.alloc H.hB o, by have := H.hB; simp; omega, ?_, ?_, ?_⟩
  · intro p hp
    rcases List.mem_cons.1 hp with rfl | hp
    · exact H.hB
    · exact H.lo p hp
  · refine List.pairwise_cons.2 ⟨fun q hq => ?_, H.nodup⟩
    have := H.lt hq
    show w.heap.size ≠ q.1
    omega
  · intro p hp
    rcases List.mem_cons.1 hp with rfl | hp
    · show (w.heap.push o)[w.heap.size]? = some o
      simp
    · rw [Below.heap_alloc _ _ _ (H.lt hp)]
      exact H.at_ p hp
/-- L' is L with the block g turned from o to o'. -/
inductive Upd : List (Nat × Obj) → Nat → Obj → Obj → List (Nat × Obj) → Prop
  | here {L : List (Nat × Obj)} {g : Nat} {o o' : Obj} : Upd ((g, o) :: L) g o o' ((g, o') :: L)
  | there {L L' : List (Nat × Obj)} {p : Nat × Obj} {g : Nat} {o o' : Obj} (h : Upd L g o o' L') : Upd (p :: L) g o o' (p :: L')
theorem Upd.mem {L L' : List (Nat × Obj)} {g : Nat} {o o' : Obj} (h : Upd L g o o' L') : (g, o) ∈ L := by
  induction h with
  | here => exact List.mem_cons_self
  | there h ih => exact List.mem_cons_of_mem _ ih
theorem Upd.keys {L L' : List (Nat × Obj)} {g : Nat} {o o' : Obj} (h : Upd L g o o' L') : L'.map (·.1) = L.map (·.1) := by
  induction h with
  | here => rfl
  | there h ih => simp [ih]
theorem Upd.cases_ {L L' : List (Nat × Obj)} {g : Nat} {o o' : Obj} (h : Upd L g o o' L') (hn : L.Pairwise (fun p q => p.1 ≠ q.1)) : ∀ p ∈ L', p = (g, o') ∨ (p ∈ L ∧ p.1 ≠ g) := by
  induction h with
  | here =>
    intro p hp
    rcases List.mem_cons.1 hp with rfl | hp
    · exact .inl rfl
    · exact .inr ⟨List.mem_cons_of_mem _ hp, fun e => (List.pairwise_cons.1 hn).1 p hp e.symm⟩
  | there h ih =>
    intro p hp
    rcases List.mem_cons.1 hp with rfl | hp
    · exact .inr ⟨List.mem_cons_self, (List.pairwise_cons.1 hn).1 _ h.mem⟩
    · rcases ih (List.pairwise_cons.1 hn).2 p hp with h1 | ⟨h1, h2⟩
      · exact .inl h1
      · exact .inr ⟨List.mem_cons_of_mem _ h1, h2⟩
theorem pairwise_keys {L L' : List (Nat × Obj)} (h : L'.map (·.1) = L.map (·.1)) (hn : L.Pairwise (fun p q => p.1 ≠ q.1)) : L'.Pairwise (fun p q => p.1 ≠ q.1) := by
  have h1 : (L.map (·.1)).Pairwise (· ≠ ·) := List.pairwise_map.2 hn
  rw [← h] at h1
  exact List.pairwise_map.1 h1
theorem Upd.same {L L' : List (Nat × Obj)} {g : Nat} {o o' : Obj} (h : Upd L g o o' L') : o' = o → L' = L := by
  induction h with
  | here => intro e; rw [e]
  | there h ih => intro e; rw [ih e]
/-- One block's content turned. -/
theorem HH.upd {B : Nat} {w0 w w' : World} {L L' : List (Nat × Obj)} {g : Nat} {o o' : Obj} (H : HH B w0 w L) (hu : Upd L g o o' L') (hb : Below B w w') (hk : ∀ k, k < w.heap.size → k ≠ g → w'.heap[k]? = w.heap[k]?) (hg : w'.heap[g]? = some o') : HH B w0 w' L' := by
  refine ⟨H.below.trans hb, Nat.le_trans H.hB hb.size, ?_, pairwise_keys hu.keys H.nodup, ?_⟩
  · intro p hp
    rcases hu.cases_ H.nodup p hp with rfl | ⟨h1, _⟩
    · exact H.lo (g, o) hu.mem
    · exact H.lo p h1
  · intro p hp
    rcases hu.cases_ H.nodup p hp with rfl | ⟨h1, h2⟩
    · exact hg
    · rw [hk p.1 (H.lt h1) h2]
      exact H.at_ p h1
theorem HH.cell {B : Nat} {w0 w : World} {L L' : List (Nat × Obj)} {g : Nat} {cs : Array Value} {t : TypeId} {f : Nat × Nat} {o' : Obj} (H : HH B w0 w L) (hu : Upd L g (.cells cs t f) o' L') (j : Nat) : w.cell? ⟨g, j, none⟩ = cs[j]? := by
  have := H.at_ _ hu.mem
  simp [World.cell?, this]
theorem HH.thaw {B : Nat} {w0 w : World} {L L' : List (Nat × Obj)} {g : Nat} {cs : Array Value} {t : TypeId} {o' : Obj} (H : HH B w0 w L) (hu : Upd L g (.cells cs t (0, 0)) o' L') (j : Nat) : w.frozen? ⟨g, j, none⟩ = false := by
  have := H.at_ _ hu.mem
  simp [World.frozen?, this]
theorem HH.set {B : Nat} {w0 w : World} {L L' : List (Nat × Obj)} {g j : Nat} {cs : Array Value} {t : TypeId} {f : Nat × Nat} {v : Value} (H : HH B w0 w L) (hu : Upd L g (.cells cs t f) (.cells (cs.setIfInBounds j v) t f) L') : HH B w0 (w.setCell ⟨g, j, none⟩ v) L' := by
  have hat := H.at_ _ hu.mem
  refine H.upd hu ((Below.refl _ _).setCell (H.lo _ hu.mem) _) (fun k _ hk => Below.heap_setCell _ _ _ _ hk) ?_
  simp only [World.setCell, Array.getElem?_modify]
  rw [hat]
  simp
theorem HH.tail {B : Nat} {w0 w : World} {L : List (Nat × Obj)} {p : Nat × Obj} (H : HH B w0 w (p :: L)) : HH B w0 w L :=
  ⟨H.below, H.hB, fun q hq => H.lo q (List.mem_cons_of_mem _ hq), (List.pairwise_cons.1 H.nodup).2, fun q hq => H.at_ q (List.mem_cons_of_mem _ hq)⟩
theorem HH.sub {B : Nat} {w0 w : World} {L L' : List (Nat × Obj)} (H : HH B w0 w L) (hs : L'.Sublist L) : HH B w0 w L' :=
  ⟨H.below, H.hB, fun q hq => H.lo q (hs.subset hq), H.nodup.sublist hs, fun q hq => H.at_ q (hs.subset hq)⟩
theorem HH.perm {B : Nat} {w0 w : World} {L L' : List (Nat × Obj)} (H : HH B w0 w L) (hp : L.Perm L') : HH B w0 w L' :=
  ⟨H.below, H.hB, fun q hq => H.lo q (hp.symm.subset hq), (hp.pairwise_iff (fun h => Ne.symm h)).1 H.nodup, fun q hq => H.at_ q (hp.symm.subset hq)⟩
/-- What was there when the call began is there. -/
theorem HH.old {B : Nat} {w0 w : World} {L : List (Nat × Obj)} (H : HH B w0 w L) {p : Addr} (hp : p.block < B) : w.cell? p = w0.cell? p := H.below.cell hp

section
variable {P : Program} {ops : Array Oper} {rest : List Oper} {o : Oper} {a : Act} {Q : Exit → Act → World → Prop} {B : Nat} {w0 w : World} {L L' : List (Nat × Obj)}
theorem sv {w1 : World} {v : Value} (hgd : o.guard = none) (hrun : (execOp a.eval o).run P w = .ok (.value v) w1) (h : wpList P ops Q rest (a.put o.dst v) w1) : wpList P ops Q (o :: rest) a w := by
  refine wpList_plain hgd fun K hK => ?_
  unfold Oper.wp
  rw [hrun]
  exact hK _ _ h
theorem ss {w1 : World} (hgd : o.guard = none) (hrun : (execOp a.eval o).run P w = .ok .skip w1) (hN : o.dst = none) (h : wpList P ops Q rest a w1) : wpList P ops Q (o :: rest) a w := by
  refine wpList_plain hgd fun K hK => ?_
  unfold Oper.wp
  rw [hrun]
  show K (a.put o.dst undef) w1
  rw [hN]
  exact hK _ _ h
theorem g_alloc {t : TypeId} (_ho : o.op = .alloc t) (h : wpList P ops Q (o :: rest) a w) : wpList P ops Q (o :: rest) a w := h
theorem g_box {t : TypeId} {x : Operand} (_ho : o.op = .box t x) (h : wpList P ops Q (o :: rest) a w) : wpList P ops Q (o :: rest) a w := h
theorem g_load {t : TypeId} {x : Operand} (_ho : o.op = .load t x) (h : wpList P ops Q (o :: rest) a w) : wpList P ops Q (o :: rest) a w := h
theorem g_store {t : TypeId} {x y : Operand} (_ho : o.op = .store t x y) (h : wpList P ops Q (o :: rest) a w) : wpList P ops Q (o :: rest) a w := h
theorem g_func {fn : Fn} {x y : Array Operand} (_ho : o.op = .makeFunc fn x y) (h : wpList P ops Q (o :: rest) a w) : wpList P ops Q (o :: rest) a w := h
theorem g_conv {s t : TypeId} {x : Operand} (_ho : o.op = .convert s t x) (h : wpList P ops Q (o :: rest) a w) : wpList P ops Q (o :: rest) a w := h
theorem g_lit {t : TypeId} {n : Nat} {ps : Array (Nat × Operand)} (_ho : o.op = .buildSlice t n ps) (h : wpList P ops Q (o :: rest) a w) : wpList P ops Q (o :: rest) a w := h
theorem g_dst {N : Tmp} (_hN : o.dst = some N) (h : wpList P ops Q (o :: rest) a w) : wpList P ops Q (o :: rest) a w := h
/-- A new variable. -/
theorem HH.new (H : HH B w0 w L) {v : Nat → Value} {ob : Obj} (hgd : o.guard = none) (hrun : (execOp a.eval o).run P w = .ok (.value (v w.heap.size)) (w.alloc ob))
    (h : ∀ g w', HH B w0 w' ((g, ob) :: L) → wpList P ops Q rest (a.put o.dst (v g)) w') : wpList P ops Q (o :: rest) a w :=
  sv hgd hrun (h _ _ (H.alloc ob))
/-- A pointer to it. -/
theorem HH.newp (H : HH B w0 w L) {ob : Obj} (hgd : o.guard = none) (hrun : (execOp a.eval o).run P w = .ok (.value (.pointer (some ⟨w.heap.size, 0, none⟩))) (w.alloc ob))
    (h : ∀ g w', HH B w0 w' ((g, ob) :: L) → wpList P ops Q rest (a.put o.dst (.pointer (some ⟨g, 0, none⟩))) w') : wpList P ops Q (o :: rest) a w :=
  H.new (v := fun g => .pointer (some ⟨g, 0, none⟩)) hgd hrun h
/-- A slice over it. -/
theorem HH.news (H : HH B w0 w L) {ob : Obj} {n c : Nat} (hgd : o.guard = none) (hrun : (execOp a.eval o).run P w = .ok (.value (.slice (some ⟨w.heap.size, 0, none⟩) n c)) (w.alloc ob))
    (h : ∀ g w', HH B w0 w' ((g, ob) :: L) → wpList P ops Q rest (a.put o.dst (.slice (some ⟨g, 0, none⟩) n c)) w') : wpList P ops Q (o :: rest) a w :=
  H.new (v := fun g => .slice (some ⟨g, 0, none⟩) n c) hgd hrun h
/-- A store into one of its own cells. -/
theorem HH.put (H : HH B w0 w L) {t : TypeId} {x y : Operand} {g j : Nat} {cs : Array Value} {tt : TypeId} {f : Nat × Nat} {v : Value} (_ho : o.op = .store t x y) (hgd : o.guard = none) (hN : o.dst = none)
    (_hx : a.eval x = .pointer (some ⟨g, j, none⟩)) (hu : Upd L g (.cells cs tt f) (.cells (cs.setIfInBounds j v) tt f) L')
    (hrun : w.cell? ⟨g, j, none⟩ = cs[j]? → (execOp a.eval o).run P w = .ok .skip (w.setCell ⟨g, j, none⟩ v))
    (h : ∀ w', HH B w0 w' L' → wpList P ops Q rest a w') : wpList P ops Q (o :: rest) a w :=
  ss hgd (hrun (H.cell hu j)) hN (h _ (H.set hu))
/-- A load out of one of its own cells. -/
theorem HH.get (H : HH B w0 w L) {t : TypeId} {x : Operand} {g j : Nat} {cs : Array Value} {tt : TypeId} {f : Nat × Nat} {v : Value} (_ho : o.op = .load t x) (hgd : o.guard = none)
    (_hx : a.eval x = .pointer (some ⟨g, j, none⟩)) (hu : Upd L g (.cells cs tt f) (.cells cs tt f) L)
    (hv : cs[j]? = some v) (hrun : w.cell? ⟨g, j, none⟩ = some v → (execOp a.eval o).run P w = .ok (.value v) w)
    (h : wpList P ops Q rest (a.put o.dst v) w) : wpList P ops Q (o :: rest) a w :=
  sv hgd (hrun ((H.cell hu j).trans hv)) h
end
/-- A deferred closure that has nothing to recover, at the door. -/
theorem door {P : Program} {fn : Func} {R : Ending → World → Prop} {f : FuncId} {caps : Array Value} {tmps : Array Value} {w : World} {v : Value}
    (hidle : CallsD P f caps .returning w fun e u w' => e = .returned (.tuple #[]) ∧ u = .returning ∧ w' = w)
    (hrun : (invoke (.fn (.func f) caps) #[]).run P w = .ok (.enter f caps) w)
    (hres : (results fn tmps).run P w = .ok v w) (hR : R (.returned v) w) : bodyPostD P fn R .ret { tmps := tmps, defers := [{ target := .fn (.func f) caps, args := #[] }] } w := by
  refine leaves_cons (f := f) (args := caps) (by simp) hrun ?_
  refine hidle.mono ?_
  rintro e u w' ⟨rfl, rfl, rfl⟩
  simp only [Leaves, settle]
  exact ⟨v, hres, hR⟩
/-- Behind what has made memory, or has written to a row that is not among these. -/
theorem HH.later {B : Nat} {w0 w w' : World} {L : List (Nat × Obj)} (H : HH B w0 w L) (hb : Below w.heap.size w w') : HH B w0 w' L :=
  ⟨H.below.trans (hb.mono H.hB), Nat.le_trans H.hB hb.size, H.lo, H.nodup, fun p hp => (hb.block _ (H.lt hp)).trans (H.at_ p hp)⟩
theorem HH.grown {B : Nat} {w0 w w' : World} {L : List (Nat × Obj)} (H : HH B w0 w L) {row : Option Nat} (hg : w.grownBy w' row) (hr : ∀ k, row = some k → B ≤ k ∧ ∀ p ∈ L, p.1 ≠ k) : HH B w0 w' L :=
  ⟨H.below.grown hg H.hB (fun k hk => (hr k hk).1), Nat.le_trans H.hB hg.size, H.lo, H.nodup, fun p hp => (hg.block _ (H.lt hp) (fun e => (hr _ e.symm).2 p hp rfl)).trans (H.at_ p hp)⟩
end Go.Proofs.HHW
