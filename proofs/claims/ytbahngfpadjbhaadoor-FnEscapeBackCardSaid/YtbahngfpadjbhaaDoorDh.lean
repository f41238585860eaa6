/- Words of this seat's own: regions that draw: new blocks ('alloc', 'box', a literal), behind which the list is longer. -/
import Derived.Test.YtbahngfpadjbhaaDoorDg
namespace Go.Proofs.HHW
open Go.RowKit Go.Proofs.YtbahngfpadjbhaaDoorW.PrintWords YtbahngfpadjbhaaDoorW.PrintLast
set_option linter.unusedVariables false
set_option linter.unusedSimpArgs false
section
variable {P : Program} {ops : Array Oper} {Q : Exit → Act → World → Prop} {a : Act} {n : Nat} {ds : List Deferred} {F : List (Nat × Value)} {B : Nat} {w0 w : World} {L L2 : List (Nat × Obj)} {d : Nat} {dss : List Nat} {fuel : Nat} {l : Array Bool} {i : Nat} {oi : Oper}
/-- An operation that makes one block: behind it the list is longer, and what the region keeps holds. -/
theorem d_new {v : Nat → Value} {ob : Obj} (l' : Array Bool) (S : SL a n ds F) (hs : L.Sublist L2) (H : HH B w0 w L2) (hi : ops[i]? = some oi)
    (hr : ∀ ρ, Agree F ρ → (execOp ρ oi).run P w = .ok (.value (v w.heap.size)) (w.alloc ob)) (hw : Region.wanted oi (yielded ops a.tmps) = true) (hd : oi.dst = some d) (hn : Nat.blt d n = true)
    (hc : readyB .any ops l l' i = true) (hds : dss.contains i = false)
    (h : ∀ g w a, HH B w0 w ((g, ob) :: L2) → SL a n ds ((d, v g) :: F) → wpAnyLast P .any ops Q (fun w => HH B w0 w L) dss fuel l' a w) : wpAnyLast P .any ops Q (fun w => HH B w0 w L) dss (fuel + 1) l a w :=
  one_ l' hi hd hc (by simpa using hds) (fun K hK => value_ hw hd (hr _ S.agree) (hK.out _ _ ((H.alloc ob).tail.sub hs) (fun _ => h _ _ _ (H.alloc ob) (S.put hn _))))
theorem d_alloc {t : TypeId} {cs : Array Value} (l' : Array Bool) (S : SL a n ds F) (hs : L.Sublist L2) (H : HH B w0 w L2) (hi : ops[i]? = some oi) (ho : oi.op = .alloc t)
    (hr : ∀ w : World, (Instr.alloc t true (.tuple #[])).run P w = .ok (.pointer (some ⟨w.heap.size, 0, none⟩)) (w.alloc (.cells cs t (0, 0)))) (hw : Region.wanted oi (yielded ops a.tmps) = true) (hd : oi.dst = some d) (hn : Nat.blt d n = true)
    (hc : readyB .any ops l l' i = true) (hds : dss.contains i = false)
    (h : ∀ g w a, HH B w0 w ((g, .cells cs t (0, 0)) :: L2) → SL a n ds ((d, .pointer (some ⟨g, 0, none⟩)) :: F) → wpAnyLast P .any ops Q (fun w => HH B w0 w L) dss fuel l' a w) : wpAnyLast P .any ops Q (fun w => HH B w0 w L) dss (fuel + 1) l a w := by
  refine d_new (v := fun g => .pointer (some ⟨g, 0, none⟩)) l' S hs H hi (fun ρ A => ?_) hw hd hn hc hds h
  unfold execOp
  simp only [ho]
  exact run_v (hr w)
theorem d_box {t : TypeId} {x : Operand} {v : Value} {cs : Array Value} (l' : Array Bool) (S : SL a n ds F) (hs : L.Sublist L2) (H : HH B w0 w L2) (hi : ops[i]? = some oi) (ho : oi.op = .box t x) (hx : ev F x = some v)
    (hr : ∀ w : World, (Instr.box t v).run P w = .ok (.pointer (some ⟨w.heap.size, 0, none⟩)) (w.alloc (.cells cs t (0, 0)))) (hw : Region.wanted oi (yielded ops a.tmps) = true) (hd : oi.dst = some d) (hn : Nat.blt d n = true)
    (hc : readyB .any ops l l' i = true) (hds : dss.contains i = false)
    (h : ∀ g w a, HH B w0 w ((g, .cells cs t (0, 0)) :: L2) → SL a n ds ((d, .pointer (some ⟨g, 0, none⟩)) :: F) → wpAnyLast P .any ops Q (fun w => HH B w0 w L) dss fuel l' a w) : wpAnyLast P .any ops Q (fun w => HH B w0 w L) dss (fuel + 1) l a w := by
  refine d_new (v := fun g => .pointer (some ⟨g, 0, none⟩)) l' S hs H hi (fun ρ A => ?_) hw hd hn hc hds h
  unfold execOp
  simp only [ho]
  rw [A x v hx]
  exact run_v (hr w)
/-- A literal's run. -/
theorem lit_run (xs : List Operand) {vs : List Value} {t e : TypeId} {len : Nat} {z : Value} (ho : oi.op = .buildSlice t len ((xs.zipIdx 0).map fun x => (x.2, x.1)).toArray) (hx : evs F xs = some vs)
    (hu : P.underlying t = some (.slice e)) (hsz : szB P e = some 1) (hz : zvB P e = some z) (hlen : len = vs.length) (hpos : (Nat.blt 0 len && Nat.ble len 1000) = true) (h1 : ∀ v ∈ vs, v.cells = #[v]) :
    ∀ ρ, Agree F ρ → (execOp ρ oi).run P w = .ok (.value (.slice (some ⟨w.heap.size, 0, none⟩) len len)) (w.alloc (.cells vs.toArray e (0, 0))) := by
  have hp : 0 < len ∧ len ≤ 1000 := by simpa using hpos
  intro ρ A
  unfold execOp
  simp only [ho]
  refine run_v ?_
  obtain ⟨ie, hie, hiz⟩ := Option.bind_eq_some_iff.1 hz
  obtain ⟨ie', hie', his⟩ := Option.map_eq_some_iff.1 hsz
  rw [hie] at hie'
  injection hie' with e1
  subst e1
  refine run_buildSlice w t e len _ vs.toArray ie z hu hie hiz (by rw [his]; omega) (by rw [his]; omega) ?_
  rw [parts_ev (A.list hx), his]
  exact Great.fill_flat vs _ h1 (by simp [hlen])
/-! Where several operations may come up ('one_', 'two_', 'three_'): each one's own way: 'W' is what follows it. -/
section
variable {K : Act → World → Prop} {li : Array Bool}
theorem e_new {v : Nat → Value} {ob : Obj} (hK : Shut (∀ a' w', HH B w0 w' L → (HH B w0 w' L → wpAnyLast P .any ops Q (fun w => HH B w0 w L) dss fuel li a' w') → K a' w')) (hi : ops[i]? = some oi) (S : SL a n ds F) (hs : L.Sublist L2) (H : HH B w0 w L2)
    (hr : ∀ ρ, Agree F ρ → (execOp ρ oi).run P w = .ok (.value (v w.heap.size)) (w.alloc ob)) (hw : Region.wanted oi (yielded ops a.tmps) = true) (hd : oi.dst = some d) (hn : Nat.blt d n = true)
    (h : ∀ g w a, HH B w0 w ((g, ob) :: L2) → SL a n ds ((d, v g) :: F) → wpAnyLast P .any ops Q (fun w => HH B w0 w L) dss fuel li a w) : if Region.wanted oi (yielded ops a.tmps) = true then Oper.wp P oi a w K Q else K (a.put (some d) undef) w :=
  value_ hw hd (hr _ S.agree) (hK.out _ _ ((H.alloc ob).tail.sub hs) (fun _ => h _ _ _ (H.alloc ob) (S.put hn _)))
theorem e_lit (xs : List Operand) {vs : List Value} {t e : TypeId} {len : Nat} {z : Value} (hK : Shut (∀ a' w', HH B w0 w' L → (HH B w0 w' L → wpAnyLast P .any ops Q (fun w => HH B w0 w L) dss fuel li a' w') → K a' w')) (hi : ops[i]? = some oi) (S : SL a n ds F) (hs : L.Sublist L2) (H : HH B w0 w L2)
    (ho : oi.op = .buildSlice t len ((xs.zipIdx 0).map fun x => (x.2, x.1)).toArray) (hx : evs F xs = some vs)
    (hu : P.underlying t = some (.slice e)) (hsz : szB P e = some 1) (hz : zvB P e = some z) (hlen : len = vs.length) (hpos : (Nat.blt 0 len && Nat.ble len 1000) = true) (h1 : ∀ v ∈ vs, v.cells = #[v])
    (hw : Region.wanted oi (yielded ops a.tmps) = true) (hd : oi.dst = some d) (hn : Nat.blt d n = true)
    (h : ∀ g w a, HH B w0 w ((g, .cells vs.toArray e (0, 0)) :: L2) → SL a n ds ((d, .slice (some ⟨g, 0, none⟩) len len) :: F) → wpAnyLast P .any ops Q (fun w => HH B w0 w L) dss fuel li a w) : if Region.wanted oi (yielded ops a.tmps) = true then Oper.wp P oi a w K Q else K (a.put (some d) undef) w :=
  e_new (v := fun g => .slice (some ⟨g, 0, none⟩) len len) hK hi S hs H (lit_run xs ho hx hu hsz hz hlen hpos h1) hw hd hn h
theorem e_alloc {t : TypeId} {cs : Array Value} (hK : Shut (∀ a' w', HH B w0 w' L → (HH B w0 w' L → wpAnyLast P .any ops Q (fun w => HH B w0 w L) dss fuel li a' w') → K a' w')) (hi : ops[i]? = some oi) (S : SL a n ds F) (hs : L.Sublist L2) (H : HH B w0 w L2) (ho : oi.op = .alloc t)
    (hr : ∀ w : World, (Instr.alloc t true (.tuple #[])).run P w = .ok (.pointer (some ⟨w.heap.size, 0, none⟩)) (w.alloc (.cells cs t (0, 0)))) (hw : Region.wanted oi (yielded ops a.tmps) = true) (hd : oi.dst = some d) (hn : Nat.blt d n = true)
    (h : ∀ g w a, HH B w0 w ((g, .cells cs t (0, 0)) :: L2) → SL a n ds ((d, .pointer (some ⟨g, 0, none⟩)) :: F) → wpAnyLast P .any ops Q (fun w => HH B w0 w L) dss fuel li a w) : if Region.wanted oi (yielded ops a.tmps) = true then Oper.wp P oi a w K Q else K (a.put (some d) undef) w :=
  e_new (v := fun g => .pointer (some ⟨g, 0, none⟩)) hK hi S hs H (fun ρ A => by unfold execOp; simp only [ho]; exact run_v (hr w)) hw hd hn h
theorem e_read {v : Value} (hK : Shut (∀ a' w', HH B w0 w' L → (HH B w0 w' L → wpAnyLast P .any ops Q (fun w => HH B w0 w L) dss fuel li a' w') → K a' w')) (hi : ops[i]? = some oi) (S : SL a n ds F) (hs : L.Sublist L2) (H : HH B w0 w L2) (hp : Reads P F B w0 L2 oi.op v)
    (hw : Region.wanted oi (yielded ops a.tmps) = true) (hd : oi.dst = some d) (hn : Nat.blt d n = true) (h : ∀ a, SL a n ds ((d, v) :: F) → wpAnyLast P .any ops Q (fun w => HH B w0 w L) dss fuel li a w) : if Region.wanted oi (yielded ops a.tmps) = true then Oper.wp P oi a w K Q else K (a.put (some d) undef) w :=
  value_ hw hd (hp _ S.agree oi rfl w H) (hK.out _ _ (H.sub hs) (fun _ => h _ (S.put hn _)))
theorem e_call {f : FuncId} {fn : Func} {xs : List Operand} {ts : Array TypeId} {vs : List Value} {R : Ending → World → Prop} (hK : Shut (∀ a' w', HH B w0 w' L → (HH B w0 w' L → wpAnyLast P .any ops Q (fun w => HH B w0 w L) dss fuel li a' w') → K a' w')) (hi : ops[i]? = some oi) (S : SL a n ds F)
    (ho : oi.op = .call { callee := .value (.func f), args := xs.toArray, argTypes := ts }) (hx : evs F xs = some vs) (hf : P.funcs[f]? = some fn) (hname : (fn.name == "runtime.NumGoroutine") = false) (hb : fn.body.isSome = true)
    (hcall : Calls P f vs.toArray w R) (hw : Region.wanted oi (yielded ops a.tmps) = true) (hd : oi.dst = some d) (hn : Nat.blt d n = true)
    (h : ∀ e w, R e w → ∃ v, e = .returned v ∧ HH B w0 w L ∧ ∀ a, SL a n ds ((d, v) :: F) → wpAnyLast P .any ops Q (fun w => HH B w0 w L) dss fuel li a w) : if Region.wanted oi (yielded ops a.tmps) = true then Oper.wp P oi a w K Q else K (a.put (some d) undef) w := by
  refine goes_ hf hname hb vs.toArray hw hd ho (by rw [List.map_toArray, S.agree.list hx]) (hcall.mono ?_)
  intro e w1 hr
  obtain ⟨v, he, H1, hk⟩ := h e w1 hr
  exact ⟨v, he, hK.out _ _ H1 (fun _ => hk _ (S.put hn v))⟩
end
theorem d_lit (xs : List Operand) {vs : List Value} {t e : TypeId} {len : Nat} {z : Value} (l' : Array Bool) (S : SL a n ds F) (hs : L.Sublist L2) (H : HH B w0 w L2) (hi : ops[i]? = some oi) (ho : oi.op = .buildSlice t len ((xs.zipIdx 0).map fun x => (x.2, x.1)).toArray) (hx : evs F xs = some vs)
    (hu : P.underlying t = some (.slice e)) (hsz : szB P e = some 1) (hz : zvB P e = some z) (hlen : len = vs.length) (hpos : (Nat.blt 0 len && Nat.ble len 1000) = true) (h1 : ∀ v ∈ vs, v.cells = #[v])
    (hw : Region.wanted oi (yielded ops a.tmps) = true) (hd : oi.dst = some d) (hn : Nat.blt d n = true) (hc : readyB .any ops l l' i = true) (hds : dss.contains i = false)
    (h : ∀ g w a, HH B w0 w ((g, .cells vs.toArray e (0, 0)) :: L2) → SL a n ds ((d, .slice (some ⟨g, 0, none⟩) len len) :: F) → wpAnyLast P .any ops Q (fun w => HH B w0 w L) dss fuel l' a w) : wpAnyLast P .any ops Q (fun w => HH B w0 w L) dss (fuel + 1) l a w := by
  have hp : 0 < len ∧ len ≤ 1000 := by simpa using hpos
  refine d_new (v := fun g => .slice (some ⟨g, 0, none⟩) len len) l' S hs H hi (fun ρ A => ?_) hw hd hn hc hds h
  unfold execOp
  simp only [ho]
  refine run_v ?_
  obtain ⟨ie, hie, hiz⟩ := Option.bind_eq_some_iff.1 hz
  obtain ⟨ie', hie', his⟩ := Option.map_eq_some_iff.1 hsz
  rw [hie] at hie'
  injection hie' with e1
  subst e1
  refine run_buildSlice w t e len _ vs.toArray ie z hu hie hiz (by rw [his]; omega) (by rw [his]; omega) ?_
  rw [parts_ev (A.list hx), his]
  exact Great.fill_flat vs _ h1 (by simp [hlen])
end
end Go.Proofs.HHW
