/- Words of this seat's own: the steps of a region that draws its order. -/
import Derived.Test.YtnmelglnkefjfaaDoorSy
namespace Go.Proofs.HHW
open Go.RowKit YtnmelglnkefjfaaDoorW.PrintLast
set_option linter.unusedVariables false
set_option linter.unusedSimpArgs false
section
variable {P : Program} {ops : Array Oper} {Q : Exit → Act → World → Prop} {a : Act} {w : World} {B : Nat} {w0 : World} {L L' : List (Nat × Obj)} {n d : Nat} {ds : List Deferred} {F : List (Nat × Value)} {dss : List Nat} {fuel : Nat} {l : Array Bool}
theorem wanted_none {o : Oper} {y : Nat → Option Bool} (hg : o.guard = none) : Region.wanted o y = true := by unfold Region.wanted; rw [hg]
theorem yields_of {o oj : Oper} {j dj : Nat} {c b : Bool} (S : SL a n ds F) (hg : o.guard = some (j, b)) (hj : ops[j]? = some oj) (hd : oj.dst = some dj) (hs : slot F dj = some (.bool c)) : Region.wanted o (yielded ops a.tmps) = (c == b) := by
  unfold Region.wanted
  rw [hg]
  simp only [yielded, hj, hd, Option.bind_some, S.at_ dj _ hs]
  cases c <;> cases b <;> rfl
theorem wanted_on {o oj : Oper} {j dj : Nat} {c b : Bool} (S : SL a n ds F) (hg : o.guard = some (j, b)) (hj : ops[j]? = some oj) (hd : oj.dst = some dj) (hs : slot F dj = some (.bool c)) (hc : c = b) : Region.wanted o (yielded ops a.tmps) = true := by
  rw [yields_of S hg hj hd hs, hc]; simp
theorem wanted_off {o oj : Oper} {j dj : Nat} {c b : Bool} (S : SL a n ds F) (hg : o.guard = some (j, b)) (hj : ops[j]? = some oj) (hd : oj.dst = some dj) (hs : slot F dj = some (.bool c)) (hc : c = !b) : Region.wanted o (yielded ops a.tmps) = false := by
  rw [yields_of S hg hj hd hs, hc]; cases b <;> rfl
theorem d_start {id : Nat} (dss : List Nat) (N : Nat) (l : Array Bool) (H : HH B w0 w L) (hm : P.follows .mixedOrders = true) (hn : ops.size = N) (hl : Array.replicate N false = l)
    (h : ∀ w, HH B w0 w L → wpAnyLast P .any ops Q (fun w => HH B w0 w L) dss N l a w) : (Code.region id ops true).wp P Q a w :=
  start_ l hm hn hl H.drew (fun H' => h _ H')
theorem d_pure {i : Nat} {oi : Oper} {v : Value} (l' : Array Bool) (S : SL a n ds F) (hi : ops[i]? = some oi) (hp : Pure P F oi.op v) (hw : Region.wanted oi (yielded ops a.tmps) = true) (hd : oi.dst = some d) (hn : Nat.blt d n = true)
    (hc : anyB .any ops l l' i = true) (hQ : ∀ c (a : Act) w, Q (.panic c) (a.put oi.dst v) w → Q (.panic c) a w)
    (h : ∀ a, SL a n ds ((d, v) :: F) → wpAnyLast P .any ops Q (fun w => HH B w0 w L) dss fuel l' a w) : wpAnyLast P .any ops Q (fun w => HH B w0 w L) dss (fuel + 1) l a w :=
  pure_ l' hi rfl hc hQ (.inl ⟨hw, fun w => hp _ S.agree oi rfl w⟩) rfl (by rw [hd]; exact h _ (S.put hn v))
theorem d_read {i : Nat} {oi : Oper} {v : Value} (l' : Array Bool) (S : SL a n ds F) (H : HH B w0 w L) (hi : ops[i]? = some oi) (hp : Reads P F B w0 L oi.op v) (hw : Region.wanted oi (yielded ops a.tmps) = true) (hd : oi.dst = some d) (hn : Nat.blt d n = true)
    (hc : takeB .any ops dss l l' i = true) (hQ : ∀ c (a : Act) w, Q (.panic c) (a.put oi.dst v) w → Q (.panic c) a w)
    (h : ∀ a, SL a n ds ((d, v) :: F) → wpAnyLast P .any ops Q (fun w => HH B w0 w L) dss fuel l' a w) : wpAnyLast P .any ops Q (fun w => HH B w0 w L) dss (fuel + 1) l a w :=
  take_ l' hi rfl hc hQ (.inl ⟨hw, fun w hS => hp _ S.agree oi rfl w hS⟩) H rfl (by rw [hd]; exact h _ (S.put hn v))
/-- Its guard says no. -/
theorem d_off {i : Nat} {oi : Oper} (l' : Array Bool) (S : SL a n ds F) (hi : ops[i]? = some oi) (hw : Region.wanted oi (yielded ops a.tmps) = false) (hd : oi.dst = some d) (hn : Nat.blt d n = true)
    (hc : anyB .any ops l l' i = true) (hQ : ∀ c (a : Act) w, Q (.panic c) (a.put oi.dst undef) w → Q (.panic c) a w)
    (h : ∀ a, SL a n ds ((d, undef) :: F) → wpAnyLast P .any ops Q (fun w => HH B w0 w L) dss fuel l' a w) : wpAnyLast P .any ops Q (fun w => HH B w0 w L) dss (fuel + 1) l a w :=
  pure_ l' hi rfl hc hQ (.inr ⟨hw, rfl⟩) rfl (by rw [hd]; exact h _ (S.put hn undef))
theorem d_off0 {i : Nat} {oi : Oper} (l' : Array Bool) (S : SL a n ds F) (hi : ops[i]? = some oi) (hw : Region.wanted oi (yielded ops a.tmps) = false) (hd : oi.dst = none)
    (hc : anyB .any ops l l' i = true) (hQ : ∀ c (a : Act) w, Q (.panic c) (a.put oi.dst undef) w → Q (.panic c) a w)
    (h : wpAnyLast P .any ops Q (fun w => HH B w0 w L) dss fuel l' a w) : wpAnyLast P .any ops Q (fun w => HH B w0 w L) dss (fuel + 1) l a w :=
  pure_ l' hi rfl hc hQ (.inr ⟨hw, rfl⟩) rfl (by rw [hd]; exact h)
/-- The one operation that may come up now: it yields, and the world is another one. -/
theorem d_event {i : Nat} {oi : Oper} {v : Value} {w1 : World} (l' : Array Bool) (S : SL a n ds F) (hi : ops[i]? = some oi) (hr : ∀ ρ, Agree F ρ → (execOp ρ oi).run P w = .ok (.value v) w1) (hw : Region.wanted oi (yielded ops a.tmps) = true) (hd : oi.dst = some d) (hn : Nat.blt d n = true)
    (hc : readyB .any ops l l' i = true) (hds : dss.contains i = false) (H1 : HH B w0 w1 L)
    (h : ∀ a, SL a n ds ((d, v) :: F) → wpAnyLast P .any ops Q (fun w => HH B w0 w L) dss fuel l' a w1) : wpAnyLast P .any ops Q (fun w => HH B w0 w L) dss (fuel + 1) l a w :=
  one_ l' hi hd hc (by simpa using hds) (fun K hK => value_ hw hd (hr _ S.agree) (hK.out _ _ H1 (fun _ => h _ (S.put hn v))))
/-- The same for one of the last, behind which the list is another one. -/
theorem d_last {i : Nat} {oi : Oper} {v : Value} {w1 : World} (l' : Array Bool) (S : SL a n ds F) (hi : ops[i]? = some oi) (hr : ∀ ρ, Agree F ρ → (execOp ρ oi).run P w = .ok (.value v) w1) (hw : Region.wanted oi (yielded ops a.tmps) = true) (hd : oi.dst = some d) (hn : Nat.blt d n = true)
    (hc : readyB .any ops l l' i = true) (hds : dss.contains i = true)
    (h : ∀ a, SL a n ds ((d, v) :: F) → wpAnyLast P .any ops Q (fun w => HH B w0 w L) dss fuel l' a w1) : wpAnyLast P .any ops Q (fun w => HH B w0 w L) dss (fuel + 1) l a w :=
  last_ l' hi hd hc (by simpa using hds) (fun K hK => value_ hw hd (hr _ S.agree) (hK.out _ _ (h _ (S.put hn v))))
theorem d_last0 {i : Nat} {oi : Oper} {w1 : World} (l' : Array Bool) (S : SL a n ds F) (hi : ops[i]? = some oi) (hr : ∀ ρ, Agree F ρ → (execOp ρ oi).run P w = .ok .skip w1) (hw : Region.wanted oi (yielded ops a.tmps) = true) (hd : oi.dst = none)
    (hc : readyB .any ops l l' i = true) (hds : dss.contains i = true)
    (h : ∀ a, SL a n ds F → wpAnyLast P .any ops Q (fun w => HH B w0 w L) dss fuel l' a w1) : wpAnyLast P .any ops Q (fun w => HH B w0 w L) dss (fuel + 1) l a w :=
  last_ l' hi hd hc (by simpa using hds) (fun K hK => skip_ hw hd (hr _ S.agree) (hK.out _ _ (h _ S)))
/-- A call, by its contract. -/
theorem d_call {i : Nat} {oi : Oper} {f : FuncId} {fn : Func} {xs : List Operand} {ts : Array TypeId} {vs : List Value} {R : Ending → World → Prop} (l' : Array Bool) (S : SL a n ds F) (hi : ops[i]? = some oi)
    (ho : oi.op = .call { callee := .value (.func f), args := xs.toArray, argTypes := ts }) (hx : evs F xs = some vs) (hf : P.funcs[f]? = some fn) (hname : (fn.name == "runtime.NumGoroutine") = false) (hb : fn.body.isSome = true)
    (hcall : Calls P f vs.toArray w R) (hw : Region.wanted oi (yielded ops a.tmps) = true) (hd : oi.dst = some d) (hn : Nat.blt d n = true)
    (hc : readyB .any ops l l' i = true) (hds : dss.contains i = false)
    (h : ∀ e w, R e w → ∃ v, e = .returned v ∧ HH B w0 w L ∧ ∀ a, SL a n ds ((d, v) :: F) → wpAnyLast P .any ops Q (fun w => HH B w0 w L) dss fuel l' a w) : wpAnyLast P .any ops Q (fun w => HH B w0 w L) dss (fuel + 1) l a w := by
  refine one_ l' hi hd hc (by simpa using hds) (fun K hK => ?_)
  refine goes_ hf hname hb vs.toArray hw hd ho (by rw [List.map_toArray, S.agree.list hx]) (hcall.mono ?_)
  intro e w1 hr
  obtain ⟨v, he, H1, hk⟩ := h e w1 hr
  exact ⟨v, he, hK.out _ _ H1 (fun _ => hk _ (S.put hn v))⟩
theorem d_call_last {i : Nat} {oi : Oper} {f : FuncId} {fn : Func} {xs : List Operand} {ts : Array TypeId} {vs : List Value} {R : Ending → World → Prop} (l' : Array Bool) (S : SL a n ds F) (hi : ops[i]? = some oi)
    (ho : oi.op = .call { callee := .value (.func f), args := xs.toArray, argTypes := ts }) (hx : evs F xs = some vs) (hf : P.funcs[f]? = some fn) (hname : (fn.name == "runtime.NumGoroutine") = false) (hb : fn.body.isSome = true)
    (hcall : Calls P f vs.toArray w R) (hw : Region.wanted oi (yielded ops a.tmps) = true) (hd : oi.dst = some d) (hn : Nat.blt d n = true)
    (hc : readyB .any ops l l' i = true) (hds : dss.contains i = true)
    (h : ∀ e w, R e w → ∃ v, e = .returned v ∧ ∀ a, SL a n ds ((d, v) :: F) → wpAnyLast P .any ops Q (fun w => HH B w0 w L) dss fuel l' a w) : wpAnyLast P .any ops Q (fun w => HH B w0 w L) dss (fuel + 1) l a w := by
  refine last_ l' hi hd hc (by simpa using hds) (fun K hK => ?_)
  refine goes_ hf hname hb vs.toArray hw hd ho (by rw [List.map_toArray, S.agree.list hx]) (hcall.mono ?_)
  intro e w1 hr
  obtain ⟨v, he, hk⟩ := h e w1 hr
  exact ⟨v, he, hK.out _ _ (hk _ (S.put hn v))⟩
theorem d_done (hr : (Region.ready .any ops l == []) = true) (h : Q .normal a w) : wpAnyLast P .any ops Q (fun w => HH B w0 w L) dss fuel l a w := done_ hr h
end
/-- Where a function defers, a panic in a region that draws: what it would leave does not hang on a slot that is no result's. -/
theorem leaves_put {P : Program} {fn : Func} {R : Ending → World → Prop} {t t' : Array Value} (hr : results fn t = results fn t') : ∀ (ds : List Deferred) (u : FrameMode) (w : World), Leaves P fn t R ds u w → Leaves P fn t' R ds u w := by
  intro ds
  induction ds with
  | nil =>
    intro u w h
    cases u with
    | returning =>
      obtain ⟨v, h1, h2⟩ := h
      exact ⟨v, by rw [← hr]; exact h1, h2⟩
    | panicking c => exact h
    | run => exact h
  | cons d r ih =>
    intro u w h
    obtain ⟨h0, fv, cap, f, args, h1, h2, h3⟩ := h
    refine ⟨h0, fv, cap, f, args, h1, h2, h3.mono ?_⟩
    intro e u' w' h4
    cases e with
    | returned v => exact ih _ _ h4
    | panicked c => exact ih _ _ h4
    | outgrown => exact h4
theorem hq_d {P : Program} {fn : Func} {R : Ending → World → Prop} {d : Nat} {v : Value} (h : ∀ t : Array Value, results fn (t.setIfInBounds d v) = results fn t) : ∀ c (a : Act) w, bodyPostD P fn R (.panic c) (a.put (some d) v) w → bodyPostD P fn R (.panic c) a w := by
  intro c a w hh
  exact leaves_put (h _) _ _ _ hh
end Go.Proofs.HHW
