/- Words of this seat's own: calls of function values; type assertions. -/
import Derived.Test.YtbahngfpadjbhaaDoorDe
namespace Go.Proofs.HHW
open Go.RowKit Go.Proofs.YtbahngfpadjbhaaDoorW.PrintWords
set_option linter.unusedVariables false
set_option linter.unusedSimpArgs false
section
variable {P : Program} {ops : Array Oper} {Q : Exit → Act → World → Prop} {o : Oper} {rest : List Oper} {a : Act} {n : Nat} {ds : List Deferred} {F : List (Nat × Value)} {B : Nat} {w0 w : World} {L : List (Nat × Obj)} {d : Nat}
theorem run_callv {ρ : Operand → Value} {x : Operand} {xs : List Operand} {ts : Array TypeId} {vs us cs : List Value} {f : FuncId} {fn : Func} (A : Agree F ρ) (ho : o.op = .call { callee := .value x, args := xs.toArray, argTypes := ts }) (hv : ev F x = some (.func (.func f) us.toArray cs.toArray)) (hx : evs F xs = some vs)
    (hf : P.funcs[f]? = some fn) (hname : (fn.name == "runtime.NumGoroutine") = false) (hb : fn.body.isSome = true) : (execOp ρ o).run P w = .ok (.enter f (us ++ vs ++ cs).toArray) w := by
  have he := YtbahngfpadjbhaaDoorW.PrintLast.enters_ hf hname hb (us ++ vs ++ cs).toArray w
  unfold execOp
  simp only [ho, resolve, List.map_toArray, A.list hx]
  rw [A x _ hv]
  simpa [Deferred.ofValue, invoke] using he
theorem l_callv {f : FuncId} {fn : Func} {x : Operand} {xs : List Operand} {ts : Array TypeId} {vs us cs : List Value} {R : Ending → World → Prop} (S : SL a n ds F) (ho : o.op = .call { callee := .value x, args := xs.toArray, argTypes := ts }) (hv : ev F x = some (.func (.func f) us.toArray cs.toArray)) (hx : evs F xs = some vs)
    (hf : P.funcs[f]? = some fn) (hname : (fn.name == "runtime.NumGoroutine") = false) (hb : fn.body.isSome = true)
    (hc : Calls P f (us ++ vs ++ cs).toArray w R) (hg : o.guard = none) (hd : o.dst = some d) (hn : Nat.blt d n = true)
    (h : ∀ e w, R e w → ∃ v, e = .returned v ∧ ∀ a, SL a n ds ((d, v) :: F) → wpList P ops Q rest a w) : wpList P ops Q (o :: rest) a w := by
  refine wpList_plain hg fun K hK => ?_
  have hrun := run_callv (w := w) S.agree ho hv hx hf hname hb
  unfold Oper.wp
  rw [hrun, Oper.upon_enter]
  refine hc.mono fun e w'' hh => ?_
  obtain ⟨v, rfl, hk⟩ := h e w'' hh
  rw [hd]
  exact hK _ _ (hk _ (S.put hn v))
theorem p_ta {x : Operand} {xt at_ : TypeId} {ok : Bool} {u v : Value} (hx : ev F x = some u) (h : ∀ w, (Instr.typeAssert u xt at_ ok).run P w = .ok v w) : Pure P F (.typeAssert x xt at_ ok) v := by
  intro ρ A o ho w
  unfold execOp
  simp only [ho]
  rw [A x _ hx]
  exact run_v (h w)
theorem least_one (x : String) : ∃ m, (match List.partition (fun (s : String) => s.contains (Char.ofNat 46)) [x] with | (unexported, exported) => Instr.least exported <|> Instr.least (unexported.map fun id => (id.splitOn ".").getLastD id)) = some m := by
  by_cases h : x.contains (Char.ofNat 46) = true
  · exact ⟨_, by simp [List.partition, List.partition.loop, h, Instr.least]; rfl⟩
  · exact ⟨x, by simp [List.partition, List.partition.loop, h, Instr.least]⟩
/-- One method is lacking: the assertion fails. -/
theorem ta_no {P : Program} {xt at_ t : TypeId} {v z : Value} {want : Array (String × TypeId)} {x : String} (hu : P.underlying at_ = some (.interface want)) (hi : (P.info? t).map (fun i => (want.toList.filter fun q => !i.methods.any fun m => m.name == q.1 && m.sig == q.2).map (·.1)) = some [x]) (hz : zvB P at_ = some z) (w : World) :
    (Instr.typeAssert (.iface t v) xt at_ true).run P w = .ok (.tuple #[z, .bool false]) w := by
  obtain ⟨i, hi1, hi2⟩ := Option.map_eq_some_iff.1 hi
  obtain ⟨m, hm⟩ := least_one x
  have hmm : Instr.missingMethod want i.methods = some m := by
    unfold Instr.missingMethod
    simp only
    rw [hi2]
    exact hm
  unfold Instr.typeAssert
  simp only
  rw [Sem.run_bind, run_underlying hu]
  simp only [Result.andThen]
  rw [Sem.run_bind, run_info hi1]
  simp only [Result.andThen, hmm, if_true]
  rw [Sem.run_bind, run_zero hz]
  rfl
theorem p_ifsameE {t t' u e : TypeId} {x y : Operand} {ad : Addr} (ht : P.underlying t = some (.interface (P.methodsAt t))) (hi : (P.info? u).map (fun i => i.comparable) = some true) (hp : P.underlying u = some (.pointer e)) (hs : (szB P e).isSome = true) (hx : ev F x = some (.iface u (.pointer (some ad)))) (hy : ev F y = some (.iface u (.pointer (some ad)))) : Pure P F (.binOp .eql t x y t') (.bool true) :=
  p_bin hx hy (fun _ => rfl) (fun w => by
    show ((Op.equal t (.iface u (.pointer (some ad))) (.iface u (.pointer (some ad)))) >>= fun r => pure (Value.bool r)).run P w = _
    obtain ⟨i, hi1, hi2⟩ := Option.map_eq_some_iff.1 hi
    rw [Sem.run_bind, run_equal_if_same w ht hi1 hi2 hp hs]
    rfl)
theorem d_invoke {dss : List Nat} {fuel : Nat} {l : Array Bool} {i : Nat} {oi : Oper} {f : FuncId} {fn : Func} {x : Operand} {name : String} {xs : List Operand} {ts : Array TypeId} {t : TypeId} {rv : Value} {vs : List Value} {R : Ending → World → Prop} (l' : Array Bool) (S : SL a n ds F) (hi : ops[i]? = some oi) (ho : oi.op = .call { callee := .invoke x name, args := xs.toArray, argTypes := ts }) (hv : ev F x = some (.iface t rv)) (hx : evs F xs = some vs)
    (hm : (method (P.types.size + Made.depth) t rv name).run P w = .ok (f, rv) w) (hf : P.funcs[f]? = some fn) (hname : (fn.name == "runtime.NumGoroutine") = false) (hb : fn.body.isSome = true)
    (hcall : Calls P f (rv :: vs).toArray w R) (hw : Region.wanted oi (yielded ops a.tmps) = true) (hd : oi.dst = some d) (hn : Nat.blt d n = true)
    (hc : YtbahngfpadjbhaaDoorW.PrintLast.readyB .any ops l l' i = true) (hds : dss.contains i = false)
    (h : ∀ e w, R e w → ∃ v, e = .returned v ∧ HH B w0 w L ∧ ∀ a, SL a n ds ((d, v) :: F) → YtbahngfpadjbhaaDoorW.PrintLast.wpAnyLast P .any ops Q (fun w => HH B w0 w L) dss fuel l' a w) : YtbahngfpadjbhaaDoorW.PrintLast.wpAnyLast P .any ops Q (fun w => HH B w0 w L) dss (fuel + 1) l a w := by
  refine YtbahngfpadjbhaaDoorW.PrintLast.one_ l' hi hd hc (by simpa using hds) (fun K' hK => ?_)
  refine YtbahngfpadjbhaaDoorW.PrintLast.call_ f (rv :: vs).toArray hw hd (run_invoke (w := w) S.agree ho hv hx hm hf hname hb) (hcall.mono ?_)
  intro e w1 hr
  obtain ⟨v, he, H1, hk⟩ := h e w1 hr
  exact ⟨v, he, hK.out _ _ H1 (fun _ => hk _ (S.put hn v))⟩
end
end Go.Proofs.HHW
