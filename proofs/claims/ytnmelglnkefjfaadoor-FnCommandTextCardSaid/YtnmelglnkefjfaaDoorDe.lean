/- Words of this seat's own: calls through an interface value, new rows, struct values, the lesser and the greater, values of interface types compared. -/
import Derived.Test.YtnmelglnkefjfaaDoorSv
import Derived.LaidEql
import Derived.WideLaws
import Derived.Laws.MakeOwn
namespace Go.Proofs.HHW
open Go.RowKit Go.Proofs.YtnmelglnkefjfaaDoorW.PrintWords
set_option linter.unusedVariables false
set_option linter.unusedSimpArgs false
section
variable {P : Program} {ops : Array Oper} {Q : Exit → Act → World → Prop} {o : Oper} {rest : List Oper} {a : Act} {n : Nat} {ds : List Deferred} {F : List (Nat × Value)} {B : Nat} {w0 w : World} {L : List (Nat × Obj)} {d : Nat}
/-! ### a call through an interface value -/
theorem run_invoke {ρ : Operand → Value} {x : Operand} {name : String} {xs : List Operand} {ts : Array TypeId} {t : TypeId} {rv : Value} {vs : List Value} {f : FuncId} {fn : Func} (A : Agree F ρ) (ho : o.op = .call { callee := .invoke x name, args := xs.toArray, argTypes := ts }) (hv : ev F x = some (.iface t rv)) (hx : evs F xs = some vs)
    (hm : (method (P.types.size + Made.depth) t rv name).run P w = .ok (f, rv) w) (hf : P.funcs[f]? = some fn) (hname : (fn.name == "runtime.NumGoroutine") = false) (hb : fn.body.isSome = true) : (execOp ρ o).run P w = .ok (.enter f (rv :: vs).toArray) w := by
  have he := YtnmelglnkefjfaaDoorW.PrintLast.enters_ hf hname hb (rv :: vs).toArray w
  unfold execOp
  simp only [ho, resolve]
  rw [A x _ hv, List.map_toArray, A.list hx, Sem.run_bind]
  simp only [Result.andThen]
  show (invoke (.fn (.method name) #[]) (#[.iface t rv] ++ vs.toArray)).run P w = _
  unfold invoke
  have e1 : (#[Value.iface t rv] ++ vs.toArray)[0]? = some (.iface t rv) := by simp
  have e2 : (#[Value.iface t rv] ++ vs.toArray).extract 1 (#[Value.iface t rv] ++ vs.toArray).size = vs.toArray := by
    apply Array.toList_inj.1; simp
  simp only [e1, e2]
  unfold callMethod
  simp only
  rw [Sem.run_bind, show (program.run P w) = .ok P w from rfl]
  simp only [Result.andThen]
  rw [Sem.run_bind, hm]
  simp only [Result.andThen]
  rw [show #[rv] ++ vs.toArray = (rv :: vs).toArray by simp]
  exact he
theorem l_invoke {f : FuncId} {fn : Func} {x : Operand} {name : String} {xs : List Operand} {ts : Array TypeId} {t : TypeId} {rv : Value} {vs : List Value} {R : Ending → World → Prop} (S : SL a n ds F) (ho : o.op = .call { callee := .invoke x name, args := xs.toArray, argTypes := ts }) (hv : ev F x = some (.iface t rv)) (hx : evs F xs = some vs)
    (hm : (method (P.types.size + Made.depth) t rv name).run P w = .ok (f, rv) w) (hf : P.funcs[f]? = some fn) (hname : (fn.name == "runtime.NumGoroutine") = false) (hb : fn.body.isSome = true)
    (hc : Calls P f (rv :: vs).toArray w R) (hg : o.guard = none) (hd : o.dst = some d) (hn : Nat.blt d n = true)
    (h : ∀ e w, R e w → ∃ v, e = .returned v ∧ ∀ a, SL a n ds ((d, v) :: F) → wpList P ops Q rest a w) : wpList P ops Q (o :: rest) a w := by
  refine wpList_plain hg fun K hK => ?_
  have hrun := run_invoke (w := w) S.agree ho hv hx hm hf hname hb
  unfold Oper.wp
  rw [hrun, Oper.upon_enter]
  refine hc.mono fun e w'' hh => ?_
  obtain ⟨v, rfl, hk⟩ := h e w'' hh
  rw [hd]
  exact hK _ _ (hk _ (S.put hn v))
theorem d_invoke_last {dss : List Nat} {fuel : Nat} {l : Array Bool} {K : World → Prop} {i : Nat} {oi : Oper} {f : FuncId} {fn : Func} {x : Operand} {name : String} {xs : List Operand} {ts : Array TypeId} {t : TypeId} {rv : Value} {vs : List Value} {R : Ending → World → Prop} (l' : Array Bool) (S : SL a n ds F) (hi : ops[i]? = some oi) (ho : oi.op = .call { callee := .invoke x name, args := xs.toArray, argTypes := ts }) (hv : ev F x = some (.iface t rv)) (hx : evs F xs = some vs)
    (hm : (method (P.types.size + Made.depth) t rv name).run P w = .ok (f, rv) w) (hf : P.funcs[f]? = some fn) (hname : (fn.name == "runtime.NumGoroutine") = false) (hb : fn.body.isSome = true)
    (hcall : Calls P f (rv :: vs).toArray w R) (hw : Region.wanted oi (yielded ops a.tmps) = true) (hd : oi.dst = some d) (hn : Nat.blt d n = true)
    (hc : YtnmelglnkefjfaaDoorW.PrintLast.readyB .any ops l l' i = true) (hds : dss.contains i = true)
    (h : ∀ e w, R e w → ∃ v, e = .returned v ∧ ∀ a, SL a n ds ((d, v) :: F) → YtnmelglnkefjfaaDoorW.PrintLast.wpAnyLast P .any ops Q K dss fuel l' a w) : YtnmelglnkefjfaaDoorW.PrintLast.wpAnyLast P .any ops Q K dss (fuel + 1) l a w := by
  refine YtnmelglnkefjfaaDoorW.PrintLast.last_ l' hi hd hc (by simpa using hds) (fun K' hK => ?_)
  refine YtnmelglnkefjfaaDoorW.PrintLast.call_ f (rv :: vs).toArray hw hd (run_invoke (w := w) S.agree ho hv hx hm hf hname hb) (hcall.mono ?_)
  intro e w1 hr
  obtain ⟨v, he, hk⟩ := h e w1 hr
  exact ⟨v, he, hK.out _ _ (hk _ (S.put hn v))⟩
/-- A store of what is there already: it may come up before loads that do not wait for it. -/
theorem d_storeS {dss : List Nat} {fuel : Nat} {l : Array Bool} {i : Nat} {oi : Oper} {t : TypeId} {x y : Operand} {g j : Nat} {cs : Array Value} {tt : TypeId} {v : Value} (l' : Array Bool) (S : SL a n ds F) (H : HH B w0 w L) (hi : ops[i]? = some oi) (ho : oi.op = .store t x y)
    (hx : ev F x = some (.pointer (some ⟨g, j, none⟩))) (hy : ev F y = some v) (hu : Upd L g (.cells cs tt (0, 0)) (.cells cs tt (0, 0)) L) (hv : cs.setIfInBounds j v = cs) (hj : j < cs.size)
    (hr : ∀ (w : World) u, w.cell? ⟨g, j, none⟩ = some u → w.frozen? ⟨g, j, none⟩ = false → (Instr.storeAt t (.pointer (some ⟨g, j, none⟩)) v).run P w = .ok () (w.setCell ⟨g, j, none⟩ v))
    (hw : Region.wanted oi (yielded ops a.tmps) = true) (hd : oi.dst = none) (hc : YtnmelglnkefjfaaDoorW.PrintLast.readyB .any ops l l' i = true) (hds : dss.contains i = false)
    (h : ∀ w a, HH B w0 w L → SL a n ds F → YtnmelglnkefjfaaDoorW.PrintLast.wpAnyLast P .any ops Q (fun w => HH B w0 w L) dss fuel l' a w) : YtnmelglnkefjfaaDoorW.PrintLast.wpAnyLast P .any ops Q (fun w => HH B w0 w L) dss (fuel + 1) l a w :=
  YtnmelglnkefjfaaDoorW.PrintLast.one_ l' hi hd hc (by simpa using hds) (fun K hK => YtnmelglnkefjfaaDoorW.PrintLast.skip_ hw hd (run_store_at S.agree H ho hx hy (Upd.cast hv hu) hj hr) (hK.out _ _ (H.set (Upd.cast hv hu)) (fun _ => h _ _ (H.set (Upd.cast hv hu)) S)))
/-! ### struct values, new rows -/
def evp (F : List (Nat × Value)) : List (Nat × Operand) → Option (List (Nat × Value))
  | [] => some []
  | (i, x) :: r => match ev F x, evp F r with
    | some v, some vs => some ((i, v) :: vs)
    | _, _ => none
theorem Agree.parts {ρ : Operand → Value} (A : Agree F ρ) : ∀ {l : List (Nat × Operand)} {vs : List (Nat × Value)}, evp F l = some vs → l.map (fun x => (x.1, ρ x.2)) = vs
  | [], vs, h => by simp [evp] at h; simp [h]
  | (i, x) :: r, vs, h => by
    simp only [evp] at h
    split at h
    · rename_i v us h1 h2
      injection h with h
      subst h
      simp [A x v h1, Agree.parts A h2]
    · cases h
theorem p_bld {t : TypeId} {ps : List (Nat × Operand)} {vs : List (Nat × Value)} {cells : Array Value} (hx : evp F ps = some vs) (hb : P.built t vs = some cells) : Pure P F (.build t ps.toArray) (.agg cells) := by
  intro ρ A o ho w
  unfold execOp
  simp only [ho]
  refine run_v (run_build w t _ _ ?_)
  rw [show (Array.map (fun x : Nat × Operand => (x.1, ρ x.2)) ps.toArray).toList = vs by simp [A.parts hx]]
  exact hb
theorem l_make {x y : Operand} {t e : TypeId} {z : Value} {bytes : Nat} {k k' : IntKind} {l c : Nat} (S : SL a n ds F) (H : HH B w0 w L) (ho : o.op = .makeSlice t x y) (hx : ev F x = some (.int k (l : Int))) (hy : ev F y = some (.int k' (c : Int))) (ht : P.underlying t = some (.slice e))
    (hinfo : (P.info? e).map (fun i => (i.zero, i.size, i.bytes)) = some (some z, 1, bytes)) (hlc : l ≤ c) (hb : bytes * c ≤ 281474976710656) (h63 : c ≤ 9223372036854775807) (hg : o.guard = none) (hd : o.dst = some d) (hn : Nat.blt d n = true)
    (h : ∀ g cs w a, cs.size = c → HH B w0 w ((g, .cells cs e (0, 0)) :: L) → SL a n ds ((d, .slice (some ⟨g, 0, none⟩) l c) :: F) → wpList P ops Q rest a w) : wpList P ops Q (o :: rest) a w := by
  obtain ⟨i, hi, hzz⟩ := Option.map_eq_some_iff.1 hinfo
  simp only [Prod.mk.injEq] at hzz
  obtain ⟨hz, hsz, rfl⟩ := hzz
  have hr := run_make (P := P) w t e i z ht hi hz k k' l c (by omega) (by omega) (by rw [← Int.natCast_mul]; omega) (by omega)
  simp only [Int.toNat_natCast, hsz, Nat.mul_one] at hr
  refine l_event S (v := .slice (some ⟨w.heap.size, 0, none⟩) l c) (w1 := w.alloc (.cells (madeCells z.cells c) e)) (fun ρ A => ?_) hg hd hn (fun a S' => h _ _ _ a (size_madeCells _ _) (H.alloc _) S')
  unfold execOp
  simp only [ho]
  rw [A x _ hx, A y _ hy]
  exact run_v hr
theorem p_min {x y : Operand} {ts : Array TypeId} {k k' : IntKind} {m m' : Int} (hx : ev F x = some (.int k m)) (hy : ev F y = some (.int k' m')) : Pure P F (.call { callee := .builtin .min, args := #[x, y], argTypes := ts }) (.int k (if m' < m then m' else m)) :=
  p_builtin (xs := [x, y]) (vs := [.int k m, .int k' m']) (by simp [evs, hx, hy]) (fun _ _ _ => rfl)
theorem p_max {x y : Operand} {ts : Array TypeId} {k k' : IntKind} {m m' : Int} (hx : ev F x = some (.int k m)) (hy : ev F y = some (.int k' m')) : Pure P F (.call { callee := .builtin .max, args := #[x, y], argTypes := ts }) (.int k (if m' > m then m' else m)) :=
  p_builtin (xs := [x, y]) (vs := [.int k m, .int k' m']) (by simp [evs, hx, hy]) (fun _ _ _ => rfl)
theorem p_minN {x' y' : Operand} {ts : Array TypeId} {k k' : IntKind} {x y : Nat} (hx : ev F x' = some (.int k (x : Int))) (hy : ev F y' = some (.int k' (y : Int))) : Pure P F (.call { callee := .builtin .min, args := #[x', y'], argTypes := ts }) (.int k ((min x y : Nat) : Int)) := by
  have h := p_min (P := P) (ts := ts) hx hy
  have e : (if (y : Int) < (x : Int) then (y : Int) else (x : Int)) = ((min x y : Nat) : Int) := by split <;> omega
  rwa [e] at h
theorem p_maxN {x' y' : Operand} {ts : Array TypeId} {k k' : IntKind} {x y : Nat} (hx : ev F x' = some (.int k (x : Int))) (hy : ev F y' = some (.int k' (y : Int))) : Pure P F (.call { callee := .builtin .max, args := #[x', y'], argTypes := ts }) (.int k ((max x y : Nat) : Int)) := by
  have h := p_max (P := P) (ts := ts) hx hy
  have e : (if (y : Int) > (x : Int) then (y : Int) else (x : Int)) = ((max x y : Nat) : Int) := by split <;> omega
  rwa [e] at h
/-- The greater of 0 and a number. -/
theorem p_max0 {x' y' : Operand} {ts : Array TypeId} {k k' : IntKind} {z : Int} (hx : ev F x' = some (.int k 0)) (hy : ev F y' = some (.int k' z)) : Pure P F (.call { callee := .builtin .max, args := #[x', y'], argTypes := ts }) (.int k ((z.toNat : Nat) : Int)) := by
  have h := p_max (P := P) (ts := ts) hx hy
  have e : (if z > 0 then z else 0) = ((z.toNat : Nat) : Int) := by split <;> omega
  rwa [e] at h
theorem p_nilCheckI {x : Operand} {u : TypeId} {v : Value} (hx : ev F x = some (.iface u v)) : Pure P F (.nilCheck x) (.iface u v) := by
  intro ρ A o ho w
  unfold execOp
  simp only [ho]
  rw [A x _ hx]
  rfl
theorem sl_lo {t e : TypeId} {w : World} {k : IntKind} {m s n' c : Nat} {A : Option Addr} {i : Int} (hu : P.underlying t = some (.slice e)) (hs : szB P e = some s) (hi : i = (m : Int)) (hm : m ≤ n') :
    (Instr.sliceAt t (.slice A n' c) (some (.int k i)) none none).run P w = .ok (.slice (cutAt A c m s) (n' - m) (c - m)) w := by
  subst hi
  rw [sl_slice_lo hu hs (by omega) (by omega), Int.toNat_natCast]
/-- What is free behind a row of bytes. -/
theorem sl_rest {t e : TypeId} {w : World} {k k' : IntKind} {g m n' c : Nat} {i j : Int} (hu : P.underlying t = some (.slice e)) (hs : szB P e = some 1) (hi : i = (m : Int)) (hj : j = (c : Int)) (hm : m < c) :
    (Instr.sliceAt t (.slice (some ⟨g, 0, none⟩) n' c) (some (.int k i)) (some (.int k' j)) none).run P w = .ok (.slice (some ⟨g, m, none⟩) (c - m) (c - m)) w := by
  subst hi hj
  rw [sl_slice hu hs (by omega) (by omega) (by omega), Int.toNat_natCast, Int.toNat_natCast]
  have : cutAt (some ⟨g, 0, none⟩) c m 1 = some ⟨g, m, none⟩ := by
    rw [cutAt_off]
    unfold offAt
    rw [if_neg (by omega), Nat.zero_add]
  rw [this]
theorem ints_drop (s : ByteArray) (k : Nat) : ints (s.extract k s.size) = (ints s).drop k := by
  unfold ints
  rw [ByteArray.data_extract, Array.toList_extract, List.extract_eq_take_drop, ← List.map_drop]
  congr 1
  rw [List.take_of_length_le]
  rw [List.length_drop, Array.length_toList]
  exact Nat.le_refl _
/-! ### interface values compared -/
theorem p_ifnil {t t' : TypeId} {x y : Operand} {u : TypeId} {v : Value} (ht : P.underlying t = some (.interface (P.methodsAt t))) (hx : ev F x = some (.iface u v)) (hy : ev F y = some .nilIface) : Pure P F (.binOp .eql t x y t') (.bool false) :=
  p_bin hx hy (fun _ => rfl) (fun w => by
    show ((Op.equal t (.iface u v) .nilIface) >>= fun r => pure (Value.bool r)).run P w = _
    rw [Sem.run_bind, run_equal_held_nil w t u v ht]
    rfl)
theorem p_ifnilN {t t' : TypeId} {x y : Operand} {u : TypeId} {v : Value} (ht : P.underlying t = some (.interface (P.methodsAt t))) (hx : ev F x = some (.iface u v)) (hy : ev F y = some .nilIface) : Pure P F (.binOp .neq t x y t') (.bool true) :=
  p_bin hx hy (fun _ => rfl) (fun w => by
    show ((Op.equal t (.iface u v) .nilIface) >>= fun r => pure (Value.bool !r)).run P w = _
    rw [Sem.run_bind, run_equal_held_nil w t u v ht]
    rfl)
theorem p_nilnil {t t' : TypeId} {x : Operand} (ht : P.underlying t = some (.interface (P.methodsAt t))) (hx : ev F x = some .nilIface) : Pure P F (.binOp .eql t x (.const .nilIface) t') (.bool true) :=
  p_bin hx rfl (fun w => by unfold eqGuard; cases x <;> rfl) (fun w => by
    show ((Op.equal t .nilIface .nilIface) >>= fun r => pure (Value.bool r)).run P w = _
    rw [Sem.run_bind, show (Op.equal t .nilIface .nilIface).run P w = .ok true w from run_equalIn_nil_nil w 9999 t ht]
    rfl)
theorem p_nilnilN {t t' : TypeId} {x : Operand} (ht : P.underlying t = some (.interface (P.methodsAt t))) (hx : ev F x = some .nilIface) : Pure P F (.binOp .neq t x (.const .nilIface) t') (.bool false) :=
  p_bin hx rfl (fun w => by unfold eqGuard; cases x <;> rfl) (fun w => by
    show ((Op.equal t .nilIface .nilIface) >>= fun r => pure (Value.bool !r)).run P w = _
    rw [Sem.run_bind, show (Op.equal t .nilIface .nilIface).run P w = .ok true w from run_equalIn_nil_nil w 9999 t ht]
    rfl)
/-- One and the same pointer, in an interface value on both sides. -/
theorem run_equal_if_same {t u e : TypeId} {i : TypeInfo} {ad : Addr} (w : World) (ht : P.underlying t = some (.interface (P.methodsAt t))) (hi : P.info? u = some i) (hc : i.comparable = true) (hp : P.underlying u = some (.pointer e)) (hs : (szB P e).isSome = true) :
    (Op.equal t (.iface u (.pointer (some ad))) (.iface u (.pointer (some ad)))).run P w = .ok true w := by
  obtain ⟨s, hs⟩ := Option.isSome_iff_exists.1 hs
  have h1 : ∀ d : Nat, (Op.equalIn (d + 1) u (.pointer (some ad)) (.pointer (some ad))).run P w = .ok true w := fun d => by
    simp [Op.equalIn, HHW.run_underlying hp, run_size hs, run_sameAddr_same, Result.andThen]
  have h2 : ∀ d : Nat, (Op.equalIn (d + 1 + 1) t (.iface u (.pointer (some ad))) (.iface u (.pointer (some ad)))).run P w = .ok true w := fun d => by
    rw [Op.equalIn]
    simp [HHW.run_underlying ht, run_info hi, hc, h1 d, Result.andThen]
  exact h2 9998
theorem p_ifsame {t t' u e : TypeId} {x y : Operand} {ad : Addr} (ht : P.underlying t = some (.interface (P.methodsAt t))) (hi : (P.info? u).map (fun i => i.comparable) = some true) (hp : P.underlying u = some (.pointer e)) (hs : (szB P e).isSome = true) (hx : ev F x = some (.iface u (.pointer (some ad)))) (hy : ev F y = some (.iface u (.pointer (some ad)))) : Pure P F (.binOp .neq t x y t') (.bool false) :=
  p_bin hx hy (fun _ => rfl) (fun w => by
    show ((Op.equal t (.iface u (.pointer (some ad))) (.iface u (.pointer (some ad)))) >>= fun r => pure (Value.bool !r)).run P w = _
    obtain ⟨i, hi1, hi2⟩ := Option.map_eq_some_iff.1 hi
    rw [Sem.run_bind, run_equal_if_same w ht hi1 hi2 hp hs]
    rfl)
/-- Cells of what was there when the outermost call began. -/
theorem r_loadG {t : TypeId} {x : Operand} {ad : Addr} {v : Value} (hx : ev F x = some (.pointer (some ad))) (hc : w0.cell? ad = some v) (hlt : ad.block < B) (ha : aggB P t = some false) : Reads P F B w0 L (.load t x) v := by
  intro ρ A o ho w H
  unfold execOp
  simp only [ho]
  rw [A x _ hx]
  exact run_v (ld1 ha ((H.old hlt).trans hc))
theorem row_at {cs : Array Value} {l : List Int} (h : ∀ (i : Nat) (v : Int), l[i]? = some v → cs[i]? = some (Value.int .u8 v)) {j i : Nat} (hj : j = i) (hi : i < l.length) : cs[j]? = some (Value.int .u8 (l.getD i 0)) := by
  subst hj; exact h _ _ (get_some 0 hi)
end
end Go.Proofs.HHW
