/- Words of this seat's own: deferred closures that write; copies into rows of whatever marks. -/
import Derived.Test.YtnmelglnkefjfaaDoorDf
namespace Go.Proofs.HHW
open Go.RowKit Go.Proofs.YtnmelglnkefjfaaDoorW.PrintWords YtnmelglnkefjfaaDoorW.PrintLast
set_option linter.unusedVariables false
set_option linter.unusedSimpArgs false
theorem c_enterD {P : Program} {f : FuncId} {fn : Func} {c : Code} {args : List Value} {k : Nat} {u : FrameMode} {w : World} {R : Ending → World → Prop} {F0 : List (Nat × Value)} (hf : P.funcs[f]? = some fn) (hb : fn.body = some c) (hk : fn.ntmps = args.length + k) (hF : enum 0 args = F0)
    (h : ∀ a, SL a (args.length + k) [] F0 → c.wp P (bodyPost P fn R) a w) : CallsD P f args.toArray u w fun e u' w' => u' = u ∧ R e w' := by
  refine callsD_of_wp hf hb (h _ ?_)
  have : fn.ntmps - args.toArray.size = k := by simp [hk]
  rw [this]
  exact SL.enter (by simpa using hF) (by simp)
/-- The door of a function that defers one closure, which does something. -/
theorem r_doorR {P : Program} {a : Act} {n : Nat} {F : List (Nat × Value)} {w : World} {fn : Func} {R : Ending → World → Prop} {f : FuncId} {caps : List Value} {v : Value} {Rw : World → Prop} (S : SL a n [{ target := .fn (.func f) caps.toArray, args := #[] }] F)
    (hc : CallsD P f caps.toArray .returning w fun e u' w' => u' = .returning ∧ e = .returned (.tuple #[]) ∧ Rw w')
    (hrun : ∀ w, (invoke (.fn (.func f) caps.toArray) #[]).run P w = .ok (.enter f caps.toArray) w)
    (hres : ∀ w', Rw w' → ∀ tmps : Array Value, (∀ i v, slot F i = some v → tmps[i]? = some v) → (results fn tmps).run P w' = .ok v w') (hR : ∀ w', Rw w' → R (.returned v) w') : bodyPostD P fn R .ret a w := by
  obtain ⟨tmps, dfs⟩ := a
  have hd : dfs = _ := S.defers
  subst hd
  refine leaves_cons (f := f) (args := caps.toArray) (by simp) (hrun w) ?_
  refine hc.mono ?_
  rintro e u w' ⟨rfl, rfl, hw⟩
  simp only [Leaves, settle]
  exact ⟨v, hres w' hw tmps S.at_, hR w' hw⟩
theorem res_t1 {P : Program} {F : List (Nat × Value)} {fn : Func} {a : Tmp} {v : Value} {w : World} (hr : fn.results = #[.tmp a]) (ha : slot F a = some v) : ∀ tmps : Array Value, (∀ i v, slot F i = some v → tmps[i]? = some v) → (results fn tmps).run P w = .ok v w := by
  intro tmps ht
  simp [results, hr, ht a _ ha]
section
variable {P : Program} {ops : Array Oper} {Q : Exit → Act → World → Prop} {o : Oper} {rest : List Oper} {a : Act} {n : Nat} {ds : List Deferred} {F : List (Nat × Value)} {B : Nat} {w0 w : World} {L : List (Nat × Obj)} {d : Nat}
theorem run_copy_f {t tx ty e : TypeId} {x : Value} {m dl dc k : Nat} {news : List Value} {g j : Nat} {cs : Array Value} {tt : TypeId} {f : Nat × Nat} (H : HH B w0 w L) (ht : P.underlying t = some (.slice e)) (hs : szB P e = some 1)
    (hm : (g, Obj.cells cs tt f) ∈ L) (hth : Thaw cs f) (hf : First P x m news w) (hj : j + dl ≤ cs.size) (hk : Nat.min m dl = k) :
    ∃ w', (Builtin.copy_ #[t, tx] ty #[.slice (some ⟨g, j, none⟩) dl dc, x]).run P w = .ok (.int .i64 (k : Int)) w' ∧ ∀ L', Rep L g (.cells cs tt f) g (.cells (spl cs j (news.take k)) tt f) L' → HH B w0 w' L' := by
  have hk1 : k ≤ m := by rw [← hk]; exact Nat.min_le_left _ _
  have hk2 : k ≤ dl := by rw [← hk]; exact Nat.min_le_right _ _
  have hone : ∀ v ∈ news.take k, v.oneCell' = true := fun v hv => hf.one v (List.mem_of_mem_take hv)
  have hlen : (news.take k).length = k := by rw [List.length_take, hf.newsLen]; omega
  have hat := H.at_ _ hm
  simp only at hat
  have hst := run_storeCells_cells (P := P) g j (news.take k) 0 w (by
      intro i hi
      rw [hlen] at hi
      simp only [World.cell?, hat, Nat.add_zero]
      rw [Array.getElem?_eq_getElem (by omega)]
      rfl) (by
      intro i hi
      rw [hlen] at hi
      exact hth.at hat (by omega)) hone
  simp only [Nat.add_zero] at hst
  refine ⟨w.setCells g j (news.take k), ?_, fun L' hL' => H.sets (news.take k) j cs hL'⟩
  have h1 := hf.cells k hk1
  have h0 : (List.take k news).toArray.toList = List.take k news := rfl
  subst hk
  simp only [Builtin.copy_, List.getElem?_toArray, List.getElem?_cons_zero, List.getElem?_cons_succ, Sem.run_bind, run_underlying ht, Result.andThen, hf.len, run_size hs, h1, h0, hst]
  rfl
theorem d_copyF {dss : List Nat} {fuel : Nat} {l : Array Bool} {K : World → Prop} {i : Nat} {oi : Oper} {x y : Operand} {t tx e : TypeId} {v : Value} {m dl dc k : Nat} {news : List Value} {g j : Nat} {cs : Array Value} {tt : TypeId} {f : Nat × Nat} {L' : List (Nat × Obj)} (l' : Array Bool) (S : SL a n ds F) (H : HH B w0 w L) (hi : ops[i]? = some oi)
    (ho : oi.op = .call { callee := .builtin .copy, args := #[x, y], argTypes := #[t, tx] }) (hx : ev F x = some (.slice (some ⟨g, j, none⟩) dl dc)) (hy : ev F y = some v) (ht : P.underlying t = some (.slice e)) (hs : szB P e = some 1) (hth : Thaw cs f)
    (hf : First P v m news w) (hj : j + dl ≤ cs.size) (hk : Nat.min m dl = k) (hu : Rep L g (.cells cs tt f) g (.cells (spl cs j (news.take k)) tt f) L') (hw : Region.wanted oi (yielded ops a.tmps) = true) (hd : oi.dst = some d) (hn : Nat.blt d n = true)
    (hc : readyB .any ops l l' i = true) (hds : dss.contains i = true)
    (h : ∀ w a, HH B w0 w L' → SL a n ds ((d, .int .i64 (k : Int)) :: F) → wpAnyLast P .any ops Q K dss fuel l' a w) : wpAnyLast P .any ops Q K dss (fuel + 1) l a w := by
  obtain ⟨w', h1, h2⟩ := run_copy_f (P := P) (tx := tx) (ty := oi.type) (dc := dc) H ht hs hu.mem hth hf hj hk
  refine last_ l' hi hd hc (by simpa using hds) (fun K hK => value_ (v := .int .i64 (k : Int)) (w1 := w') hw hd ?_ (hK.out _ _ (h w' _ (h2 L' hu) (S.put hn _))))
  have e1 := S.agree x _ hx
  have e2 := S.agree y _ hy
  unfold execOp
  simp only [ho, resolve]
  rw [show Array.map a.eval #[x, y] = #[.slice (some ⟨g, j, none⟩) dl dc, v] by simp [e1, e2]]
  have hinv : ∀ c0, (invoke (Target.builtin .copy #[t, tx] oi.type c0) #[.slice (some ⟨g, j, none⟩) dl dc, v]).run P w = .ok (.value (.int .i64 (k : Int))) w' := fun _ => run_v h1
  exact hinv #[]
theorem p_nilCheckM {x : Operand} {name : String} {t : TypeId} {v : Value} {vs : Array Value} (hx : ev F x = some (.func (.method name) #[.iface t v] vs)) (hn : ∀ w, (nilAhead (P.types.size + Made.depth) t v name).run P w = .ok (some false) w) : Pure P F (.nilCheck x) (.func (.method name) #[.iface t v] vs) := by
  intro ρ A o ho w
  unfold execOp
  simp only [ho]
  rw [A x _ hx]
  show ((program >>= fun p => nilAhead (p.types.size + Made.depth) t v name >>= fun r => if (r != some false) = true then _ else _) : Sem Next).run P w = _
  rw [Sem.run_bind, show (program.run P w) = .ok P w from rfl]
  simp only [Result.andThen]
  rw [Sem.run_bind, hn w]
  rfl
theorem p_neg {t : TypeId} {x : Operand} {k : IntKind} {m r : Int} (hx : ev F x = some (.int k m)) (hr : k.wrap (0 - m) = r) : Pure P F (.unOp .neg t x) (.int k r) :=
  p_un hx (fun w => by subst hr; rfl)
theorem sl_strN {t : TypeId} {k k' : IntKind} {l h : Int} {m m' : Nat} {s : ByteArray} (hu : P.underlying t = some .string) (hl : l = (m : Int)) (hh : h = (m' : Int)) (h1 : m ≤ m') (h2 : m' ≤ s.size) :
    (Instr.sliceAt t (.string s) (some (.int k l)) (some (.int k' h)) none).run P w = .ok (.string (s.extract m m')) w := by
  subst hl hh
  have := sl_string (P := P) (w := w) (k := k) (k' := k') (s := s) hu (l := (m : Int)) (h := (m' : Int)) (by omega) (by omega) (by omega)
  rwa [Int.toNat_natCast, Int.toNat_natCast] at this
end
end Go.Proofs.HHW
