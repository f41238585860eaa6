/- Words of this seat's own: writers: what a buffer and a pool of rows hold; decimal numerals; doors of calls that are put off with arguments. -/
import Derived.Test.YtnmelglnkefjfaaGreatDoorRq
import Derived.Lib.ItoaNum
import Derived.Lib.ItoaMem
import Derived.Lib.AppendIntMem
namespace Go.Proofs.HHW
open Go.RowKit Go.Proofs.YtnmelglnkefjfaaGreatDoorW.PrintWords YtnmelglnkefjfaaGreatDoorW.PrintLast
set_option linter.unusedVariables false
set_option linter.unusedSimpArgs false
/-- The door of a function that puts one call off, with arguments. -/
theorem r_doorA {P : Program} {a : Act} {n : Nat} {F : List (Nat × Value)} {w : World} {fn : Func} {R : Ending → World → Prop} {f : FuncId} {caps vs : List Value} {v : Value} {Rw : World → Prop} (S : SL a n [{ target := .fn (.func f) caps.toArray, args := vs.toArray }] F)
    (hc : CallsD P f (vs ++ caps).toArray .returning w fun e u' w' => u' = .returning ∧ e = .returned (.tuple #[]) ∧ Rw w')
    (hrun : ∀ w, (invoke (.fn (.func f) caps.toArray) vs.toArray).run P w = .ok (.enter f (vs ++ caps).toArray) w)
    (hres : ∀ w', Rw w' → ∀ tmps : Array Value, (∀ i v, slot F i = some v → tmps[i]? = some v) → (results fn tmps).run P w' = .ok v w') (hR : ∀ w', Rw w' → R (.returned v) w') : bodyPostD P fn R .ret a w := by
  obtain ⟨tmps, dfs⟩ := a
  have hd : dfs = _ := S.defers
  subst hd
  refine leaves_cons (f := f) (args := (vs ++ caps).toArray) (by simp) (hrun w) ?_
  refine hc.mono ?_
  rintro e u w' ⟨rfl, rfl, hw⟩
  simp only [Leaves, settle]
  exact ⟨v, hres w' hw tmps S.at_, hR w' hw⟩
theorem invokesA {P : Program} {f : FuncId} {fn : Func} {caps vs : List Value} (hf : P.funcs[f]? = some fn) (hname : (fn.name == "runtime.NumGoroutine") = false) (hb : fn.body.isSome = true) : ∀ w, (invoke (.fn (.func f) caps.toArray) vs.toArray).run P w = .ok (.enter f (vs ++ caps).toArray) w := by
  intro w
  have := enters_ hf hname hb (vs ++ caps).toArray w
  simpa [invoke] using this
theorem p_slnil {P : Program} {F : List (Nat × Value)} {t t' e : TypeId} {x y : Operand} {A : Option Addr} {n c : Nat} (ht : P.underlying t = some (.slice e)) (hx : ev F x = some (.slice A n c)) (hy : ev F y = some (.slice none 0 0)) : Pure P F (.binOp .eql t x y t') (.bool A.isNone) :=
  p_bin hx hy (fun _ => rfl) (fun w => by
    show ((Op.equal t (.slice A n c) (.slice none 0 0)) >>= fun r => pure (Value.bool r)).run P w = _
    have : (Op.equal t (.slice A n c) (.slice none 0 0)).run P w = .ok A.isNone w := by
      have h2 : ∀ d : Nat, (Op.equalIn (d + 1) t (.slice A n c) (.slice none 0 0)).run P w = .ok A.isNone w := fun d => by
        cases A <;> simp [Op.equalIn, HHW.run_underlying ht, Result.andThen]
      exact h2 9999
    rw [Sem.run_bind, this]
    rfl)
theorem p_ptrnil {P : Program} {F : List (Nat × Value)} {t t' e : TypeId} {x y : Operand} {a : Addr} (ht : P.underlying t = some (.pointer e)) (hx : ev F x = some (.pointer (some a))) (hy : ev F y = some (.pointer none)) : Pure P F (.binOp .eql t x y t') (.bool false) :=
  p_bin hx hy (fun _ => rfl) (fun w => by
    show ((Op.equal t (.pointer (some a)) (.pointer none)) >>= fun r => pure (Value.bool r)).run P w = _
    have : (Op.equal t (.pointer (some a)) (.pointer none)).run P w = .ok false w := by
      have h2 : ∀ d : Nat, (Op.equalIn (d + 1) t (.pointer (some a)) (.pointer none)).run P w = .ok false w := fun d => by
        simp [Op.equalIn, HHW.run_underlying ht, Result.andThen]
      exact h2 9999
    rw [Sem.run_bind, this]
    rfl)
/-- An append to a row of the call's own, in a region that draws; no read is behind it. -/
theorem d_ownB {P : Program} {ops : Array Oper} {Q : Exit → Act → World → Prop} {a : Act} {n : Nat} {ds : List Deferred} {F : List (Nat × Value)} {B : Nat} {w0 w : World} {d : Nat} {dss : List Nat} {fuel : Nat} {l : Array Bool} {K : World → Prop} {i : Nat} {oi : Oper} (Lp : List (Nat × Obj)) {ow L : List (Nat × Obj)} {x y : Operand} {t tx e : TypeId} {z : Value} {bytes : Nat} {u : Value} {A : Option Addr} {c : Nat} {xs r : List Int} (l' : Array Bool)
    (S : SL a n ds F) (H : HH B w0 w (Lp ++ (ow ++ L))) (hi : ops[i]? = some oi) (ho : oi.op = .call { callee := .builtin .append, args := #[x, y], argTypes := #[t, tx] }) (hx : ev F x = some (.slice A xs.length c)) (hy : ev F y = some u) (hown : OwnB e (.slice A xs.length c) xs ow) (hsrc : Src P 1 tx u r.length (r.map (Value.int .u8)) w)
    (ht : P.underlying t = some (.slice e)) (hinfo : (P.info? e).map (fun i => (i.zero, i.size, i.bytes)) = some (some z, 1, bytes)) (hzs : z.cells.size = 1) (hb : (xs.length + r.length) * bytes ≤ 140737488355328) (hb0 : 0 < bytes) (hw : Region.wanted oi (yielded ops a.tmps) = true) (hd : oi.dst = some d) (hn : Nat.blt d n = true)
    (hc : readyB .any ops l l' i = true) (hds : dss.contains i = true)
    (h : ∀ A' c' ow' w a, OwnB e (.slice A' (xs ++ r).length c') (xs ++ r) ow' → HH B w0 w (Lp ++ (ow' ++ L)) → SL a n ds ((d, .slice A' (xs ++ r).length c') :: F) → wpAnyLast P .any ops Q K dss fuel l' a w) : wpAnyLast P .any ops Q K dss (fuel + 1) l a w := by
  obtain ⟨v', ow', w', h1, h2, h3⟩ := run_own (P := P) (ty := oi.type) H hown hsrc ht hinfo hzs hb hb0
  have hlen : xs.length + r.length = (xs ++ r).length := (List.length_append).symm
  rw [hlen, ← List.map_append] at h2
  obtain ⟨A', c', rfl, _⟩ := h2.slice
  refine last_ l' hi hd hc (by simpa using hds) (fun K hK => value_ (v := .slice A' (xs ++ r).length c') (w1 := w') hw hd ?_ (hK.out _ _ (h A' c' ow' w' _ h2 h3 (S.put hn _))))
  have e1 := S.agree x _ hx
  have e2 := S.agree y _ hy
  unfold execOp
  simp only [ho, resolve]
  rw [show Array.map a.eval #[x, y] = #[.slice A xs.length c, u] by simp [e1, e2]]
  have hinv : ∀ c0, (invoke (Target.builtin .append #[t, tx] oi.type c0) #[.slice A xs.length c, u]).run P w = .ok (.value (.slice A' (xs ++ r).length c')) w' := fun _ => run_v h1
  exact hinv #[]
section
variable {B : Nat} {w0 w : World} {L L1 L2 S ow : List (Nat × Obj)} {x : Nat × Obj}
theorem HH.unmid (H : HH B w0 w (ow ++ (x :: L))) : HH B w0 w (x :: (ow ++ L)) := H.perm List.perm_middle
theorem HH.front (H : HH B w0 w (L1 ++ (S ++ L2))) : HH B w0 w (S ++ (L1 ++ L2)) := H.perm (List.perm_append_comm_assoc L1 S L2)
theorem HH.poolIn {a b : Nat × Obj} (H : HH B w0 w (a :: (ow ++ (b :: (S ++ L))))) : HH B w0 w (a :: b :: (S ++ (ow ++ L))) := H.perm (((List.perm_middle (l₁ := ow) (a := b) (l₂ := S ++ L)).trans ((List.perm_append_comm_assoc ow S L).cons b)).cons a)
theorem HH.poolOut {a b : Nat × Obj} (H : HH B w0 w (a :: b :: (S ++ L))) : HH B w0 w (b :: (S ++ (a :: L))) := H.perm ((List.Perm.swap b a _).trans ((List.perm_middle (l₁ := S) (a := a) (l₂ := L)).symm.cons b))
theorem HH.drop3 {a b c : Nat × Obj} (H : HH B w0 w (a :: b :: c :: L)) : HH B w0 w (a :: b :: L) := H.sub (((List.sublist_cons_self c L).cons_cons b).cons_cons a)
theorem HH.app {B : Nat} {w0 w : World} {L L' : List (Nat × Obj)} (H : HH B w0 w L) (h : L = L') : HH B w0 w L' := h ▸ H
/-- A row's cells, laid anew by the library's words. -/
theorem HH.putRow {g off n : Nat} {cs : Array Value} {t : TypeId} {f : Nat × Nat} {d : Array UInt8} (H : HH B w0 w ((g, .cells cs t f) :: L)) (hs : off + d.size ≤ cs.size) :
    HH B w0 ((Go.Sort.putRow (fun (b : UInt8) => Value.int .u8 (b.toNat : Int)) w g off d).drewN n) ((g, .cells (spl cs off (d.toList.map fun (b : UInt8) => Value.int .u8 (b.toNat : Int))) t f) :: L) := by
  refine HH.drewN ?_ n
  have hat := H.at_ (g, Obj.cells cs t f) List.mem_cons_self
  simp only at hat
  have hlo := H.lo (g, Obj.cells cs t f) List.mem_cons_self
  refine H.upd (g := g) (o := .cells cs t f) .here ⟨rfl, rfl, rfl, by simp [Go.Sort.putRow, Go.Sort.mapBlock], fun k hk => ?_⟩ (fun k _ hk => ?_) ?_
  · simp only at hlo
    simp [Go.Sort.putRow, Go.Sort.mapBlock, Array.getElem?_modify, show g ≠ k by omega]
  · simp [Go.Sort.putRow, Go.Sort.mapBlock, Array.getElem?_modify, Ne.symm hk]
  · simp only [Go.Sort.putRow, Go.Sort.mapBlock, Array.getElem?_modify, if_true, hat, Option.map_some, Go.Sort.onCells]
    congr 2
    apply Array.ext_getElem?
    intro k
    unfold Go.Sort.putCells
    rw [Array.getElem?_mapIdx]
    by_cases hk : off ≤ k ∧ k < off + d.size
    · have h1 := spl_in (d.toList.map fun (b : UInt8) => Value.int .u8 (b.toNat : Int)) cs off (k - off) (by simpa using hs) (by simp; omega)
      rw [show off + (k - off) = k by omega] at h1
      rw [h1, Array.getElem?_eq_getElem (by omega)]
      simp only [Option.map_some, if_pos hk, List.getElem?_map]
      rw [Array.getElem?_toList, Array.getElem?_eq_getElem (by omega), getElem!_pos d (k - off) (by omega)]
      rfl
    · rw [spl_out _ _ _ _ (by simp; omega)]
      cases hc : cs[k]? with
      | none => rfl
      | some u => simp only [Option.map_some, if_neg hk]
end
end Go.Proofs.HHW
namespace Go.Proofs.YtnmelglnkefjfaaGreatDoor.wq
open Go.RowKit Go.Proofs.HHW Go.Proofs.YtnmelglnkefjfaaGreatDoorW.PrintWords
set_option linter.unusedVariables false
set_option linter.unusedSimpArgs false
theorem src_str {P : Program} {w : World} {tx : TypeId} (hk : P.underlying tx = some .string) (s : ByteArray) : Src P 1 tx (.string s) (ints s).length ((ints s).map (Value.int .u8)) w := by
  have h := Src.ofString (P := P) (w := w) hk s
  have e : byteCells s = (ints s).map (Value.int .u8) := by
    unfold byteCells ints
    simp [List.map_map]
  rw [e] at h
  rwa [ints_len]
/-- A decimal numeral. -/
def dec (u : Nat) : List Int := (Lib.decDigits u).map fun b => (b.toNat : Int)
theorem dec_small {u : Nat} (h : u < 10) : dec u = [((48 + u : Nat) : Int)] := by
  unfold dec
  rw [Lib.decDigits, dif_pos h]
  simp
  omega
theorem dec_big {u : Nat} (h : ¬ u < 10) : dec u = dec (u / 10) ++ [((48 + u % 10 : Nat) : Int)] := by
  unfold dec
  rw [Lib.decDigits, dif_neg h, List.map_append]
  simp
  omega
theorem dec_len (u : Nat) : (dec u).length = Lib.nDigits u := by unfold dec; rw [List.length_map, Lib.decDigits_length]
theorem nDigits_le {u k : Nat} (h : u < 10 ^ (k + 1)) : Lib.nDigits u ≤ k + 1 := by
  induction k generalizing u with
  | zero => rw [Lib.nDigits_small (by simpa using h)]; exact Nat.le_refl _
  | succ k ih =>
    by_cases h1 : u < 10
    · rw [Lib.nDigits_small h1]; omega
    · rw [Lib.nDigits_big h1]
      have := ih (u := u / 10) (by rw [Nat.pow_succ] at h; omega)
      omega
theorem zeros24 {j : Nat} (h : j < 24) : (#[.int .u8 0, .int .u8 0, .int .u8 0, .int .u8 0, .int .u8 0, .int .u8 0, .int .u8 0, .int .u8 0, .int .u8 0, .int .u8 0, .int .u8 0, .int .u8 0, .int .u8 0, .int .u8 0, .int .u8 0, .int .u8 0, .int .u8 0, .int .u8 0, .int .u8 0, .int .u8 0, .int .u8 0, .int .u8 0, .int .u8 0, .int .u8 0] : Array Value)[j]? = some (Value.int .u8 0) := by
  have : (#[.int .u8 0, .int .u8 0, .int .u8 0, .int .u8 0, .int .u8 0, .int .u8 0, .int .u8 0, .int .u8 0, .int .u8 0, .int .u8 0, .int .u8 0, .int .u8 0, .int .u8 0, .int .u8 0, .int .u8 0, .int .u8 0, .int .u8 0, .int .u8 0, .int .u8 0, .int .u8 0, .int .u8 0, .int .u8 0, .int .u8 0, .int .u8 0] : Array Value) = Array.replicate 24 (Value.int .u8 0) := rfl
  rw [this, Array.getElem?_replicate, if_pos h]
/-- The row that formatBase10 leaves. -/
theorem fmt_row {u v' : Nat} {dk : Array UInt8} (h : Go.Lib.FmtInv (Lib.nDigits u) u 0 v' dk) : dk.toList.map (fun (b : UInt8) => Value.int .u8 (b.toNat : Int)) = (dec u).map (Value.int .u8) := by
  have hl := h.size
  have e : dk.toList = Lib.decDigits u := by
    apply List.ext_getElem
    · rw [Lib.decDigits_length, Array.length_toList, hl]
    · intro i h1 h2
      rw [Lib.row_is_numeral h i h2]
      rw [Array.getElem_toList, getElem!_pos dk i (by simpa using h1)]
  rw [e]
  unfold dec
  rw [List.map_map]
  rfl
theorem ints_dec (u : Nat) : ints (⟨(Lib.decDigits u).toArray⟩ : ByteArray) = dec u := by
  unfold ints dec
  rfl
theorem ints_app (a b : ByteArray) : ints (a ++ b) = ints a ++ ints b := by
  unfold ints
  rw [ByteArray.data_append, Array.toList_append, List.map_append]
theorem row_list {cs : Array Value} {l : List Int} (h : bf.Row cs 0 l) (hl : l.length ≤ cs.size) : cs.toList.take l.length = l.map (Value.int .u8) := by
  apply List.ext_getElem?
  intro i
  by_cases hi : i < l.length
  · rw [List.getElem?_take_of_lt hi, List.getElem?_map, get_some 0 hi, Array.getElem?_toList]
    have := h i _ (get_some 0 hi)
    rw [Nat.zero_add] at this
    exact this
  · rw [List.getElem?_eq_none (by rw [List.length_take]; omega), List.getElem?_eq_none (by rw [List.length_map]; omega)]
theorem row_of_list {cs : Array Value} {l : List Int} (h : cs.toList.take l.length = l.map (Value.int .u8)) : bf.Row cs 0 l := by
  intro i v hi
  have hlt := (List.getElem?_eq_some_iff.1 hi).1
  have := congrArg (·[i]?) h
  simp only [List.getElem?_map, hi, Option.map_some] at this
  rw [List.getElem?_take_of_lt hlt, Array.getElem?_toList] at this
  rw [Nat.zero_add]
  exact this
theorem one_row {cs : Array Value} {l : List Int} (h : bf.Row cs 0 l) (hl : l.length ≤ cs.size) : ∀ v ∈ cs.toList.take l.length, v.oneCell' = true := by
  rw [row_list h hl]
  intro v hv
  obtain ⟨_, _, rfl⟩ := List.mem_map.1 hv
  rfl
/-- What the pool of rows holds: nothing that is free ('Pool0'), or at most one row. -/
def Pool0 (tp tr : TypeId) (bp : Nat) (po : dc.Bk) : Prop := ∃ (n : Int) (v : Value) (owr : dc.Bk), Own tr 1 v 0 [] owr ∧ po = (bp, .cells #[.int .i64 n, .int .i64 10000000, v] tp (0, 0)) :: owr
def Pool (tp tr tb u8 : TypeId) (bp : Nat) (po : dc.Bk) : Prop := Pool0 tp tr bp po ∨
  ∃ (n : Int) (v : Value) (owr : dc.Bk) (gb : Nat) (A : Option Addr) (cb : Nat) (ow : dc.Bk), Own tr 1 v 1 [.pointer (some ⟨gb, 0, none⟩)] owr ∧ OwnB u8 (.slice A ([] : List Int).length cb) [] ow ∧
    po = (bp, .cells #[.int .i64 n, .int .i64 10000000, v] tp (0, 0)) :: (owr ++ ((gb, .cells #[.slice A 0 cb] tb (0, 0)) :: ow))
end Go.Proofs.YtnmelglnkefjfaaGreatDoor.wq
