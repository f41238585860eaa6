/- Words of this seat's own: ranging over a text; the escaper's tables; what is escaped, plainly. -/
import Derived.Test.YtbahngfpadjbhaaDoorTs
import Derived.Laws.RangeString
namespace Go.Proofs.HHW
open Go.RowKit Go.Proofs.YtbahngfpadjbhaaDoorW.PrintWords
set_option linter.unusedVariables false
set_option linter.unusedSimpArgs false
section
variable {P : Program} {ops : Array Oper} {Q : Exit → Act → World → Prop} {o : Oper} {rest : List Oper} {a : Act} {n : Nat} {ds : List Deferred} {F : List (Nat × Value)} {d B : Nat} {w0 w : World} {L : List (Nat × Obj)}
theorem HH.putO {L' : List (Nat × Obj)} {g : Nat} {ob ob' : Obj} (H : HH B w0 w L) (hu : Upd L g ob ob' L') : HH B w0 { w with heap := w.heap.setIfInBounds g ob' } L' := by
  have hlt := H.lt (p := (g, ob)) hu.mem
  simp only at hlt
  have hlo := H.lo (g, ob) hu.mem
  simp only at hlo
  refine H.upd hu ⟨rfl, rfl, rfl, by simp, fun k hk => ?_⟩ (fun k _ hk => ?_) ?_
  · simp only [Array.getElem?_setIfInBounds]; rw [if_neg (by omega)]
  · simp only [Array.getElem?_setIfInBounds]; rw [if_neg (by omega)]
  · simp only [Array.getElem?_setIfInBounds]; rw [if_pos trivial, if_pos hlt]
theorem l_rangeS {t : TypeId} {x : Operand} {s : ByteArray} (S : SL a n ds F) (H : HH B w0 w L) (ho : o.op = .range t x) (hx : ev F x = some (.string s)) (ht : P.underlying t = some .string) (hg : o.guard = none) (hd : o.dst = some d) (hn : Nat.blt d n = true)
    (h : ∀ g w a, HH B w0 w ((g, .stringIter s 0) :: L) → SL a n ds ((d, .pointer (some ⟨g, 0, none⟩)) :: F) → wpList P ops Q rest a w) : wpList P ops Q (o :: rest) a w := by
  refine l_event S (v := .pointer (some ⟨w.heap.size, 0, none⟩)) (w1 := w.iter s 0) (fun ρ A => ?_) hg hd hn (fun a S' => h _ _ a (H.alloc (.stringIter s 0)) S')
  unfold execOp
  simp only [ho]
  rw [A x _ hx]
  exact run_v (run_range_string w t s ht)
theorem l_nextS {x : Operand} {s : ByteArray} {g i : Nat} (S : SL a n ds F) (H : HH B w0 w ((g, .stringIter s i) :: L)) (ho : o.op = .next x true) (hx : ev F x = some (.pointer (some ⟨g, 0, none⟩))) (hi : i < s.size) (hc : HHW.bt s (i : Int) < 128) (hg : o.guard = none) (hd : o.dst = some d) (hn : Nat.blt d n = true)
    (h : ∀ w a, HH B w0 w ((g, .stringIter s (i + 1)) :: L) → SL a n ds ((d, .tuple #[.bool true, .int .i64 (i : Int), .int .i32 (HHW.bt s (i : Int))]) :: F) → wpList P ops Q rest a w) : wpList P ops Q (o :: rest) a w := by
  have hat := H.at_ _ List.mem_cons_self
  simp only at hat
  have hb : HHW.bt s (i : Int) = ((s[i]'hi).toNat : Int) := by
    unfold HHW.bt
    simp only [Int.toNat_natCast, hi, dif_pos]
  refine l_event S (v := .tuple #[.bool true, .int .i64 (i : Int), .int .i32 (HHW.bt s (i : Int))]) (w1 := { w with heap := w.heap.setIfInBounds g (.stringIter s (i + 1)) }) (fun ρ A => ?_) hg hd hn (fun a S' => h _ a (H.putO .here) S')
  unfold execOp
  simp only [ho]
  rw [A x _ hx]
  refine run_v ?_
  simp only [Instr.next, getObj, setObj, Sem.run_bind, Sem.run, hat, Result.andThen, hi, if_true, decode_ascii s i hi (by omega)]
  rw [hb]
  simp [goInt, Sem.run, hat]
theorem l_nextE {x : Operand} {s : ByteArray} {g i : Nat} (S : SL a n ds F) (H : HH B w0 w ((g, .stringIter s i) :: L)) (ho : o.op = .next x true) (hx : ev F x = some (.pointer (some ⟨g, 0, none⟩))) (hi : ¬ i < s.size) (hg : o.guard = none) (hd : o.dst = some d) (hn : Nat.blt d n = true)
    (h : ∀ a, SL a n ds ((d, .tuple #[.bool false]) :: F) → wpList P ops Q rest a w) : wpList P ops Q (o :: rest) a w := by
  have hat := H.at_ _ List.mem_cons_self
  simp only at hat
  refine l_event S (v := .tuple #[.bool false]) (w1 := w) (fun ρ A => ?_) hg hd hn h
  unfold execOp
  simp only [ho]
  rw [A x _ hx]
  refine run_v ?_
  simp [Instr.next, getObj, Sem.run, hat, hi]
theorem src_str {P : Program} {w : World} {tx : TypeId} (hk : P.underlying tx = some .string) (s : ByteArray) : Src P 1 tx (.string s) (ints s).length ((ints s).map (Value.int .u8)) w := by
  have h := Src.ofString (P := P) (w := w) hk s
  have e : byteCells s = (ints s).map (Value.int .u8) := by
    unfold byteCells ints
    simp [List.map_map]
  rw [e] at h
  rwa [ints_len]
end
/-! ### the escaper's tables -/
def fvb (f : Nat → Nat) : List Value := (List.range 256).map fun j => .int .u8 (f j : Int)
theorem fvb_len (f : Nat → Nat) : (fvb f).length = 256 := by simp [fvb]
theorem fvb_get (f : Nat → Nat) {j : Nat} (hj : j < 256) : (fvb f)[j]? = some (.int .u8 (f j : Int)) := by
  unfold fvb
  rw [List.getElem?_map, List.getElem?_range hj]; rfl
theorem fvb_set (f : Nat → Nat) {j : Nat} (v : Nat) : (fvb f).set j (.int .u8 (v : Int)) = fvb (fun k => if k = j then v else f k) := by
  apply List.ext_getElem?
  intro i
  rw [List.getElem?_set]
  by_cases hi : i < 256
  · rw [fvb_get _ hi, fvb_get _ hi, fvb_len]
    by_cases e : j = i
    · subst e; simp [hi]
    · rw [if_neg e, if_neg (fun h => e h.symm)]
  · have h1 : (fvb f)[i]? = none := List.getElem?_eq_none (by rw [fvb_len]; omega)
    have h2 : (fvb (fun k => if k = j then v else f k))[i]? = none := List.getElem?_eq_none (by rw [fvb_len]; omega)
    rw [h1, h2, fvb_len]
    split
    · split
      · omega
      · rfl
    · rfl
/-- What an escaper holds: what stands for a byte behind the backslash, the turned table, the bytes that are escaped. -/
def escB (f h : Nat → Nat) (s : ByteArray) : Array Value := (fvb f ++ (fvb h ++ [Value.string s])).toArray
theorem escB_size (f h : Nat → Nat) (s : ByteArray) : (escB f h s).size = 513 := by simp [escB, fvb_len]
theorem escB_f (f h : Nat → Nat) (s : ByteArray) {j : Nat} (hj : j < 256) : (escB f h s)[j]? = some (.int .u8 (f j : Int)) := by
  unfold escB
  rw [List.getElem?_toArray, List.getElem?_append_left (by rw [fvb_len]; exact hj), fvb_get f hj]
theorem escB_h (f h : Nat → Nat) (s : ByteArray) {j : Nat} (hj : j < 256) : (escB f h s)[256 + j]? = some (.int .u8 (h j : Int)) := by
  unfold escB
  rw [List.getElem?_toArray, List.getElem?_append_right (by rw [fvb_len]; omega), fvb_len, Nat.add_sub_cancel_left, List.getElem?_append_left (by rw [fvb_len]; exact hj), fvb_get h hj]
theorem escB_s (f h : Nat → Nat) (s : ByteArray) : (escB f h s)[512]? = some (.string s) := by
  unfold escB
  rw [List.getElem?_toArray, List.getElem?_append_right (by rw [fvb_len]; omega), fvb_len, List.getElem?_append_right (by rw [fvb_len]; omega), fvb_len]
  rfl
theorem escB_setf (f h : Nat → Nat) (s : ByteArray) {j : Nat} (hj : j < 256) (v : Nat) : (escB f h s).setIfInBounds j (.int .u8 (v : Int)) = escB (fun k => if k = j then v else f k) h s := by
  unfold escB
  rw [List.setIfInBounds_toArray, List.set_append_left _ _ (by rw [fvb_len]; exact hj), fvb_set]
theorem escB_seth (f h : Nat → Nat) (s : ByteArray) {j : Nat} (hj : j < 256) (v : Nat) : (escB f h s).setIfInBounds (256 + j) (.int .u8 (v : Int)) = escB f (fun k => if k = j then v else h k) s := by
  unfold escB
  rw [List.setIfInBounds_toArray, List.set_append_right _ _ (by rw [fvb_len]; omega), fvb_len, Nat.add_sub_cancel_left, List.set_append_left _ _ (by rw [fvb_len]; exact hj), fvb_set]
theorem escB_sets (f h : Nat → Nat) (s s' : ByteArray) : (escB f h s).setIfInBounds 512 (.string s') = escB f h s' := by
  unfold escB
  rw [List.setIfInBounds_toArray, List.set_append_right _ _ (by rw [fvb_len]; omega), fvb_len, List.set_append_right _ _ (by rw [fvb_len]; omega), fvb_len]
  simp
/-- What stands for a byte behind the backslash. -/
def eT (r : Nat) : Nat := if r = 10 then 110 else if r = 13 then 114 else if r = 9 then 116 else r
/-- The bytes that are escaped. -/
def EscOk (r : Nat) : Prop := r = 32 ∨ r = 44 ∨ r = 61 ∨ r = 92 ∨ r = 34 ∨ r = 10 ∨ r = 13 ∨ r = 9
/-- A rune quoted, without its quotes. -/
def escT (r : Nat) : List Int := if r = 92 ∨ r = 10 ∨ r = 13 ∨ r = 9 then [92, (eT r : Int)] else [(r : Int)]
/-- The tables after some bytes. -/
def tabF (l : List Int) : Nat → Nat := l.foldl (fun f r => fun k => if k = r.toNat then eT r.toNat else f k) (fun _ => 0)
def tabH (l : List Int) : Nat → Nat := l.foldl (fun f r => fun k => if k = eT r.toNat then r.toNat else f k) (fun _ => 0)
theorem tabF_snoc (l : List Int) (r : Int) : tabF (l ++ [r]) = fun k => if k = r.toNat then eT r.toNat else tabF l k := by unfold tabF; rw [List.foldl_append]; rfl
theorem tabH_snoc (l : List Int) (r : Int) : tabH (l ++ [r]) = fun k => if k = eT r.toNat then r.toNat else tabH l k := by unfold tabH; rw [List.foldl_append]; rfl
instance : DecidablePred EscOk := fun r => by unfold EscOk; infer_instance
theorem eT_lt {r : Nat} (h : EscOk r) : eT r < 256 := by
  rcases h with rfl | rfl | rfl | rfl | rfl | rfl | rfl | rfl <;> decide
theorem nums_size (l : List Int) : (strOfNums l).size = l.length := by simp [strOfNums, ByteArray.size]
theorem cut_q {r : Nat} (h : EscOk r) : (strOfNums ([39] ++ escT r ++ [39])).extract 1 ((escT r).length + 1) = strOfNums (escT r) := by
  rcases h with rfl | rfl | rfl | rfl | rfl | rfl | rfl | rfl <;> rfl
theorem bt_e {r : Nat} (h : EscOk r) : HHW.bt (strOfNums [(eT r : Int)]) 0 = (eT r : Int) := by
  rcases h with rfl | rfl | rfl | rfl | rfl | rfl | rfl | rfl <;> rfl
theorem take_ints {s : ByteArray} {i : Nat} (hi : i < s.size) : (ints s).take (i + 1) = (ints s).take i ++ [HHW.bt s (i : Int)] := by
  rw [List.take_add_one, ints_bt s hi]
  have := HHW.bt_range s (i : Int)
  rw [Int.toNat_of_nonneg this.1]
  rfl
theorem all_ok {s : ByteArray} (h : (ints s).all (fun x => decide (0 ≤ x ∧ EscOk x.toNat)) = true) : ∀ i, i < s.size → ∃ r : Nat, HHW.bt s (i : Int) = (r : Int) ∧ EscOk r := fun i hi => by
  have h1 := List.all_eq_true.1 h (HHW.bt s (i : Int)) (by
    have h2 := ints_bt s hi
    have h3 := HHW.bt_range s (i : Int)
    rw [Int.toNat_of_nonneg h3.1] at h2
    exact List.mem_of_getElem? h2)
  have h2 := of_decide_eq_true h1
  exact ⟨(HHW.bt s (i : Int)).toNat, by omega, h2.2⟩
/-- The bytes that each kind escapes. -/
def escS (k : Nat) : ByteArray := if k = 0 then ⟨#[32, 44]⟩ else if k = 1 then ⟨#[44, 61, 32]⟩ else if k = 2 then ⟨#[44, 32, 61]⟩ else if k = 3 then ⟨#[44, 61, 32]⟩ else ⟨#[92, 34, 10, 13, 9]⟩
/-! ### rows that are filled -/
theorem l_storeT {P : Program} {ops : Array Oper} {Q : Exit → Act → World → Prop} {o : Oper} {rest : List Oper} {a : Act} {n : Nat} {ds : List Deferred} {F : List (Nat × Value)} {B : Nat} {w0 w : World} {L L' : List (Nat × Obj)} {t : TypeId} {x y : Operand} {g j : Nat} {cs : Array Value} {tt : TypeId} {f : Nat × Nat} {v : Value} (S : SL a n ds F) (H : HH B w0 w L) (ho : o.op = .store t x y) (hx : ev F x = some (.pointer (some ⟨g, j, none⟩))) (hy : ev F y = some v)
    (hth : Thaw cs f) (hu : Upd L g (.cells cs tt f) (.cells (cs.setIfInBounds j v) tt f) L') (hj : j < cs.size)
    (hr : ∀ (w : World) u, w.cell? ⟨g, j, none⟩ = some u → w.frozen? ⟨g, j, none⟩ = false → (Instr.storeAt t (.pointer (some ⟨g, j, none⟩)) v).run P w = .ok () (w.setCell ⟨g, j, none⟩ v))
    (hg : o.guard = none) (hd : o.dst = none) (h : ∀ w a, HH B w0 w L' → SL a n ds F → wpList P ops Q rest a w) : wpList P ops Q (o :: rest) a w := by
  have hat := H.at_ _ hu.mem
  simp only at hat
  refine l_skip S (w1 := w.setCell ⟨g, j, none⟩ v) (fun ρ A => ?_) hg hd (fun a S' => h _ a (H.set hu) S')
  unfold execOp
  simp only [ho]
  rw [A x _ hx, A y _ hy]
  show ((Instr.storeAt t (.pointer (some ⟨g, j, none⟩)) v) >>= fun _ => pure Next.skip).run P w = _
  rw [Sem.run_bind, hr w cs[j] ((H.cell hu j).trans (by simp [hj])) (hth.at hat hj)]
  rfl
theorem Thaw.set {cs : Array Value} {f : Nat × Nat} {j : Nat} {v : Value} (h : Thaw cs f) : Thaw (cs.setIfInBounds j v) f := fun i hi => h i (by simpa using hi)
theorem row_snoc {cs : Array Value} {l : List Int} {v : Int} (h : YtbahngfpadjbhaaDoor.bf.Row cs 0 l) (hl : l.length < cs.size) : YtbahngfpadjbhaaDoor.bf.Row (cs.setIfInBounds l.length (.int .u8 v)) 0 (l ++ [v]) := by
  intro i x hi
  rw [Nat.zero_add]
  rw [Array.getElem?_setIfInBounds]
  by_cases e : i < l.length
  · rw [if_neg (by omega)]
    rw [List.getElem?_append_left e] at hi
    have := h i x hi
    rwa [Nat.zero_add] at this
  · have hi2 := (List.getElem?_eq_some_iff.1 hi).1
    rw [List.length_append] at hi2
    simp only [List.length_cons, List.length_nil] at hi2
    have e2 : i = l.length := by omega
    subst e2
    rw [if_pos rfl, if_pos hl]
    simp at hi
    subst hi; rfl
theorem own_rowE {te : TypeId} {g c : Nat} {cs : Array Value} {f : Nat × Nat} {l : List Int} (hl : l.length ≤ c) (hc : cs.size = c) (hth : Thaw cs f) (h : YtbahngfpadjbhaaDoor.bf.Row cs 0 l) : OwnB te (.slice (some ⟨g, 0, none⟩) l.length c) l [(g, .cells cs te f)] :=
  ⟨by simp, .inr ⟨g, cs, c, f, rfl, hl, by omega, rfl, hth, fun j hj => by
    rw [List.length_map] at hj
    rw [List.getElem?_map, get_some 0 hj]
    have := h j _ (get_some 0 hj)
    rw [Nat.zero_add] at this
    exact this⟩⟩
theorem own_open0 {te : TypeId} {A : Option Addr} {c : Nat} {ow : List (Nat × Obj)} (h : OwnB te (.slice A ([] : List Int).length c) [] ow) (hc : 0 < c) : ∃ g cs f, A = some ⟨g, 0, none⟩ ∧ ow = [(g, .cells cs te f)] ∧ cs.size = c ∧ Thaw cs f := by
  obtain ⟨_, ⟨hv, _, _⟩ | ⟨g, cs, c', f, hv, _, hcs, hw, hth, _⟩⟩ := h
  · injection hv with _ _ e3
    omega
  · injection hv with e1 _ e3
    subst e3
    exact ⟨g, cs, f, e1, hw, by omega, hth⟩
theorem first0 {P : Program} {w : World} (A : Option Addr) (c : Nat) : First P (.slice A 0 c) 0 [] w := by
  cases A with
  | none => exact first_nil c
  | some a => exact ⟨fun _ => rfl, fun n hn => (by
      have h0 : n = 0 := by omega
      subst h0
      exact run_firstCells_some w 1 0 a 0 c [] rfl (fun j u hj => by simp at hj)), rfl, fun _ h => by cases h⟩
/-! ### what is escaped, plainly -/
def escd (f : Nat → Nat) (l : List Int) : List Int := l.flatMap fun c => if f c.toNat = 0 then [c] else [92, (f c.toNat : Int)]
theorem escd_snoc (f : Nat → Nat) (l : List Int) (c : Int) : escd f (l ++ [c]) = escd f l ++ (if f c.toNat = 0 then [c] else [92, (f c.toNat : Int)]) := by
  unfold escd
  rw [List.flatMap_append]
  simp
theorem escd_take (f : Nat → Nat) (l : List Int) (i : Nat) : (escd f (l.take i)).length ≤ (escd f l).length := by
  unfold escd
  conv => rhs; rw [← List.take_append_drop i l, List.flatMap_append]
  rw [List.length_append]
  omega
theorem one_eq {s t : ByteArray} {i j : Nat} (hi : i < s.size) (hj : j < t.size) : ((s.extract i (i + 1)).toList == (t.extract j (j + 1)).toList) = decide (HHW.bt s (i : Int) = HHW.bt t (j : Int)) := by
  have key : ∀ (s : ByteArray) (i : Nat) (hi : i < s.size), (s.extract i (i + 1)).toList = [s[i]'hi] ∧ HHW.bt s (i : Int) = ((s[i]'hi).toNat : Int) := by
    intro s i hi
    constructor
    · rw [ByteArray.toList_eq, ByteArray.data_extract, Array.toList_extract]
      have hl : i < s.data.toList.length := by rw [Array.length_toList]; exact hi
      rw [List.extract_eq_take_drop, Nat.add_sub_cancel_left, List.drop_eq_getElem_cons hl]
      rfl
    · unfold HHW.bt
      simp only [Int.toNat_natCast, hi, dif_pos]
  obtain ⟨h1, h2⟩ := key s i hi
  obtain ⟨h3, h4⟩ := key t j hj
  rw [h1, h2, h3, h4]
  by_cases e : s[i]'hi = t[j]'hj
  · rw [e]; simp
  · have : ¬ (((s[i]'hi).toNat : Int) = ((t[j]'hj).toNat : Int)) := fun h => e (UInt8.toNat_inj.1 (by omega))
    rw [decide_eq_false this]
    simp [e]
theorem cnt_ints (b : Int) {s : ByteArray} {i : Nat} (hi : i < s.size) : cnt b ((ints s).take (i + 1)) = cnt b ((ints s).take i) + if HHW.bt s (i : Int) = b then 1 else 0 := by
  unfold cnt
  rw [take_ints hi, List.countP_append]
  by_cases e : HHW.bt s (i : Int) = b <;> simp [List.countP_cons, e]
/-- How often one of some bytes stands there. -/
def sumC : List Int → List Int → Nat
  | [], _ => 0
  | c :: t, l => cnt c l + sumC t l
theorem sumC_snoc (t : List Int) (c : Int) (l : List Int) : sumC (t ++ [c]) l = sumC t l + cnt c l := by
  induction t with
  | nil => simp [sumC]
  | cons x t ih => simp only [List.cons_append, sumC, ih]; omega
theorem sumC_cons (t : List Int) (b : Int) (l : List Int) : sumC t (b :: l) = sumC t [b] + sumC t l := by
  induction t with
  | nil => simp [sumC]
  | cons x t ih =>
    simp only [sumC, ih]
    have : cnt x (b :: l) = cnt x [b] + cnt x l := by
      unfold cnt
      rw [show b :: l = [b] ++ l from rfl, List.countP_append]
    omega
theorem sumC_le (t l : List Int) : sumC t l ≤ t.length * l.length := by
  induction t with
  | nil => simp [sumC]
  | cons x t ih => simp only [sumC, List.length_cons, Nat.add_mul, Nat.one_mul]; have := cnt_le x l; omega
/-- The length of what is escaped. -/
theorem escd_len {f : Nat → Nat} {t : List Int} (hf : ∀ b, b < 256 → (if f b = 0 then 0 else 1) = sumC t [(b : Int)]) : ∀ l : List Int, (∀ x ∈ l, 0 ≤ x ∧ x < 256) → (escd f l).length = l.length + sumC t l
  | [], _ => by
    have : sumC t [] = 0 := by have := sumC_le t []; simpa using this
    simp [escd, this]
  | b :: l, hl => by
    have ih := escd_len hf l (fun x hx => hl x (List.mem_cons_of_mem _ hx))
    have hb := hl b List.mem_cons_self
    have h1 := hf b.toNat (by omega)
    rw [Int.toNat_of_nonneg hb.1] at h1
    have h2 : escd f (b :: l) = (if f b.toNat = 0 then [b] else [92, (f b.toNat : Int)]) ++ escd f l := by unfold escd; rfl
    rw [h2, List.length_append, ih, sumC_cons, ← h1]
    split <;> simp <;> omega
theorem escd_same {f : Nat → Nat} {t : List Int} (hf : ∀ b, b < 256 → (if f b = 0 then 0 else 1) = sumC t [(b : Int)]) : ∀ l : List Int, (∀ x ∈ l, 0 ≤ x ∧ x < 256) → sumC t l = 0 → escd f l = l
  | [], _, _ => rfl
  | b :: l, hl, h0 => by
    rw [sumC_cons] at h0
    have ih := escd_same hf l (fun x hx => hl x (List.mem_cons_of_mem _ hx)) (by omega)
    have hb := hl b List.mem_cons_self
    have h1 := hf b.toNat (by omega)
    rw [Int.toNat_of_nonneg hb.1] at h1
    have h2 : escd f (b :: l) = (if f b.toNat = 0 then [b] else [92, (f b.toNat : Int)]) ++ escd f l := by unfold escd; rfl
    have h3 : f b.toNat = 0 := by
      by_cases e : f b.toNat = 0
      · exact e
      · rw [if_neg e] at h1; omega
    rw [h2, if_pos h3, ih]
    rfl
theorem sl_zero {P : Program} {t e : TypeId} {w : World} {k k' : IntKind} {g n h c : Nat} {i j : Int} (hu : P.underlying t = some (.slice e)) (hs : szB P e = some 1) (hi : i = 0) (hj : j = (h : Int)) (hh : h ≤ c) :
    (Instr.sliceAt t (.slice (some ⟨g, 0, none⟩) n c) (some (.int k i)) (some (.int k' j)) none).run P w = .ok (.slice (some ⟨g, 0, none⟩) h c) w := by
  subst hi hj
  rw [sl_slice hu hs (by omega) (by omega) (by omega), Int.toNat_natCast]
  have : cutAt (some ⟨g, 0, none⟩) c (0 : Int).toNat 1 = some ⟨g, 0, none⟩ := by rw [show (0 : Int).toNat = 0 from rfl, cutAt_off]; unfold offAt; split <;> rfl
  rw [this]
  simp
theorem tab_sum : ∀ k, k < 5 → ∀ b, b < 256 → (if tabF (ints (escS k)) b = 0 then 0 else 1) = sumC (ints (escS k)) [(b : Int)] := by
  have h : (List.range 5).all (fun k => (List.range 256).all fun b => decide ((if tabF (ints (escS k)) b = 0 then 0 else 1) = sumC (ints (escS k)) [(b : Int)])) = true := by decide +kernel
  intro k hk b hb
  exact of_decide_eq_true (List.all_eq_true.1 (List.all_eq_true.1 h k (List.mem_range.2 hk)) b (List.mem_range.2 hb))
theorem tab_lt : ∀ k, k < 5 → ∀ b, tabF (ints (escS k)) b < 256 ∧ tabH (ints (escS k)) b < 256 := by
  intro k hk b
  have h : (List.range 5).all (fun k => (List.range 256).all fun b => decide (tabF (ints (escS k)) b < 256 ∧ tabH (ints (escS k)) b < 256)) = true := by decide +kernel
  by_cases hb : b < 256
  · exact of_decide_eq_true (List.all_eq_true.1 (List.all_eq_true.1 h k (List.mem_range.2 hk)) b (List.mem_range.2 hb))
  · have hz : ∀ (l : List Int) (f g : Nat → Nat), f b = 0 → g b = 0 → (∀ x ∈ l, 0 ≤ x ∧ EscOk x.toNat) → (l.foldl (fun f r => fun k => if k = r.toNat then eT r.toNat else f k) f) b = 0 ∧ (l.foldl (fun f r => fun k => if k = eT r.toNat then r.toNat else f k) g) b = 0 := by
      intro l
      induction l with
      | nil => intro f g hf hg _; exact ⟨hf, hg⟩
      | cons x l ih =>
        intro f g hf hg hl
        have h2 := hl x List.mem_cons_self
        have h3 := eT_lt h2.2
        have h4 : x.toNat < 256 := by have := h2.2; unfold EscOk at this; omega
        rw [List.foldl_cons, List.foldl_cons]
        exact ih _ _ ((if_neg (by omega)).trans hf) ((if_neg (by omega)).trans hg) (fun y hy => hl y (List.mem_cons_of_mem _ hy))
    have h5 : (List.range 5).all (fun k => (ints (escS k)).all fun x => decide (0 ≤ x ∧ EscOk x.toNat)) = true := by decide +kernel
    have h6 := hz (ints (escS k)) (fun _ => 0) (fun _ => 0) rfl rfl (fun x hx => of_decide_eq_true (List.all_eq_true.1 (List.all_eq_true.1 h5 k (List.mem_range.2 hk)) x hx))
    exact ⟨by unfold tabF; rw [h6.1]; decide, by unfold tabH; rw [h6.2]; decide⟩
theorem l_bytesC {P : Program} {ops : Array Oper} {Q : Exit → Act → World → Prop} {o : Oper} {rest : List Oper} {a : Act} {N : Nat} {ds : List Deferred} {F : List (Nat × Value)} {d : Nat} {B : Nat} {w0 w : World} {L : List (Nat × Obj)} {t t' e : TypeId} {x : Operand} {s : ByteArray} (S : SL a N ds F) (H : HH B w0 w L) (ho : o.op = .convert t t' x) (hx : ev F x = some (.string s)) (hs : P.underlying t = some .string) (hd' : P.underlying t' = some (.slice e)) (he : P.underlying e = some (.int .u8))
    (hg : o.guard = none) (hd : o.dst = some d) (hn : Nat.blt d N = true)
    (hsm : s.size ≤ 1000000) (h : ∀ A c ow w a, c ≤ 9223372036854775807 → Own e 1 (.slice A s.size c) s.size ((ints s).map (Value.int .u8)) ow → HH B w0 w (ow ++ L) → SL a N ds ((d, .slice A s.size c) :: F) → wpList P ops Q rest a w) : wpList P ops Q (o :: rest) a w := by
  refine l_event S (v := .slice (some ⟨w.heap.size, 0, none⟩) s.size (grownCap w s.size 0 e)) (w1 := Lib.bytesWorld w e s) (fun ρ A => ?_) hg hd hn (fun a S' => h _ _ [(w.heap.size, .cells (Lib.bytesCells w e s) e ((Lib.bytesCells w e s).size, (Lib.bytesCells w e s).size + 1))] _ a (grownCap_le_maxLen w s.size 0 e (Nat.le_trans hsm (by decide))) ?_ (H.push ?_ (Lib.bytesWorld_at_new w e s)) S')
  · unfold execOp
    simp only [ho]
    rw [A x _ hx]
    exact run_v (Lib.run_convert_string_bytes w t t' e s hs hd' he)
  · have hsz : (Lib.bytesCells w e s).size = grownCap w s.size 0 e := by
      unfold Lib.bytesCells
      have := grownCap_ge w s.size 0 e
      rw [Array.size_append, Array.size_map, Array.size_replicate]
      show s.size + _ = _
      omega
    refine ⟨by simp [ints_len], .inr ⟨w.heap.size, Lib.bytesCells w e s, grownCap w s.size 0 e, _, rfl, grownCap_ge _ _ _ _, by rw [hsz]; omega, rfl, fun j hj h => by simp at h; omega, fun j hj => ?_⟩⟩
    rw [List.length_map, ints_len] at hj
    unfold Lib.bytesCells ints
    rw [Array.getElem?_append_left (by simpa using hj)]
    simp [List.getElem?_map]
    rfl
  · refine ⟨rfl, rfl, rfl, ?_, fun k hk => Lib.bytesWorld_at_old w e s k hk⟩
    rw [Lib.bytesWorld_size]; omega
end Go.Proofs.HHW
