/- Words of this seat's own: texts walked rune by rune; maps of texts to truths; empty literals; quoted texts, plainly. -/
import Derived.Test.YtnmelglnkefjfaaDoorDg
import Derived.Lib.TrimU
import Derived.Lib.OthersKept
import Derived.Lib.QuoteLoop
import Derived.Lib.RuneCountTail
import Derived.Lib.Case
import Derived.Lib.Join
namespace Go.Proofs.YtnmelglnkefjfaaDoor.cm
open Go.RowKit Go.Proofs.HHW Go.Proofs.YtnmelglnkefjfaaDoorW.PrintWords
set_option linter.unusedVariables false
set_option linter.unusedSimpArgs false
section
variable {P : Program} {ops : Array Oper} {Q : Exit → Act → World → Prop} {o : Oper} {rest : List Oper} {a : Act} {n : Nat} {ds : List Deferred} {F : List (Nat × Value)} {d B : Nat} {w0 w : World} {L : List (Nat × Obj)}
theorem putO {L' : List (Nat × Obj)} {g : Nat} {ob ob' : Obj} (H : HH B w0 w L) (hu : Upd L g ob ob' L') : HH B w0 { w with heap := w.heap.setIfInBounds g ob' } L' := by
  have hlt := H.lt (p := (g, ob)) hu.mem
  simp only at hlt
  have hlo := H.lo (g, ob) hu.mem
  simp only at hlo
  refine H.upd hu ⟨rfl, rfl, rfl, by simp, fun k hk => ?_⟩ (fun k _ hk => ?_) ?_
  · simp only [Array.getElem?_setIfInBounds]; rw [if_neg (by omega)]
  · simp only [Array.getElem?_setIfInBounds]; rw [if_neg (by omega)]
  · simp only [Array.getElem?_setIfInBounds]; rw [if_pos trivial, if_pos hlt]
theorem l_rangeS {t : TypeId} {x : Operand} {s : ByteArray} (S : SL a n ds F) (H : HH B w0 w L) (ho : o.op = .range t x) (hx : ev F x = some (.string s)) (ht : P.underlying t = some .string) (hg : o.guard = none) (hd : o.dst = some d) (hn : Nat.blt d n = true)
    (h : ∀ g w a, HH B w0 w ((g, .stringIter s 0) :: L) → SL a n ds ((d, .pointer (some ⟨g, 0, none⟩)) :: F) → wpList P ops Q rest a w) : wpList P ops Q (o :: rest) a w := by
  refine l_event S (v := .pointer (some ⟨w.heap.size, 0, none⟩)) (w1 := w.iter s 0) (fun ρ A => ?_) hg hd hn (fun a S' => h _ _ a (H.alloc (.stringIter s 0)) S')
  unfold execOp
  simp only [ho]
  rw [A x _ hx]
  exact run_v (run_range_string w t s ht)
/-- The next rune, whatever it is. -/
theorem l_nextG {x : Operand} {s : ByteArray} {g i : Nat} (S : SL a n ds F) (H : HH B w0 w ((g, .stringIter s i) :: L)) (ho : o.op = .next x true) (hx : ev F x = some (.pointer (some ⟨g, 0, none⟩))) (hi : i < s.size) (hg : o.guard = none) (hd : o.dst = some d) (hn : Nat.blt d n = true)
    (h : ∀ w a, HH B w0 w ((g, .stringIter s (i + (Utf8.decode s i).2)) :: L) → SL a n ds ((d, .tuple #[.bool true, .int .i64 (i : Int), .int .i32 ((Utf8.decode s i).1 : Int)]) :: F) → wpList P ops Q rest a w) : wpList P ops Q (o :: rest) a w := by
  have hat := H.at_ _ List.mem_cons_self
  simp only at hat
  refine l_event S (v := .tuple #[.bool true, .int .i64 (i : Int), .int .i32 ((Utf8.decode s i).1 : Int)]) (w1 := { w with heap := w.heap.setIfInBounds g (.stringIter s (i + (Utf8.decode s i).2)) }) (fun ρ A => ?_) hg hd hn (fun a S' => h _ a (putO H .here) S')
  unfold execOp
  simp only [ho]
  rw [A x _ hx]
  exact run_v (Lib.run_next_any_at w g s i o.type hat hi)
theorem l_nextE {x : Operand} {s : ByteArray} {g i : Nat} (S : SL a n ds F) (H : HH B w0 w ((g, .stringIter s i) :: L)) (ho : o.op = .next x true) (hx : ev F x = some (.pointer (some ⟨g, 0, none⟩))) (hi : ¬ i < s.size) (hg : o.guard = none) (hd : o.dst = some d) (hn : Nat.blt d n = true)
    (h : ∀ a, SL a n ds ((d, .tuple #[.bool false]) :: F) → wpList P ops Q rest a w) : wpList P ops Q (o :: rest) a w := by
  have hat := H.at_ _ List.mem_cons_self
  simp only at hat
  refine l_event S (v := .tuple #[.bool false]) (w1 := w) (fun ρ A => ?_) hg hd hn h
  unfold execOp
  simp only [ho]
  rw [A x _ hx]
  refine run_v ?_
  simp [Instr.next, getObj, Sem.run, hat, hi]
theorem src_str {tx : TypeId} (hk : P.underlying tx = some .string) (s : ByteArray) : Src P 1 tx (.string s) (ints s).length ((ints s).map (Value.int .u8)) w := by
  have h := Src.ofString (P := P) (w := w) hk s
  have e : byteCells s = (ints s).map (Value.int .u8) := by
    unfold byteCells ints
    simp [List.map_map]
  rw [e] at h
  rwa [ints_len]
/-! ### maps of texts to truths -/
theorem str_eq {s k : ByteArray} (h : (s == k) = true) : s = k := by
  cases s with | mk a => cases k with | mk b =>
    have h2 : (a == b) = true := h
    rw [eq_of_beq h2]
theorem str_self (s : ByteArray) : (s == s) = true := by
  cases s with | mk a => exact beq_self_eq_true a
def MapB (es : Array MapEntry) : Prop := ∀ e ∈ es.toList, (∃ k, e.key = .string k) ∧ ∃ b, e.val = .bool b
theorem mapB_nil : MapB #[] := fun e he => by simp at he
theorem findNow_str (s : ByteArray) : ∀ (l : List MapEntry) (i : Nat), (∀ e ∈ l, ∃ k, e.key = .string k) → Instr.findNow .string (.string s) l i = some none ∨ ∃ j e, Instr.findNow .string (.string s) l i = some (some (i + j, e.val)) ∧ l[j]? = some e ∧ e.key = .string s
  | [], i, _ => .inl rfl
  | e :: r, i, h => by
    obtain ⟨k, hk⟩ := h e List.mem_cons_self
    unfold Instr.findNow
    rw [hk]
    simp only [Instr.sameNow]
    cases hb : (s == k) with
    | true =>
      have : s = k := str_eq hb
      subst this
      exact .inr ⟨0, e, rfl, rfl, hk⟩
    | false =>
      simp only
      rcases findNow_str s r (i + 1) (fun e he => h e (List.mem_cons_of_mem _ he)) with h1 | ⟨j, e', h1, h2, h3⟩
      · exact .inl h1
      · exact .inr ⟨j + 1, e', by rw [h1, Nat.add_right_comm i 1 j]; rfl, by simpa using h2, h3⟩
def mget (es : Array MapEntry) (s : ByteArray) : Bool :=
  match Instr.findNow .string (.string s) es.toList 0 with
  | some (some (_, .bool b)) => b
  | _ => false
theorem checkKey_str {e : Bool} {kt : TypeId} {s : ByteArray} (hk : P.underlying kt = some .string) (w : World) : (Instr.checkKey e 10000 kt (.string s)).run P w = .ok () w := by
  unfold Instr.checkKey
  rw [Sem.run_bind, run_underlying hk]
  rfl
theorem findKey_str {kt : TypeId} {s : ByteArray} {l : List MapEntry} {r : Option (Nat × Value)} (hk : P.underlying kt = some .string) (h : Instr.findNow .string (.string s) l 0 = some r) (w : World) : (Instr.findKey kt (.string s) l).run P w = .ok r w := by
  unfold Instr.findKey
  rw [Sem.run_bind, run_underlying hk]
  simp only [Result.andThen, h]
  rfl
theorem l_makeMap {t : TypeId} (S : SL a n ds F) (H : HH B w0 w L) (ho : o.op = .makeMap t none) (hg : o.guard = none) (hd : o.dst = some d) (hn : Nat.blt d n = true)
    (h : ∀ g w a, HH B w0 w ((g, .map #[] 0) :: L) → SL a n ds ((d, .map (some g)) :: F) → wpList P ops Q rest a w) : wpList P ops Q (o :: rest) a w := by
  refine l_event S (v := .map (some w.heap.size)) (w1 := w.alloc (.map #[] 0)) (fun ρ A => ?_) hg hd hn (fun a S' => h _ _ a (H.alloc (.map #[] 0)) S')
  unfold execOp
  simp only [ho]
  exact run_v (by simp only [Instr.makeMap, Option.map]; rfl)
theorem l_insert {t kt et : TypeId} {m k x : Operand} {g c : Nat} {s : ByteArray} {b : Bool} {es : Array MapEntry} (S : SL a n ds F) (H : HH B w0 w ((g, .map es c) :: L)) (hM : MapB es) (ho : o.op = .insert t m k x) (hm : ev F m = some (.map (some g))) (hk : ev F k = some (.string s)) (hx : ev F x = some (.bool b))
    (ht : P.underlying t = some (.map kt et)) (hkt : P.underlying kt = some .string) (hg : o.guard = none) (hd : o.dst = none)
    (h : ∀ es' c' w a, MapB es' → HH B w0 w ((g, .map es' c') :: L) → SL a n ds F → wpList P ops Q rest a w) : wpList P ops Q (o :: rest) a w := by
  have hat := H.at_ _ List.mem_cons_self
  simp only at hat
  have hget : (getObj g).run P w = .ok (.map es c) w := by simp [getObj, Sem.run, hat]
  have key : ∃ es' c', MapB es' ∧ (Instr.mapUpdate t (.map (some g)) (.string s) (.bool b)).run P w = .ok () { w with heap := w.heap.setIfInBounds g (.map es' c') } := by
    rcases findNow_str s es.toList 0 (fun e he => (hM e he).1) with h1 | ⟨j, e, h1, h2, h3⟩
    · refine ⟨es.push { key := .string s, val := .bool b, born := c }, c + 1, fun e he => ?_, ?_⟩
      · rw [Array.toList_push] at he
        rcases List.mem_append.1 he with he | he
        · exact hM e he
        · simp at he; subst he; exact ⟨⟨s, rfl⟩, ⟨b, rfl⟩⟩
      · unfold Instr.mapUpdate
        simp only [Sem.run_bind, run_underlying ht, Result.andThen, hget, checkKey_str hkt, findKey_str hkt h1]
        simp only [setObj, Sem.run, hat]
    · refine ⟨es.modify (0 + j) fun e => { e with key := .string s, val := .bool b }, c, fun e' he => ?_, ?_⟩
      · obtain ⟨i, hi⟩ := List.getElem?_of_mem he
        rw [Array.getElem?_toList, Array.getElem?_modify] at hi
        split at hi
        · obtain ⟨e0, _, rfl⟩ := Option.map_eq_some_iff.1 hi
          exact ⟨⟨s, rfl⟩, ⟨b, rfl⟩⟩
        · exact hM e' (by rw [← Array.getElem?_toList] at hi; exact List.mem_of_getElem? hi)
      · unfold Instr.mapUpdate
        simp only [Sem.run_bind, run_underlying ht, Result.andThen, hget, checkKey_str hkt, findKey_str hkt h1]
        have e1 : ((es[0 + j]?).map (·.key)).getD (.string s) = .string s := by
          rw [Nat.zero_add, ← Array.getElem?_toList, h2]
          simp [h3]
        rw [e1]
        have e2 : (Instr.keyThatStays (.string s) (.string s)).run P w = .ok (.string s) w := by
          unfold Instr.keyThatStays
          rw [if_pos (by unfold Instr.sameBits; exact str_self s)]
          rfl
        simp only [Sem.run_bind, e2, Result.andThen]
        simp only [setObj, Sem.run, hat]
  obtain ⟨es', c', hM', hrun⟩ := key
  refine l_skip S (w1 := { w with heap := w.heap.setIfInBounds g (.map es' c') }) (fun ρ A => ?_) hg hd (fun a S' => h es' c' _ a hM' (putO H .here) S')
  unfold execOp
  simp only [ho]
  rw [A m _ hm, A k _ hk, A x _ hx]
  show ((Instr.mapUpdate t (.map (some g)) (.string s) (.bool b)) >>= fun _ => pure Next.skip).run P w = _
  rw [Sem.run_bind, hrun]
  rfl
theorem r_lookup {t kt et : TypeId} {m k : Operand} {g c : Nat} {s : ByteArray} {es : Array MapEntry} (hM : MapB es) (hmem : (g, Obj.map es c) ∈ L) (hm : ev F m = some (.map (some g))) (hk : ev F k = some (.string s)) (ht : P.underlying t = some (.map kt et)) (hkt : P.underlying kt = some .string) (hz : zvB P et = some (.bool false)) : Reads P F B w0 L (.lookup t m k false) (.bool (mget es s)) := by
  intro ρ A o ho w H
  have hat := H.at_ _ hmem
  simp only at hat
  have hget : (getObj g).run P w = .ok (.map es c) w := by simp [getObj, Sem.run, hat]
  have hzv : (zeroValue et).run P w = .ok (.bool false) w := run_zero hz
  unfold execOp
  simp only [ho]
  rw [A m _ hm, A k _ hk]
  refine run_v ?_
  unfold Instr.lookup
  have hp : (pure es : Sem (Array MapEntry)).run P w = .ok es w := rfl
  rcases findNow_str s es.toList 0 (fun e he => (hM e he).1) with h1 | ⟨j, e, h1, h2, h3⟩
  · simp only [Sem.run_bind, run_underlying ht, Result.andThen, hget, hp, checkKey_str hkt, findKey_str hkt h1, hzv]
    unfold mget
    rw [h1]
    rfl
  · obtain ⟨_, b, hb⟩ := hM e (List.mem_of_getElem? h2)
    rw [hb] at h1
    simp only [Sem.run_bind, run_underlying ht, Result.andThen, hget, hp, checkKey_str hkt, findKey_str hkt h1]
    unfold mget
    rw [h1]
    rfl
/-! ### texts of one byte; empty literals -/
theorem cv_rune {t t' : TypeId} {k : IntKind} {r : Nat} {u : TypeDesc} (hs : P.underlying t = some u) (ht : P.underlying t' = some .string) (hr : r < 128) : (convert t t' (.int k (r : Int))).run P w = .ok (.string (strOfNums [(r : Int)])) w := by
  unfold convert
  rw [Sem.run_bind, run_underlying hs]
  simp only [Result.andThen]
  rw [Sem.run_bind, run_underlying ht]
  simp only [Result.andThen]
  have e : Utf8.encode (r : Int) = strOfNums [(r : Int)] := by
    unfold Utf8.encode Utf8.valid strOfNums
    have h1 : ((0 : Int) ≤ r && (r : Int) < 0xD800) = true := by simp; omega
    simp only [h1, Bool.true_or, if_true, Int.toNat_natCast, show r < 0x80 from hr]
    rfl
  rw [← e]
  cases u <;> rfl
end
/-! ### quoted texts, plainly -/
def hx (x : Nat) : Int := if x < 10 then ((48 + x : Nat) : Int) else ((87 + x : Nat) : Int)
def hexl : Nat → Nat → List Int
  | 0, _ => []
  | k + 1, n => hx (n / 16 ^ k % 16) :: hexl k n
theorem hexl_len (k n : Nat) : (hexl k n).length = k := by
  induction k with
  | zero => rfl
  | succ k ih => simp [hexl, ih]
theorem hexl_take (k n : Nat) {i : Nat} (h : i < k) : (hexl k n).take (i + 1) = (hexl k n).take i ++ [hx (n / 16 ^ (k - 1 - i) % 16)] := by
  have key : ∀ k i, i < k → (hexl k n)[i]? = some (hx (n / 16 ^ (k - 1 - i) % 16)) := by
    intro k
    induction k with
    | zero => intro i h; omega
    | succ k ih =>
      intro i h
      cases i with
      | zero => simp [hexl]
      | succ i => simp only [hexl, List.getElem?_cons_succ]; rw [ih i (by omega)]; rw [show k - 1 - i = k + 1 - 1 - (i + 1) by omega]
  rw [List.take_add_one, key k i h]; rfl
def escA : Nat → Int := fun r => ([97, 98, 116, 110, 118, 102, 114] : List Int).getD (r - 7) 0
def esc (r : Nat) : List Int :=
  if r = 34 ∨ r = 92 then [92, (r : Int)]
  else if 32 ≤ r ∧ r < 127 then [(r : Int)]
  else if 7 ≤ r ∧ r ≤ 13 then [92, escA r]
  else if r < 32 ∨ r = 127 then [92, 120] ++ hexl 2 r
  else if r < 65536 then [92, 117] ++ hexl 4 r
  else [92, 85] ++ hexl 8 r
def qr (s : ByteArray) (p : Nat) : List Int := if (Utf8.decode s p).2 = 1 ∧ (Utf8.decode s p).1 = 65533 then [92, 120] ++ hexl 2 (s.get! p).toNat else esc (Utf8.decode s p).1
def qt (s : ByteArray) (p : Nat) : List Int := if h : p < s.size then qr s p ++ qt s (p + (Utf8.decode s p).2) else []
termination_by s.size - p
decreasing_by have := Lib.width_pos s p; omega
theorem qt_step {s : ByteArray} {p : Nat} (h : p < s.size) : qt s p = qr s p ++ qt s (p + (Utf8.decode s p).2) := by rw [qt, dif_pos h]
theorem qt_end {s : ByteArray} {p : Nat} (h : ¬ p < s.size) : qt s p = [] := by rw [qt, dif_neg h]
theorem hx_by {x : Nat} (h : x < 16) : 0 ≤ hx x ∧ hx x < 256 := by unfold hx; split <;> omega
theorem hexl_by (k n : Nat) : ∀ x ∈ hexl k n, 0 ≤ x ∧ x < 256 := by
  induction k with
  | zero => intro x h; simp [hexl] at h
  | succ k ih =>
    intro x h
    rcases List.mem_cons.1 h with rfl | h
    · exact hx_by (Nat.mod_lt _ (by decide))
    · exact ih x h
theorem esc_len (r : Nat) : (esc r).length ≤ 10 := by
  unfold esc
  repeat' split
  all_goals simp [hexl_len]
theorem esc_by (r : Nat) : ∀ x ∈ esc r, 0 ≤ x ∧ x < 256 := by
  intro x h
  unfold esc at h
  split at h
  · simp at h; omega
  split at h
  · simp at h; omega
  split at h
  · rename_i h3
    simp at h
    rcases h with h | h
    · omega
    · obtain ⟨j, hj⟩ : ∃ j, r = 7 + j := ⟨r - 7, by omega⟩
      have hj6 : j ≤ 6 := by omega
      subst h
      subst hj
      unfold escA
      rw [show 7 + j - 7 = j by omega]
      rcases Nat.lt_or_ge j 7 with h | h
      · have : j = 0 ∨ j = 1 ∨ j = 2 ∨ j = 3 ∨ j = 4 ∨ j = 5 ∨ j = 6 := by omega
        rcases this with rfl | rfl | rfl | rfl | rfl | rfl | rfl <;> decide
      · omega
  split at h
  · rcases List.mem_append.1 h with h | h
    · simp at h; omega
    · exact hexl_by _ _ x h
  split at h
  · rcases List.mem_append.1 h with h | h
    · simp at h; omega
    · exact hexl_by _ _ x h
  · rcases List.mem_append.1 h with h | h
    · simp at h; omega
    · exact hexl_by _ _ x h
theorem qr_len (s : ByteArray) (p : Nat) : (qr s p).length ≤ 10 := by
  unfold qr
  split
  · simp [hexl_len]
  · exact esc_len _
theorem qr_by (s : ByteArray) (p : Nat) : ∀ x ∈ qr s p, 0 ≤ x ∧ x < 256 := by
  intro x h
  unfold qr at h
  split at h
  · rcases List.mem_append.1 h with h | h
    · simp at h; omega
    · exact hexl_by _ _ x h
  · exact esc_by _ x h
theorem qt_len (s : ByteArray) (p : Nat) : (qt s p).length ≤ 10 * (s.size - p) := by
  induction h : s.size - p using Nat.strongRecOn generalizing p with
  | _ m ih =>
    by_cases hp : p < s.size
    · rw [qt_step hp, List.length_append]
      have h1 := qr_len s p
      have h2 := Lib.width_pos s p
      have := ih (s.size - (p + (Utf8.decode s p).2)) (by omega) (p + (Utf8.decode s p).2) rfl
      omega
    · rw [qt_end hp]; simp
theorem qt_by (s : ByteArray) (p : Nat) : ∀ x ∈ qt s p, 0 ≤ x ∧ x < 256 := by
  induction h : s.size - p using Nat.strongRecOn generalizing p with
  | _ m ih =>
    by_cases hp : p < s.size
    · rw [qt_step hp]
      have h2 := Lib.width_pos s p
      intro x hx
      rcases List.mem_append.1 hx with hx | hx
      · exact qr_by s p x hx
      · exact ih (s.size - (p + (Utf8.decode s p).2)) (by omega) (p + (Utf8.decode s p).2) rfl x hx
    · rw [qt_end hp]; intro x hx; simp at hx
/-- A text in quotes. -/
def quo (s : ByteArray) : List Int := [34] ++ qt s 0 ++ [34]
theorem quo_len (s : ByteArray) : (quo s).length ≤ 10 * s.size + 2 := by
  have := qt_len s 0
  unfold quo
  simp
  omega
theorem quo_by (s : ByteArray) : ∀ x ∈ quo s, 0 ≤ x ∧ x < 256 := by
  intro x h
  unfold quo at h
  rcases List.mem_append.1 h with h | h
  · rcases List.mem_append.1 h with h | h
    · simp at h; omega
    · exact qt_by s 0 x h
  · simp at h; omega
theorem bt_get {s : ByteArray} {i : Nat} (h : i < s.size) : HHW.bt s (i : Int) = ((s.get! i).toNat : Int) := by
  unfold HHW.bt
  simp only [Int.toNat_natCast, h, dif_pos]
  cases s with
  | mk d => show ((d[i]'h).toNat : Int) = ((d[i]!).toNat : Int); rw [getElem!_pos d i h]
theorem dec_low {s : ByteArray} {p : Nat} (h : (Utf8.decode s p).1 < 128) : (Utf8.decode s p).1 = (s.get! p).toNat ∧ (Utf8.decode s p).2 = 1 := by
  rw [Lib.decode_at] at h ⊢
  unfold Lib.decodeN at h ⊢
  split
  · exact ⟨rfl, rfl⟩
  · rename_i h0
    rw [if_neg h0] at h
    exfalso
    repeat' split at h
    all_goals simp only at h
    all_goals omega
theorem dec_valid (s : ByteArray) (p : Nat) : (Utf8.decode s p).1 < 55296 ∨ (57343 < (Utf8.decode s p).1 ∧ (Utf8.decode s p).1 ≤ 1114111) := by
  rw [Lib.decode_at]
  exact Lib.decodeN_valid _ _ _ _ _ (s.get! p).toNat_lt
theorem dec_bad {s : ByteArray} {p : Nat} (h : (Utf8.decode s p).1 = 65533) : (Utf8.decode s p).2 = 1 ↔ ¬ (p + 2 < s.size ∧ (s.get! p).toNat = 239 ∧ (s.get! (p + 1)).toNat = 191 ∧ (s.get! (p + 2)).toNat = 189) := by
  rw [Lib.decode_at] at h ⊢
  have b0 := (s.get! p).toNat_lt
  have b1 := (s.get! (p + 1)).toNat_lt
  have b2 := (s.get! (p + 2)).toNat_lt
  have b3 := (s.get! (p + 3)).toNat_lt
  generalize (s.get! p).toNat = x0 at *
  generalize (s.get! (p + 1)).toNat = x1 at *
  generalize (s.get! (p + 2)).toNat = x2 at *
  generalize (s.get! (p + 3)).toNat = x3 at *
  revert h
  unfold Lib.decodeN
  repeat' split
  all_goals intro h
  all_goals refine ⟨fun h1 h2 => ?_, fun h1 => ?_⟩
  all_goals simp only at *
  all_goals first | omega | (exfalso; omega)
theorem hxb {x : Nat} (h : x < 16) : HHW.bt ⟨#[48, 49, 50, 51, 52, 53, 54, 55, 56, 57, 97, 98, 99, 100, 101, 102]⟩ (x : Int) = hx x := by
  have : ∀ y : Fin 16, HHW.bt ⟨#[48, 49, 50, 51, 52, 53, 54, 55, 56, 57, 97, 98, 99, 100, 101, 102]⟩ (y.val : Int) = hx y.val := by decide
  exact this ⟨x, h⟩
theorem hexl_two {n : Nat} (h : n < 256) : hexl 2 n = [hx (n / 16), hx (n % 16)] := by
  simp only [hexl]
  rw [Nat.pow_one, Nat.pow_zero, Nat.div_one, Nat.mod_eq_of_lt (show n / 16 < 16 by omega)]
theorem src_lst {P : Program} {w : World} {tx : TypeId} {s : ByteArray} {l : List Int} (hk : P.underlying tx = some .string) (h : ints s = l) : Src P 1 tx (.string s) l.length (l.map (Value.int .u8)) w := h ▸ src_str hk s
theorem esc_q {r : Nat} (h : r = 34 ∨ r = 92) : esc r = [92, (r : Int)] := by unfold esc; rw [if_pos h]
theorem esc_p {r : Nat} (h : ¬ (r = 34 ∨ r = 92)) (h2 : 32 ≤ r ∧ r < 127) : esc r = [(r : Int)] := by unfold esc; rw [if_neg h, if_pos h2]
theorem esc_x {r : Nat} (h : r < 7 ∨ (13 < r ∧ r < 32) ∨ r = 127) : esc r = [92, 120, hx (r / 16), hx (r % 16)] := by
  unfold esc
  rw [if_neg (by omega), if_neg (by omega), if_neg (by omega), if_pos (by omega), hexl_two (by omega)]
  rfl
theorem esc_u {r : Nat} (h : 127 < r ∧ r < 65536) : esc r = [92, 117] ++ hexl 4 r := by
  unfold esc
  rw [if_neg (by omega), if_neg (by omega), if_neg (by omega), if_neg (by omega), if_pos (by omega)]
theorem esc_U {r : Nat} (h : 65536 ≤ r) : esc r = [92, 85] ++ hexl 8 r := by
  unfold esc
  rw [if_neg (by omega), if_neg (by omega), if_neg (by omega), if_neg (by omega), if_neg (by omega)]
theorem shr_u8 (x : Nat) : ((x : Nat) : Int).fdiv (2 ^ (min (4 : Int).toNat IntKind.u8.bits)) = ((x / 16 : Nat) : Int) := by
  rw [show (2 : Int) ^ (min (4 : Int).toNat IntKind.u8.bits) = 16 from rfl, Int.fdiv_eq_ediv_of_nonneg _ (by decide)]
  exact (Int.natCast_ediv x 16).symm
theorem and15_8 (x : Nat) : IntKind.u8.wrap (BitVec.ofInt IntKind.u8.bits (x : Int) &&& BitVec.ofInt IntKind.u8.bits 15).toNat = ((x % 16 : Nat) : Int) := by
  show IntKind.u8.wrap (((BitVec.ofInt 8 (x : Int) &&& BitVec.ofInt 8 15).toNat : Nat) : Int) = _
  have e : (BitVec.ofInt 8 (x : Int) &&& BitVec.ofInt 8 15).toNat = x % 16 := by
    rw [BitVec.toNat_and, show BitVec.ofInt 8 15 = 15#8 from rfl, BitVec.ofInt_natCast, BitVec.toNat_ofNat]
    show x % 2 ^ 8 &&& 2 ^ 4 - 1 = x % 16
    rw [Nat.and_two_pow_sub_one_eq_mod, Nat.mod_mod_of_dvd _ (by decide)]
  rw [e]
  have : ∀ y : Fin 16, IntKind.u8.wrap ((y.val : Nat) : Int) = (y.val : Int) := by decide
  exact this ⟨x % 16, Nat.mod_lt _ (by decide)⟩
theorem and15_n {x : Nat} : (BitVec.ofInt 32 (x : Int) &&& BitVec.ofInt 32 15).toNat = x % 16 := by
  rw [BitVec.toNat_and, show BitVec.ofInt 32 15 = 15#32 from rfl, BitVec.ofInt_natCast, BitVec.toNat_ofNat]
  show x % 2 ^ 32 &&& 2 ^ 4 - 1 = x % 16
  rw [Nat.and_two_pow_sub_one_eq_mod, Nat.mod_mod_of_dvd _ (by decide)]
theorem and15_i32 (x : Nat) : IntKind.i32.wrap (BitVec.ofInt IntKind.i32.bits (x : Int) &&& BitVec.ofInt IntKind.i32.bits 15).toNat = ((x % 16 : Nat) : Int) := by
  show IntKind.i32.wrap (((BitVec.ofInt 32 (x : Int) &&& BitVec.ofInt 32 15).toNat : Nat) : Int) = _
  rw [and15_n]
  have : ∀ y : Fin 16, IntKind.i32.wrap ((y.val : Nat) : Int) = (y.val : Int) := by decide
  exact this ⟨x % 16, Nat.mod_lt _ (by decide)⟩
theorem and15_u32 (x : Nat) : IntKind.u32.wrap (BitVec.ofInt IntKind.u32.bits (x : Int) &&& BitVec.ofInt IntKind.u32.bits 15).toNat = ((x % 16 : Nat) : Int) := by
  show IntKind.u32.wrap (((BitVec.ofInt 32 (x : Int) &&& BitVec.ofInt 32 15).toNat : Nat) : Int) = _
  rw [and15_n]
  have : ∀ y : Fin 16, IntKind.u32.wrap ((y.val : Nat) : Int) = (y.val : Int) := by decide
  exact this ⟨x % 16, Nat.mod_lt _ (by decide)⟩
theorem shr_4j {x j k : Nat} (h : 4 * j ≤ k) : ((x : Nat) : Int).fdiv (2 ^ (min ((4 * j : Nat) : Int).toNat k)) = ((x / 16 ^ j : Nat) : Int) := by
  rw [Int.toNat_natCast, Nat.min_eq_left h, Int.fdiv_eq_ediv_of_nonneg _ (by have : (0 : Int) < 2 ^ (4 * j) := Int.pow_pos (by decide); omega)]
  have e : (2 : Int) ^ (4 * j) = ((16 ^ j : Nat) : Int) := by
    rw [Int.pow_mul]
    norm_cast
  rw [e]
  exact (Int.natCast_ediv x (16 ^ j)).symm
theorem dec_le {s : ByteArray} {p : Nat} (h : p < s.size) : (Utf8.decode s p).2 ≤ s.size - p := by
  rw [Lib.decode_at]
  have : 1 ≤ s.size - p := by omega
  generalize s.size - p = n at this ⊢
  unfold Lib.decodeN
  repeat' split
  all_goals simp only
  all_goals omega
theorem ext_size {s : ByteArray} {p : Nat} : (s.extract p s.size).size = s.size - p := Lib.tail_size s p
theorem bt_ext {s : ByteArray} {p : Nat} (h : p < s.size) : HHW.bt (s.extract p s.size) 0 = ((s.get! p).toNat : Int) := by
  have h2 : 0 < (s.extract p s.size).size := by rw [ext_size]; omega
  have := bt_get h2
  rw [Lib.tail_get!, Nat.add_zero] at this
  exact this
theorem ext_more {s : ByteArray} {p w : Nat} : (s.extract p s.size).extract w (s.extract p s.size).size = s.extract (p + w) s.size := by
  have e : ∀ (a b : ByteArray), a.data.toList = b.data.toList → a = b := fun a b h => by
    cases a with | mk x => cases b with | mk y =>
      have : x = y := Array.toList_inj.1 h
      rw [this]
  apply e
  simp only [ByteArray.data_extract, Array.toList_extract, List.extract_eq_take_drop]
  have h1 : (s.extract p s.size).size = s.size - p := ext_size
  rw [h1, List.drop_take, List.drop_drop, List.take_take]
  congr 1
  omega
section
variable {P : Program} {w : World} {t e : TypeId} {s : Nat} {A : Option Addr} {n c : Nat}
/-- A cut of a slice, whatever it is. -/
theorem cut_lo {k : IntKind} {l : Int} (hu : P.underlying t = some (.slice e)) (hs : szB P e = some s) (h0 : 0 ≤ l) (h1 : l ≤ n) : ∃ A' n' c', ∀ w, (Instr.sliceAt t (.slice A n c) (some (.int k l)) none none).run P w = .ok (.slice A' n' c') w := ⟨_, _, _, fun w => sl_slice_lo hu hs h0 h1⟩
theorem cut_hi {k : IntKind} {l : Int} (hu : P.underlying t = some (.slice e)) (hs : szB P e = some s) (h0 : 0 ≤ l) (h1 : l ≤ c) : ∃ A' n' c', ∀ w, (Instr.sliceAt t (.slice A n c) none (some (.int k l)) none).run P w = .ok (.slice A' n' c') w := ⟨_, _, _, fun w => sl_slice_hi hu hs h0 h1⟩
theorem cut_both {k k' : IntKind} {l h : Int} (hu : P.underlying t = some (.slice e)) (hs : szB P e = some s) (h0 : 0 ≤ l) (h1 : l ≤ h) (h2 : h ≤ c) : ∃ A' n' c', ∀ w, (Instr.sliceAt t (.slice A n c) (some (.int k l)) (some (.int k' h)) none).run P w = .ok (.slice A' n' c') w := ⟨_, _, _, fun w => sl_slice hu hs h0 h1 h2⟩
end
theorem l_storeT {P : Program} {ops : Array Oper} {Q : Exit → Act → World → Prop} {o : Oper} {rest : List Oper} {a : Act} {n : Nat} {ds : List Deferred} {F : List (Nat × Value)} {B : Nat} {w0 w : World} {L L' : List (Nat × Obj)} {t : TypeId} {x y : Operand} {g j : Nat} {cs : Array Value} {tt : TypeId} {f : Nat × Nat} {v : Value} (S : SL a n ds F) (H : HH B w0 w L) (ho : o.op = .store t x y) (hx : ev F x = some (.pointer (some ⟨g, j, none⟩))) (hy : ev F y = some v)
    (hth : Thaw cs f) (hu : Upd L g (.cells cs tt f) (.cells (cs.setIfInBounds j v) tt f) L') (hj : j < cs.size)
    (hr : ∀ (w : World) u, w.cell? ⟨g, j, none⟩ = some u → w.frozen? ⟨g, j, none⟩ = false → (Instr.storeAt t (.pointer (some ⟨g, j, none⟩)) v).run P w = .ok () (w.setCell ⟨g, j, none⟩ v))
    (hg : o.guard = none) (hd : o.dst = none) (h : ∀ w a, HH B w0 w L' → SL a n ds F → wpList P ops Q rest a w) : wpList P ops Q (o :: rest) a w := by
  have hat := H.at_ _ hu.mem
  simp only at hat
  refine l_skip S (w1 := w.setCell ⟨g, j, none⟩ v) (fun ρ A => ?_) hg hd (fun a S' => h _ a (H.set hu) S')
  unfold execOp
  simp only [ho]
  rw [A x _ hx, A y _ hy]
  show ((Instr.storeAt t (.pointer (some ⟨g, j, none⟩)) v) >>= fun _ => pure Next.skip).run P w = _
  rw [Sem.run_bind, hr w cs[j] ((H.cell hu j).trans (by simp [hj])) (hth.at hat hj)]
  rfl
theorem Thaw.set {cs : Array Value} {f : Nat × Nat} {j : Nat} {v : Value} (h : Thaw cs f) : Thaw (cs.setIfInBounds j v) f := fun i hi => h i (by simpa using hi)
theorem d_stores {P : Program} {ops : Array Oper} {Q : Exit → Act → World → Prop} {a : Act} {n : Nat} {ds : List Deferred} {F : List (Nat × Value)} {B : Nat} {w0 w : World} {L : List (Nat × Obj)} {dss : List Nat} {fuel : Nat} {l : Array Bool} {L' : List (Nat × Obj)} {K : World → Prop} {i : Nat} {oi : Oper} {t : TypeId} {x y : Operand} {g j : Nat} {cs : Array Value} {tt : TypeId} {vs : List Value} (l' : Array Bool) (S : SL a n ds F) (H : HH B w0 w L) (hi : ops[i]? = some oi) (ho : oi.op = .store t x y)
    (hx : ev F x = some (.pointer (some ⟨g, j, none⟩))) (hy : ev F y = some (.agg vs.toArray)) (hs : szB P t = some vs.length) (hu : Rep L g (.cells cs tt (0, 0)) g (.cells (spl cs j vs) tt (0, 0)) L') (hj : j + vs.length ≤ cs.size) (h1 : ∀ v ∈ vs, v.oneCell' = true)
    (hw : Region.wanted oi (yielded ops a.tmps) = true) (hd : oi.dst = none) (hc : YtnmelglnkefjfaaDoorW.PrintLast.readyB .any ops l l' i = true) (hds : dss.contains i = true)
    (h : ∀ w a, HH B w0 w L' → SL a n ds F → YtnmelglnkefjfaaDoorW.PrintLast.wpAnyLast P .any ops Q K dss fuel l' a w) : YtnmelglnkefjfaaDoorW.PrintLast.wpAnyLast P .any ops Q K dss (fuel + 1) l a w := by
  obtain ⟨w', h2, h3⟩ := stores_ (P := P) (j := j) vs 0 cs H hu (by omega) h1
  refine YtnmelglnkefjfaaDoorW.PrintLast.last_ l' hi hd hc (by simpa using hds) (fun K hK => YtnmelglnkefjfaaDoorW.PrintLast.skip_ (w1 := w') hw hd ?_ (hK.out _ _ (h _ _ h3 S)))
  unfold execOp
  simp only [ho]
  rw [S.agree x _ hx, S.agree y _ hy]
  show ((Instr.storeAt t (.pointer (some ⟨g, j, none⟩)) (.agg vs.toArray)) >>= fun _ => pure Next.skip).run P w = _
  have h5 : (Instr.storeAt t (.pointer (some ⟨g, j, none⟩)) (.agg vs.toArray)).run P w = .ok () w' := by
    unfold Instr.storeAt
    rw [Sem.run_bind, show (Instr.sureAddr (.pointer (some ⟨g, j, none⟩))).run P w = .ok ⟨g, j, none⟩ w from rfl]
    show (storeVar t ⟨g, j, none⟩ (.agg vs.toArray)).run P w = _
    unfold storeVar
    rw [Sem.run_bind, run_size hs]
    have e0 : ¬ (Value.agg vs.toArray).cells.size ≠ vs.length := by simp [Value.cells]
    show (if (Value.agg vs.toArray).cells.size ≠ vs.length then _ else _ : Sem Unit).run P w = _
    rw [if_neg e0]
    exact h2
  rw [Sem.run_bind, h5]
  rfl
/-! ### a command's text, plainly -/
def qs (s : ByteArray) : ByteArray := strOfNums (quo s)
def jn (u : ByteArray) (l : List ByteArray) : List Int := quo u ++ l.flatMap fun s => [32] ++ quo s
theorem sapp (a b : List Int) : strOfNums a ++ strOfNums b = strOfNums (a ++ b) := by
  have e : ∀ (a b : ByteArray), a.data.toList = b.data.toList → a = b := fun a b h => by
    cases a with | mk x => cases b with | mk y =>
      have : x = y := Array.toList_inj.1 h
      rw [this]
  apply e
  rw [ByteArray.data_append, Array.toList_append, strOfNums_data, strOfNums_data, strOfNums_data, List.map_append]
theorem join_qs (u : ByteArray) (l : List ByteArray) : (⟨(Lib.join (((u :: l).map qs).map (·.data.toList)) (⟨#[32]⟩ : ByteArray).data.toList).toArray⟩ : ByteArray) = strOfNums (jn u l) := by
  have e : ∀ (a b : ByteArray), a.data.toList = b.data.toList → a = b := fun a b h => by
    cases a with | mk x => cases b with | mk y =>
      have : x = y := Array.toList_inj.1 h
      rw [this]
  apply e
  rw [List.map_cons, List.map_cons, Lib.join_cons]
  unfold jn
  rw [strOfNums_data, List.map_append]
  show _ ++ _ = _
  congr 1
  unfold Lib.joinTail
  induction l with
  | nil => rfl
  | cons s l ih =>
    simp only [List.map_cons, List.flatten_cons, List.flatMap_cons, List.map_append]
    rw [ih]
    rfl
theorem jn_len {u : ByteArray} {l : List ByteArray} (hu : u.size ≤ 1000) (hl : ∀ s ∈ l, s.size ≤ 1000) : (jn u l).length ≤ 10002 + l.length * 10003 := by
  have h1 := quo_len u
  have h2 : (l.flatMap fun s => [32] ++ quo s).length ≤ l.length * 10003 := by
    induction l with
    | nil => simp
    | cons s l ih =>
      have h3 := ih (fun s hs => hl s (List.mem_cons_of_mem _ hs))
      have h4 := hl s List.mem_cons_self
      have h5 := quo_len s
      simp only [List.flatMap_cons, List.length_append, List.length_cons, List.length_nil] at h3 ⊢
      omega
  unfold jn
  rw [List.length_append]
  omega
def zl (zs : List ByteArray) (i : Nat) : List ByteArray := (zs.take i).map qs ++ zs.drop i
theorem zl_at {zs : List ByteArray} {i : Nat} (hi : i ≤ zs.length) (j : Nat) : (zl zs i)[j]? = if j < i then (zs[j]?).map qs else zs[j]? := by
  unfold zl
  have hl : ((zs.take i).map qs).length = i := by rw [List.length_map, List.length_take, Nat.min_eq_left hi]
  split
  · rename_i h
    rw [List.getElem?_append_left (by omega), List.getElem?_map, List.getElem?_take_of_lt h]
  · rename_i h
    rw [List.getElem?_append_right (by omega), hl, List.getElem?_drop, show i + (j - i) = j by omega]
theorem zl_get {zs : List ByteArray} {i : Nat} (hi : i < zs.length) : (zl zs i)[i]? = some (zs.getD i ByteArray.empty) := by
  rw [zl_at (by omega), if_neg (by omega), List.getD_eq_getElem?_getD, List.getElem?_eq_getElem hi]
  rfl
theorem zl_step {zs : List ByteArray} {i : Nat} {cs : Array Value} (hi : i < zs.length) (hs : zs.length ≤ cs.size) (h : ∀ (j : Nat) (x : ByteArray), (zl zs i)[j]? = some x → cs[j]? = some (.string x)) : ∀ (j : Nat) (x : ByteArray), (zl zs (i + 1))[j]? = some x → (cs.setIfInBounds i (.string (qs (zs.getD i ByteArray.empty))))[j]? = some (.string x) := by
  intro j x hx
  rw [zl_at (by omega)] at hx
  rw [Array.getElem?_setIfInBounds]
  by_cases e : i = j
  · subst e
    rw [if_pos rfl, if_pos (by omega)]
    rw [if_pos (by omega), List.getElem?_eq_getElem hi] at hx
    rw [List.getD_eq_getElem?_getD, List.getElem?_eq_getElem hi]
    simp at hx ⊢
    exact hx
  · rw [if_neg e]
    refine h j x ?_
    rw [zl_at (by omega)]
    by_cases h1 : j < i
    · rw [if_pos h1]; rw [if_pos (by omega)] at hx; exact hx
    · rw [if_neg h1]; rw [if_neg (by omega)] at hx; exact hx
theorem zl_zero (zs : List ByteArray) : zl zs 0 = zs := by unfold zl; simp
theorem zl_all {zs : List ByteArray} {i : Nat} (h : zs.length ≤ i) : zl zs i = zs.map qs := by unfold zl; rw [List.take_of_length_le h, List.drop_eq_nil_of_le h, List.append_nil]
/-! ### rows turned one by one -/
section
variable {α : Type} {f : α → α} {zs : List α} {i : Nat}
def mzl (f : α → α) (zs : List α) (i : Nat) : List α := (zs.take i).map f ++ zs.drop i
theorem mzl_at (hi : i ≤ zs.length) (j : Nat) : (mzl f zs i)[j]? = if j < i then (zs[j]?).map f else zs[j]? := by
  unfold mzl
  have hl : ((zs.take i).map f).length = i := by rw [List.length_map, List.length_take, Nat.min_eq_left hi]
  split
  · rename_i h
    rw [List.getElem?_append_left (by omega), List.getElem?_map, List.getElem?_take_of_lt h]
  · rename_i h
    rw [List.getElem?_append_right (by omega), hl, List.getElem?_drop, show i + (j - i) = j by omega]
theorem mzl_get (d : α) (hi : i < zs.length) : (mzl f zs i)[i]? = some (zs.getD i d) := by
  rw [mzl_at (by omega), if_neg (by omega), List.getD_eq_getElem?_getD, List.getElem?_eq_getElem hi]
  rfl
theorem mzl_step (d : α) {enc : α → Value} {cs : Array Value} {v : Value} (hi : i < zs.length) (hs : zs.length ≤ cs.size) (hv : v = enc (f (zs.getD i d))) (h : ∀ (j : Nat) (x : α), (mzl f zs i)[j]? = some x → cs[j]? = some (enc x)) : ∀ (j : Nat) (x : α), (mzl f zs (i + 1))[j]? = some x → (cs.setIfInBounds i v)[j]? = some (enc x) := by
  intro j x hx
  subst hv
  rw [mzl_at (by omega)] at hx
  rw [Array.getElem?_setIfInBounds]
  by_cases e : i = j
  · subst e
    rw [if_pos rfl, if_pos (by omega)]
    rw [if_pos (by omega), List.getElem?_eq_getElem hi] at hx
    rw [List.getD_eq_getElem?_getD, List.getElem?_eq_getElem hi]
    simp at hx ⊢
    rw [hx]
  · rw [if_neg e]
    refine h j x ?_
    rw [mzl_at (by omega)]
    by_cases h1 : j < i
    · rw [if_pos h1]; rw [if_pos (by omega)] at hx; exact hx
    · rw [if_neg h1]; rw [if_neg (by omega)] at hx; exact hx
theorem mzl_same (d : α) (hi : i < zs.length) (h : f (zs.getD i d) = zs.getD i d) : mzl f zs (i + 1) = mzl f zs i := by
  apply List.ext_getElem?
  intro j
  rw [mzl_at (by omega), mzl_at (by omega)]
  by_cases e : j = i
  · subst e
    rw [if_pos (by omega), if_neg (by omega), List.getElem?_eq_getElem hi]
    rw [List.getD_eq_getElem?_getD, List.getElem?_eq_getElem hi] at h
    simpa using h
  · by_cases h1 : j < i
    · rw [if_pos h1, if_pos (by omega)]
    · rw [if_neg h1, if_neg (by omega)]
theorem mzl_zero : mzl f zs 0 = zs := by unfold mzl; simp
theorem mzl_all (h : zs.length ≤ i) : mzl f zs i = zs.map f := by unfold mzl; rw [List.take_of_length_le h, List.drop_eq_nil_of_le h, List.append_nil]
end
theorem l_bytesR {P : Program} {ops : Array Oper} {Q : Exit → Act → World → Prop} {o : Oper} {rest : List Oper} {a : Act} {N : Nat} {ds : List Deferred} {F : List (Nat × Value)} {d : Nat} {B : Nat} {w0 w : World} {L : List (Nat × Obj)} {t t' e : TypeId} {x : Operand} {s : ByteArray} (S : SL a N ds F) (H : HH B w0 w L) (ho : o.op = .convert t t' x) (hx : ev F x = some (.string s)) (hs : P.underlying t = some .string) (hd' : P.underlying t' = some (.slice e)) (he : P.underlying e = some (.int .u8))
    (hg : o.guard = none) (hd : o.dst = some d) (hn : Nat.blt d N = true)
    (h : ∀ g c cs f w a, cs.size = c → s.size ≤ c → Thaw cs f → (∀ (j : Nat) (v : Int), (ints s)[j]? = some v → cs[j]? = some (Value.int .u8 v)) → HH B w0 w ((g, .cells cs e f) :: L) → SL a N ds ((d, .slice (some ⟨g, 0, none⟩) s.size c) :: F) → wpList P ops Q rest a w) : wpList P ops Q (o :: rest) a w := by
  have hsz : (Lib.bytesCells w e s).size = grownCap w s.size 0 e := by
    unfold Lib.bytesCells
    have := grownCap_ge w s.size 0 e
    rw [Array.size_append, Array.size_map, Array.size_replicate]
    show s.size + _ = _
    omega
  refine l_event S (v := .slice (some ⟨w.heap.size, 0, none⟩) s.size (grownCap w s.size 0 e)) (w1 := Lib.bytesWorld w e s) (fun ρ A => ?_) hg hd hn (fun a S' => h _ _ _ ((Lib.bytesCells w e s).size, (Lib.bytesCells w e s).size + 1) _ a hsz (grownCap_ge _ _ _ _) (fun j hj h => by simp at h; omega) (fun j v hj => ?_) (H.push ?_ (Lib.bytesWorld_at_new w e s)) S')
  · unfold execOp
    simp only [ho]
    rw [A x _ hx]
    exact run_v (Lib.run_convert_string_bytes w t t' e s hs hd' he)
  · have hj1 := (List.getElem?_eq_some_iff.1 hj).1
    rw [ints_len] at hj1
    unfold Lib.bytesCells
    rw [Array.getElem?_append_left (by simpa using hj1)]
    unfold ints at hj
    rw [List.getElem?_map] at hj
    obtain ⟨b, hb, rfl⟩ := Option.map_eq_some_iff.1 hj
    rw [Array.getElem?_map]
    rw [Array.getElem?_toList] at hb
    rw [hb]
    rfl
  · refine ⟨rfl, rfl, rfl, ?_, fun k hk => Lib.bytesWorld_at_old w e s k hk⟩
    rw [Lib.bytesWorld_size]; omega
/-! ### capitals -/
def upc (x : Int) : Int := if 97 ≤ x ∧ x ≤ 122 then x - 32 else x
def upS (s : ByteArray) : ByteArray := strOfNums ((ints s).map upc)
theorem upper_eq {s : ByteArray} (h : ∀ x ∈ ints s, x < 128) : (⟨(Lib.toUpperA s.data.toList).toArray⟩ : ByteArray) = upS s := by
  have e : ∀ (a b : ByteArray), a.data.toList = b.data.toList → a = b := fun a b h => by
    cases a with | mk x => cases b with | mk y =>
      have : x = y := Array.toList_inj.1 h
      rw [this]
  apply e
  unfold upS
  rw [strOfNums_data]
  show Lib.toUpperA s.data.toList = _
  unfold Lib.toUpperA ints
  rw [List.map_map, List.map_map]
  apply List.map_congr_left
  intro b _
  have key : ∀ k : Fin 256, Lib.upperB (UInt8.ofNat k.val) = UInt8.ofNat (upc ((k.val : Nat) : Int)).toNat := by decide +kernel
  have h2 := key ⟨b.toNat, b.toNat_lt⟩
  simp only [UInt8.ofNat_toNat] at h2
  exact h2
theorem bt_A {r : Nat} (h : 7 ≤ r ∧ r ≤ 13) : ∃ k : Nat, k < 128 ∧ HHW.bt ⟨#[97, 98, 116, 110, 118, 102, 114]⟩ ((r : Int) - 7) = (k : Int) ∧ escA r = (k : Int) := by
  obtain ⟨j, hj⟩ : ∃ j, r = 7 + j := ⟨r - 7, by omega⟩
  subst hj
  have : j = 0 ∨ j = 1 ∨ j = 2 ∨ j = 3 ∨ j = 4 ∨ j = 5 ∨ j = 6 := by omega
  rcases this with rfl | rfl | rfl | rfl | rfl | rfl | rfl
  · exact ⟨97, by decide, by decide, by decide⟩
  · exact ⟨98, by decide, by decide, by decide⟩
  · exact ⟨116, by decide, by decide, by decide⟩
  · exact ⟨110, by decide, by decide, by decide⟩
  · exact ⟨118, by decide, by decide, by decide⟩
  · exact ⟨102, by decide, by decide, by decide⟩
  · exact ⟨114, by decide, by decide, by decide⟩
theorem hexl_get {k n i : Nat} (h : i < k) : (hexl k n)[i]? = some (hx (n / 16 ^ (k - 1 - i) % 16)) := by
  have h1 := hexl_take k n h
  have h2 : ((hexl k n).take (i + 1))[i]? = (hexl k n)[i]? := List.getElem?_take_of_lt (by omega)
  rw [← h2, h1, List.getElem?_append_right (by rw [List.length_take, hexl_len]; omega), List.length_take, hexl_len, Nat.min_eq_left (by omega), Nat.sub_self]
  rfl
theorem lit3 {s : ByteArray} {p : Nat} (h : p + 2 < s.size) : ((s.extract p (p + 3)).toList == (⟨#[239, 191, 189]⟩ : ByteArray).toList) = decide ((s.get! p).toNat = 239 ∧ (s.get! (p + 1)).toNat = 191 ∧ (s.get! (p + 2)).toNat = 189) := by
  have e1 : (s.extract p (p + 3)).toList = [s.get! p, s.get! (p + 1), s.get! (p + 2)] := by
    rw [ByteArray.toList_eq, ByteArray.data_extract, Array.toList_extract]
    have g : ∀ i, (hi : i < s.size) → s.get! i = s.data.toList[i]'(by rw [Array.length_toList]; exact hi) := fun i hi => by
      cases s with | mk d => show d[i]! = _; rw [getElem!_pos d i hi]; simp
    have hl : s.data.toList.length = s.size := by rw [Array.length_toList]; rfl
    rw [List.extract_eq_take_drop, Nat.add_sub_cancel_left, List.drop_eq_getElem_cons (by omega), List.drop_eq_getElem_cons (by omega), List.drop_eq_getElem_cons (by omega), g p (by omega), g (p + 1) (by omega), g (p + 2) (by omega)]
    rfl
  have e2 : (⟨#[239, 191, 189]⟩ : ByteArray).toList = [239, 191, 189] := by rw [ByteArray.toList_eq]
  rw [e1, e2]
  have key : ∀ (a : UInt8) (k : Nat), k < 256 → ((a == UInt8.ofNat k) = decide (a.toNat = k)) := fun a k hk => by
    by_cases e : a.toNat = k
    · subst e; simp
    · rw [decide_eq_false e, beq_eq_false_iff_ne]
      intro h2
      exact e (by rw [h2]; simp [UInt8.toNat_ofNat']; omega)
  have k1 := key (s.get! p) 239 (by decide)
  have k2 := key (s.get! (p + 1)) 191 (by decide)
  have k3 := key (s.get! (p + 2)) 189 (by decide)
  rw [Bool.eq_iff_iff, decide_eq_true_iff]
  simp only [List.cons_beq_cons, Bool.and_eq_true]
  rw [show (239 : UInt8) = UInt8.ofNat 239 from rfl, show (191 : UInt8) = UInt8.ofNat 191 from rfl, show (189 : UInt8) = UInt8.ofNat 189 from rfl, k1, k2, k3]
  simp
theorem p_saddL {P : Program} {F : List (Nat × Value)} {t t' : TypeId} {x y : Operand} {m n : ByteArray} (l r : List Int) (hx : ev F x = some (.string m)) (hy : ev F y = some (.string n)) (hm : m = strOfNums l) (hn : n = strOfNums r) (h : l.length + r.length ≤ 9223372036854775807) : Pure P F (.binOp .add t x y t') (.string (strOfNums (l ++ r))) := by
  subst hm hn
  rw [← sapp]
  exact p_sadd hx hy (by rw [ByteArray.size_append, strOfNums_size, strOfNums_size]; exact h)
theorem take_flat {l : List ByteArray} {i : Nat} (g : ByteArray → List Int) (h : i < l.length) : (l.take (i + 1)).flatMap g = (l.take i).flatMap g ++ g (l.getD i ByteArray.empty) := by
  rw [List.take_add_one, List.getElem?_eq_getElem h, List.flatMap_append, List.getD_eq_getElem?_getD, List.getElem?_eq_getElem h]
  simp
theorem qr_esc {s : ByteArray} {p : Nat} {r : Nat} (hr : (Utf8.decode s p).1 = r) (h : ¬ (r = 65533 ∧ (Utf8.decode s p).2 = 1)) : qr s p = esc r := by
  unfold qr
  rw [if_neg (fun h2 => h ⟨hr ▸ h2.2, h2.1⟩), hr]
theorem qr_bad {s : ByteArray} {p : Nat} {r : Nat} (hr : (Utf8.decode s p).1 = r) (h : r = 65533) (h2 : (Utf8.decode s p).2 = 1) : qr s p = [92, 120] ++ hexl 2 (s.get! p).toNat := by
  unfold qr
  rw [if_pos ⟨h2, hr.trans h⟩]
theorem qr_low {s : ByteArray} {p : Nat} {r : Nat} (hr : (Utf8.decode s p).1 = r) (h : r < 7 ∨ (13 < r ∧ r < 32) ∨ r = 127) : qr s p = [92, 120] ++ hexl 2 (s.get! p).toNat := by
  rw [qr_esc hr (by omega), esc_x h]
  have h1 := (dec_low (s := s) (p := p) (by omega)).1
  rw [← h1, hr, hexl_two (by omega)]
  rfl
theorem esc_a {r : Nat} (h : 7 ≤ r ∧ r ≤ 13) : esc r = [92, escA r] := by
  unfold esc
  rw [if_neg (by omega), if_neg (by omega), if_pos h]
end Go.Proofs.YtnmelglnkefjfaaDoor.cm
