/- Words of this seat's own: floats; functions without a body. -/
import Derived.Test.YtmdfmdnjjklliaaDoorDf
namespace Go.Proofs.HHW
open Go.RowKit Go.Proofs.YtmdfmdnjjklliaaDoorW.PrintWords
set_option linter.unusedVariables false
set_option linter.unusedSimpArgs false
namespace fl
/-- A word that stands for a number. -/
def fin (b : Nat) : Bool := match Ieee.double.read b with
  | .number .. => true
  | _ => false
def eq (x y : Nat) : Bool := Ieee.double.order x y == some .eq
theorem dbl : Ieee.double = { exponentBits := 11, fractionBits := 52 } := rfl
theorem sw : Ieee.double.signWeight = 9223372036854775808 := by decide
theorem bn : Ieee.double.binade = 4503599627370496 := by decide
theorem ir : Ieee.double.infRung = 9218868437227405312 := by decide
theorem read_ (b : Nat) : Ieee.double.read b = (if b % 9223372036854775808 < 4503599627370496 then .number (b / 9223372036854775808 % 2 == 1) (b % 9223372036854775808) Ieee.double.leastPlace
    else if b % 9223372036854775808 < 9218868437227405312 then .number (b / 9223372036854775808 % 2 == 1) (4503599627370496 + b % 9223372036854775808 % 4503599627370496) (Ieee.double.leastPlace + (b % 9223372036854775808 / 4503599627370496 - 1 : Nat))
    else if b % 9223372036854775808 = 9218868437227405312 then .infinity (b / 9223372036854775808 % 2 == 1) else .nan (b / 9223372036854775808 % 2 == 1) (b % 9223372036854775808 - 9218868437227405312)) := by
  unfold Ieee.Format.read
  rw [sw, bn, ir]
def rung (b : Nat) : Nat := b % 9223372036854775808
theorem rung_lt (b : Nat) : rung b < 9223372036854775808 := Nat.mod_lt _ (by decide)
theorem rdS {b : Nat} (h : rung b < 4503599627370496) : Ieee.double.read b = .number (b / 9223372036854775808 % 2 == 1) (rung b) Ieee.double.leastPlace := by
  rw [read_]; exact if_pos h
theorem rdN {b : Nat} (h0 : ¬ rung b < 4503599627370496) (h : rung b < 9218868437227405312) : Ieee.double.read b = .number (b / 9223372036854775808 % 2 == 1) (4503599627370496 + rung b % 4503599627370496) (Ieee.double.leastPlace + (rung b / 4503599627370496 - 1 : Nat)) := by
  have h0' : ¬ b % 9223372036854775808 < 4503599627370496 := h0
  rw [read_, if_neg h0']; exact if_pos h
theorem rdI {b : Nat} (h : rung b = 9218868437227405312) : Ieee.double.read b = .infinity (b / 9223372036854775808 % 2 == 1) := by
  have h' : b % 9223372036854775808 = 9218868437227405312 := h
  rw [read_, if_neg (by omega), if_neg (by omega), if_pos h']
theorem rdX {b : Nat} (h : 9218868437227405312 < rung b) : Ieee.double.read b = .nan (b / 9223372036854775808 % 2 == 1) (rung b - 9218868437227405312) := by
  have h' : 9218868437227405312 < b % 9223372036854775808 := h
  rw [read_, if_neg (by omega), if_neg (by omega), if_neg (by omega)]; rfl
theorem fin_iff (b : Nat) : fin b = decide (rung b < 9218868437227405312) := by
  unfold fin
  rcases Nat.lt_or_ge (rung b) 4503599627370496 with h | h
  · rw [rdS h, decide_eq_true (by omega)]
  · rcases Nat.lt_trichotomy (rung b) 9218868437227405312 with h1 | h1 | h1
    · rw [rdN (by omega) h1, decide_eq_true h1]
    · rw [rdI h1, decide_eq_false (by omega)]
    · rw [rdX h1, decide_eq_false (by omega)]
theorem cmp_self {α : Type} [Ord α] [Std.ReflOrd α] (x : α) : compare x x = .eq := Std.ReflOrd.compare_self
/-- 'x != x' -/
theorem self (b : Nat) : eq b b = decide (rung b ≤ 9218868437227405312) := by
  unfold eq Ieee.Format.order
  rcases Nat.lt_or_ge (rung b) 4503599627370496 with h | h
  · rw [rdS h, decide_eq_true (by omega)]; simp [Ieee.Datum.order, cmp_self]
  · rcases Nat.lt_trichotomy (rung b) 9218868437227405312 with h1 | h1 | h1
    · rw [rdN (by omega) h1, decide_eq_true (by omega)]; simp [Ieee.Datum.order, cmp_self]
    · rw [rdI h1, decide_eq_true (by omega)]; simp [Ieee.Datum.order, cmp_self]
    · rw [rdX h1, decide_eq_false (by omega)]; rfl
theorem rung_rung (b : Nat) : rung (rung b) = rung b := Nat.mod_mod _ _
theorem rung_neg (b : Nat) : (rung b / 9223372036854775808 % 2 == 1) = false := by rw [Nat.div_eq_of_lt (rung_lt b)]; rfl
/-- 'abs(x) > the greatest number' -/
theorem above (b : Nat) : (Ieee.double.order (rung b) 9218868437227405311 == some .gt) = decide (rung b = 9218868437227405312) := by
  have e2 : Ieee.double.read 9218868437227405311 = .number false 9007199254740991 (Ieee.double.leastPlace + (2045 : Nat)) := by decide
  unfold Ieee.Format.order
  rw [e2]
  have key : ∀ (m i : Nat), i ≤ 2045 → m ≤ 9007199254740991 → (Ieee.Datum.order (.number false m (Ieee.double.leastPlace + (i : Nat))) (.number false 9007199254740991 (Ieee.double.leastPlace + (2045 : Nat))) == some .gt) = false := by
    intro m i hi hm
    have e1 : min (Ieee.double.leastPlace + (i : Int)) (Ieee.double.leastPlace + ((2045 : Nat) : Int)) = Ieee.double.leastPlace + (i : Int) := by omega
    have e3 : (Ieee.double.leastPlace + (i : Int) - (Ieee.double.leastPlace + (i : Int))).toNat = 0 := by omega
    have e4 : (Ieee.double.leastPlace + ((2045 : Nat) : Int) - (Ieee.double.leastPlace + (i : Int))).toNat = 2045 - i := by omega
    simp only [Ieee.Datum.order, e1, e3, e4, Ieee.signed, Bool.false_eq_true, if_false, Nat.shiftLeft_zero]
    have h1 : m ≤ 9007199254740991 <<< (2045 - i) := by
      rw [Nat.shiftLeft_eq]
      exact Nat.le_trans hm (Nat.le_mul_of_pos_right _ (Nat.two_pow_pos _))
    have h2 : compare (m : Int) ((9007199254740991 <<< (2045 - i) : Nat) : Int) ≠ .gt := by
      rw [Ne, Int.compare_eq_gt]; omega
    revert h2
    generalize compare (m : Int) ((9007199254740991 <<< (2045 - i) : Nat) : Int) = c
    cases c <;> simp
  rcases Nat.lt_or_ge (rung b) 4503599627370496 with h | h
  · rw [rdS (by rw [rung_rung]; exact h), rung_neg, rung_rung, decide_eq_false (by omega)]
    exact key _ 0 (by omega) (by omega)
  · rcases Nat.lt_trichotomy (rung b) 9218868437227405312 with h1 | h1 | h1
    · rw [rdN (by rw [rung_rung]; omega) (by rw [rung_rung]; omega), rung_neg, rung_rung, decide_eq_false (by omega)]
      exact key _ _ (by omega) (by omega)
    · rw [rdI (by rw [rung_rung]; exact h1), rung_neg, decide_eq_true h1]; rfl
    · rw [rdX (by rw [rung_rung]; omega), decide_eq_false (by omega)]; rfl
/-- 'x - x' of a number is 0. -/
theorem sub_self {b : Nat} (h : fin b = true) : Ieee.double.sub b b = some 0 := by
  unfold Ieee.Format.sub
  unfold fin at h
  split at h
  · rename_i s m i e
    rw [e]
    have e1 : Ieee.signed s m 0 + Ieee.signed (!s) m 0 = 0 := by cases s <;> simp [Ieee.signed] <;> omega
    have e0 : (i - i).toNat = 0 := by omega
    simp only [Ieee.Datum.opposite, Ieee.Datum.sum, Int.min_self, e0, e1]
    cases s <;> simp [Ieee.Format.write, Ieee.Format.nearest, Ieee.Format.word]
  · cases h
theorem sub_not {b : Nat} (h : fin b = false) : Ieee.double.sub b b = none := by
  rw [fin_iff, decide_eq_false_iff_not] at h
  unfold Ieee.Format.sub
  rcases Nat.lt_trichotomy (rung b) 9218868437227405312 with h1 | h1 | h1
  · omega
  · rw [rdI h1]
    generalize (b / 9223372036854775808 % 2 == 1) = s
    cases s <;> rfl
  · rw [rdX h1]; rfl
theorem eq0 : eq 0 0 = true := by decide
theorem nan_ne {r : Nat} (h : 9218868437227405312 < rung r) (x : Nat) : eq r x = false := by
  unfold eq Ieee.Format.order
  rw [rdX h]; rfl
end fl
section
variable {P : Program} {ops : Array Oper} {Q : Exit → Act → World → Prop} {o : Oper} {rest : List Oper} {a : Act} {n : Nat} {ds : List Deferred} {F : List (Nat × Value)} {B : Nat} {w0 w : World} {L : List (Nat × Obj)} {d : Nat}
theorem p_feql {t t' : TypeId} {x y : Operand} {m n : Nat} (hx : ev F x = some (.float .f64 m)) (hy : ev F y = some (.float .f64 n)) : Pure P F (.binOp .eql t x y t') (.bool (fl.eq m n)) := p_bin hx hy (fun _ => rfl) (fun _ => rfl)
theorem p_fneq {t t' : TypeId} {x y : Operand} {m n : Nat} (hx : ev F x = some (.float .f64 m)) (hy : ev F y = some (.float .f64 n)) : Pure P F (.binOp .neq t x y t') (.bool (!fl.eq m n)) := p_bin hx hy (fun _ => rfl) (fun _ => rfl)
theorem p_fgtr {t t' : TypeId} {x y : Operand} {m n : Nat} (hx : ev F x = some (.float .f64 m)) (hy : ev F y = some (.float .f64 n)) : Pure P F (.binOp .gtr t x y t') (.bool (Ieee.double.order m n == some .gt)) := p_bin hx hy (fun _ => rfl) (fun _ => rfl)
/-- 'x - x': 0 of a number; else a NaN, whichever. -/
theorem l_fsub {t t' : TypeId} {x y : Operand} {m : Nat} (S : SL a n ds F) (H : HH B w0 w L) (ho : o.op = .binOp .sub t x y t') (hx : ev F x = some (.float .f64 m)) (hy : ev F y = some (.float .f64 m)) (hg : o.guard = none) (hd : o.dst = some d) (hn : Nat.blt d n = true)
    (h : ∀ r w a, HH B w0 w L → fl.eq r 0 = fl.fin m → SL a n ds ((d, .float .f64 r) :: F) → wpList P ops Q rest a w) : wpList P ops Q (o :: rest) a w := by
  cases hm : fl.fin m with
  | true =>
    refine l_event S (v := .float .f64 0) (w1 := w) (fun ρ A => ?_) hg hd hn (fun a S' => h 0 w a H (by rw [hm]; exact fl.eq0) S')
    unfold execOp
    simp only [ho]
    rw [A x _ hx, A y _ hy]
    refine run_v ?_
    show (Op.floatArith .sub .f64 m m).run P w = _
    unfold Op.floatArith
    simp only [show FloatKind.f64.format = Ieee.double from rfl, fl.sub_self hm]
    rfl
  | false =>
    refine l_event S (v := .float .f64 (Question.cut (.nanBits .f64 m m) (w.tape w.drawn (.nanBits .f64 m m)))) (w1 := w.drew) (fun ρ A => ?_) hg hd hn (fun a S' => h _ _ a H.drew (by
      rw [hm]
      refine fl.nan_ne ?_ 0
      unfold Question.cut fl.rung
      simp only [show (2 : Nat) ^ 63 = 9223372036854775808 from by decide, show (2 : Nat) ^ 52 - 1 = 4503599627370495 from by decide]
      generalize w.tape w.drawn (.nanBits .f64 m m) = t
      rcases Nat.mod_two_eq_zero_or_one t with h | h <;> rw [h] <;> omega) S')
    unfold execOp
    simp only [ho]
    rw [A x _ hx, A y _ hy]
    refine run_v ?_
    show (Op.floatArith .sub .f64 m m).run P w = _
    unfold Op.floatArith
    simp only [show FloatKind.f64.format = Ieee.double from rfl, fl.sub_not hm]
    show (choose (.nanBits .f64 m m) >>= fun r => pure (Value.float .f64 r)).run P w = _
    rw [Sem.run_bind, run_choose_drew]
    rfl
/-- A function without a body. -/
theorem p_ext {f : FuncId} {xs : List Operand} {ts : Array TypeId} {vs : List Value} {v : Value} (hx : evs F xs = some vs) (hr : ∀ w, (callFunc f vs.toArray).run P w = .ok (.value v) w) : Pure P F (.call { callee := .value (.func f), args := xs.toArray, argTypes := ts }) v := by
  intro ρ A o ho w
  unfold execOp
  simp only [ho, resolve, List.map_toArray, A.list hx]
  rw [A (.func f) (.func (.func f) #[] #[]) rfl]
  simpa [Deferred.ofValue, invoke] using hr w
end
end Go.Proofs.HHW
