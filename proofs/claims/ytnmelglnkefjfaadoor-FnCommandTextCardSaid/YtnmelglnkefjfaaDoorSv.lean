/- Words of this seat's own: what is read at one moment; rows of texts. -/
import Derived.Test.YtnmelglnkefjfaaDoorSw
namespace Go.Proofs.HHW
open Go.RowKit Go.Proofs.YtnmelglnkefjfaaDoorW.PrintWords
set_option linter.unusedVariables false
set_option linter.unusedSimpArgs false
/-- 'string(b)' of bytes that are read now. -/
theorem l_str {P : Program} {ops : Array Oper} {Q : Exit → Act → World → Prop} {o : Oper} {rest : List Oper} {a : Act} {n : Nat} {ds : List Deferred} {F : List (Nat × Value)} {d : Nat} {w : World} {t t' e : TypeId} {x : Operand} {A : Option Addr} {c : Nat} {l : List Int} (S : SL a n ds F) (ho : o.op = .convert t t' x) (hx : ev F x = some (.slice A l.length c)) (hs : P.underlying t = some (.slice e)) (he : P.underlying e = some (.int .u8)) (hd' : P.underlying t' = some .string) (hC : (Kd.int .u8).C w A l.length l)
    (hg : o.guard = none) (hd : o.dst = some d) (hn : Nat.blt d n = true) (h : ∀ a, SL a n ds ((d, .string (strOfNums l)) :: F) → wpList P ops Q rest a w) : wpList P ops Q (o :: rest) a w := by
  refine l_event S (v := .string (strOfNums l)) (w1 := w) (fun ρ Ag => ?_) hg hd hn h
  unfold execOp
  simp only [ho]
  rw [Ag x _ hx]
  exact run_v (Kd.C_string hs he hd' hC)
theorem HH.mid {B : Nat} {w0 w : World} {x : Nat × Obj} {ow L : List (Nat × Obj)} (H : HH B w0 w (x :: (ow ++ L))) : HH B w0 w (ow ++ (x :: L)) := H.perm List.perm_middle.symm
end Go.Proofs.HHW
