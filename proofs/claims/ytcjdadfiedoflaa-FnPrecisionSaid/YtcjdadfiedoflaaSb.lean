/- Words of this seat's own: slice literals; structs read as a whole. -/
import Derived.Test.YtcjdadfiedoflaaSk
import Derived.Great.FillDense
import Derived.Great.BuildSlice
namespace Go.Proofs.HHW
open Go.RowKit
set_option linter.unusedVariables false
set_option linter.unusedSimpArgs false
section
variable {P : Program} {ops : Array Oper} {Q : Exit → Act → World → Prop} {o : Oper} {rest : List Oper} {a : Act} {n : Nat} {ds : List Deferred} {F : List (Nat × Value)} {B : Nat} {w0 w : World} {L : List (Nat × Obj)} {d : Nat}
theorem p_seql {t t' : TypeId} {x y : Operand} {m n : ByteArray} (hx : ev F x = some (.string m)) (hy : ev F y = some (.string n)) : Pure P F (.binOp .eql t x y t') (.bool (m.toList == n.toList)) :=
  p_bin hx hy (fun _ => rfl) (fun w => by simp [binOp, Op.stringOp])
theorem p_sneq {t t' : TypeId} {x y : Operand} {m n : ByteArray} (hx : ev F x = some (.string m)) (hy : ev F y = some (.string n)) : Pure P F (.binOp .neq t x y t') (.bool (!(m.toList == n.toList))) :=
  p_bin hx hy (fun _ => rfl) (fun w => by simp [binOp, Op.stringOp])
def lit1 : Value → Bool
  | .agg _ => false
  | .tuple _ => false
  | _ => true
theorem parts_ev {ρ : Operand → Value} {xs : List Operand} {vs : List Value} (h : xs.map ρ = vs) :
    ((((xs.zipIdx 0).map fun x => (x.2, x.1)).toArray : Array (Nat × Operand)).map fun x => (x.1, ρ x.2)).toList = (vs.zipIdx 0).map fun x => (x.2, x.1) := by
  subst h
  simp [List.zipIdx_map, Function.comp_def]
/-- A literal '[]T{x, ..}' of elements of one cell. -/
theorem l_lit (xs : List Operand) {vs : List Value} {t e : TypeId} {len : Nat} {z : Value} (S : SL a n ds F) (H : HH B w0 w L) (ho : o.op = .buildSlice t len ((xs.zipIdx 0).map fun x => (x.2, x.1)).toArray) (hx : evs F xs = some vs)
    (hu : P.underlying t = some (.slice e)) (hs : szB P e = some 1) (hz : zvB P e = some z) (hlen : len = vs.length) (hpos : (Nat.blt 0 len && Nat.ble len 1000) = true) (h1 : ∀ v ∈ vs, v.cells = #[v])
    (hg : o.guard = none) (hd : o.dst = some d) (hn : Nat.blt d n = true)
    (h : ∀ g w a, HH B w0 w ((g, .cells vs.toArray e (0, 0)) :: L) → SL a n ds ((d, .slice (some ⟨g, 0, none⟩) len len) :: F) → wpList P ops Q rest a w) : wpList P ops Q (o :: rest) a w := by
  have hp : 0 < len ∧ len ≤ 1000 := by simpa using hpos
  refine l_event S (v := .slice (some ⟨w.heap.size, 0, none⟩) len len) (w1 := w.alloc (.cells vs.toArray e (0, 0))) (fun ρ A => ?_) hg hd hn (fun a S' => h _ _ a (H.alloc _) S')
  unfold execOp
  simp only [ho]
  refine run_v ?_
  obtain ⟨ie, hie, hiz⟩ := Option.bind_eq_some_iff.1 hz
  obtain ⟨ie', hie', his⟩ := Option.map_eq_some_iff.1 hs
  rw [hie] at hie'
  injection hie' with e1
  subst e1
  refine run_buildSlice w t e len _ vs.toArray ie z hu hie hiz (by rw [his]; omega) (by rw [his]; omega) ?_
  rw [parts_ev (A.list hx), his]
  exact Great.fill_flat vs _ h1 (by simp [hlen])
end
end Go.Proofs.HHW
