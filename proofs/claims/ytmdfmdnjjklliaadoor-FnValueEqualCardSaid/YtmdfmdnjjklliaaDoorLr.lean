/- Words of this seat's own: a slice literal whose run is told. -/
import Derived.Test.YtmdfmdnjjklliaaDoorDe
namespace Go.Proofs.HHW
open Go.RowKit
set_option linter.unusedVariables false
theorem l_litR {P : Program} {ops : Array Oper} {Q : Exit → Act → World → Prop} {o : Oper} {rest : List Oper} {a : Act} {n : Nat} {ds : List Deferred} {F : List (Nat × Value)} {B : Nat} {w0 w : World} {L : List (Nat × Obj)} {d : Nat} {t e : TypeId} {len : Nat} {ps : List (Nat × Operand)} {vs : List (Nat × Value)} {cells : Array Value} (S : SL a n ds F) (H : HH B w0 w L) (ho : o.op = .buildSlice t len ps.toArray) (hx : evp F ps = some vs)
    (hr : ∀ w : World, (Instr.buildSlice t len vs.toArray).run P w = .ok (.slice (some ⟨w.heap.size, 0, none⟩) len len) (w.alloc (.cells cells e (0, 0)))) (hg : o.guard = none) (hd : o.dst = some d) (hn : Nat.blt d n = true)
    (h : ∀ g w a, HH B w0 w ((g, .cells cells e (0, 0)) :: L) → SL a n ds ((d, .slice (some ⟨g, 0, none⟩) len len) :: F) → wpList P ops Q rest a w) : wpList P ops Q (o :: rest) a w := by
  refine l_event S (v := .slice (some ⟨w.heap.size, 0, none⟩) len len) (w1 := w.alloc (.cells cells e (0, 0))) (fun ρ A => ?_) hg hd hn (fun a S' => h _ _ a (H.alloc _) S')
  unfold execOp
  simp only [ho]
  refine run_v ?_
  have := A.parts hx
  rw [show (Array.map (fun x : Nat × Operand => (x.1, ρ x.2)) ps.toArray) = vs.toArray by rw [List.map_toArray, this]]
  exact hr w
end Go.Proofs.HHW
