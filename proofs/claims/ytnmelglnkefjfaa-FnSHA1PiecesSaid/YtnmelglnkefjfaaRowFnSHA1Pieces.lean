/- FnSHA1Pieces: the row. -/
import Derived.Test.YtnmelglnkefjfaaRows
import Derived.Test.YtnmelglnkefjfaaShaT
import Derived.WalkKit
import Derived.ProofKit
import Derived.OpenShut
import Derived.ShutString
import Derived.ChangeOld
import Derived.Below
import Derived.SizedLaws
import Derived.Lib.SmallJoins
import Derived.SliceStrings
namespace Go.Proofs.Ytnmelglnkefjfaa.rowFnSHA1Pieces
open Go.ChangeShapes Go.WideShapes Go.ChangeAt Go.RowKit Go.Joins Go.Proofs.YtnmelglnkefjfaaW.PrintWords
set_option linter.unusedVariables false
theorem own : ownKnob Try.prog.godebug = none := by kernel_rfl
theorem laidOut : laidOutB Try.prog = true := by kernel_rfl
theorem cells9 : Try.prog.cellsOf 9 = 1 := by kernel_rfl
theorem bytes9 : Try.prog.bytesOf 9 = 16 := by kernel_rfl
theorem C_strings {w : World} {a : Addr} {len : Nat} {ss : List ByteArray} (hl : len ≤ ss.length) (hm : len ≤ 9223372036854775807)
    (hc : ∀ i, i < ss.length → w.cell? (a.add i) = some (.string (ss.getD i ByteArray.empty))) : Kd.string.C w (some a) (ss.take len).length (ss.take len) := by
  refine ⟨rfl, by simp; omega, fun _ => ⟨a, rfl, fun j p hj => ⟨[.string p], rfl, rfl, fun i u hu => ?_⟩⟩⟩
  have hj1 := (List.getElem?_eq_some_iff.1 hj).1
  simp at hj1
  have e : ss.getD j ByteArray.empty = p := by
    rw [List.getElem?_take_of_lt (by omega)] at hj
    rw [List.getD_eq_getElem?_getD, hj]; rfl
  have hi : i = 0 := by
    have := (List.getElem?_eq_some_iff.1 hu).1
    simpa using this
  subst hi
  have hu' : Value.string p = u := by simpa using hu
  subst hu'
  have := hc j (by omega)
  rw [e] at this
  show w.cell? (a.add (j * 1 + 0)) = _
  simpa using this
theorem weights_all {H : Type} {e : TypeId} : ∀ {l : List (DataW H)} {d : DataW H}, d ∈ l → ∀ n ∈ d.weights Try.prog e, n ∈ DataW.weightsAll Try.prog e l
  | x :: l, d, hd, n, hn => by
    simp only [DataW.weightsAll, List.mem_append]
    rcases List.mem_cons.1 hd with rfl | h
    · exact .inl hn
    · exact .inr (weights_all h n hn)
theorem open_strs {H : Type} {enc : TypeId × Value → H} {W : World} {A : Option Addr} {len cap : Nat} {d : DataW H} {p : List MemPlace} (h : DataW.Trod enc Try.prog W 0 (fun _ => true) true 25 (.slice A len cap) d p) (hw : ∀ n ∈ d.weights Try.prog 25, n ≤ 140737488351232) :
    ∃ l : List ByteArray, l.length = len ∧ len ≤ cap ∧ Kd.string.C W A l.length l ∧ l.length ≤ 140737488351232 ∧ ∀ j, j < l.length → (l.getD j ByteArray.empty).size ≤ 140737488351232 := by
  obtain ⟨fuel, hf⟩ := h
  rcases open_strings Try.underlying25 Try.underlying9 cells9 hf with ⟨hcs, hx⟩ | ⟨a, len', cap', ss, hcs, _, hl, hm, hz, hx, hcell, hsz⟩
  · have e : Value.slice A len cap = .slice none 0 0 := by have := (show [Value.slice A len cap] = _ from hcs); simpa using this
    cases e
    exact ⟨[], rfl, Nat.le_refl _, ⟨rfl, by simp, fun h => absurd h (by simp)⟩, by simp, fun j hj => by simp at hj⟩
  · have e : Value.slice A len cap = .slice (some a) len' cap' := by have := (show [Value.slice A len cap] = _ from hcs); simpa using this
    cases e
    have hl' : len ≤ ss.length := by rw [hz]; split <;> omega
    have hcap : cap ≤ 9223372036854775807 := by simp only [maxLen] at hm; omega
    have e1 : (ss.take len).length = len := by simp; omega
    injection hx with hx1 hx2
    subst hx1
    simp only [DataW.weights, Try.underlying25] at hw
    have hlen := hw _ (List.mem_cons_self)
    rw [bytes9] at hlen
    refine ⟨ss.take len, e1, hl, C_strings hl' (by omega) hcell, ?_, fun j hj => ?_⟩
    · simp [strs] at hlen
      omega
    · have hmem : (ss.take len).getD j ByteArray.empty ∈ ss.take len := by
        rw [List.getD_eq_getElem?_getD, List.getElem?_eq_getElem hj]; exact List.getElem_mem hj
      have := hw ((ss.take len).getD j ByteArray.empty).data.toList.length (List.mem_cons_of_mem _ (List.mem_append_left _ (weights_all (d := .lit (.string ((ss.take len).getD j ByteArray.empty).data.toList)) (by unfold strs; exact List.mem_map.2 ⟨_, hmem, rfl⟩) _ (by simp [DataW.weights]))))
      simpa using this

set_option maxRecDepth 100000 in
theorem lifted (os : Os) (started : os.Started) (H : Type) (enc : TypeId × Value → H) :
    ReturnsInHanded {} Try.checked os 4 .any (Rows.fnSHA1PiecesSpec.pre6 enc Try.prog Try.f4 Rows.fnSHA1PiecesRow.domain false) (Rows.fnSHA1PiecesSpec.post enc Try.prog Try.f4 false true false false) := by
  refine returnsInHanded_of_change_sized (C := Try.checked) own started (by kernel_rfl) Try.func4
    (ChangeSpec.witness6 (enc := enc) (C := Try.checked) false ⟨#[], #[.slice none 0 0], []⟩ 8 (by kernel_rfl) (by kernel_rfl) (by kernel_rfl) (by kernel_rfl)) ?_
  intro W base args ds gs before hval0 hW hcnd hsz0 _
  have hsz : (DataW.weightsEach Try.prog (Try.f4.params.toList ++ Rows.fnSHA1PiecesSpec.plain.varTypes Try.prog) (ds ++ gs)).all (· ≤ reachBytes) = true := hsz0
  have hval : ∀ (j : Nat) t v, Try.f4.params[j]? = some t → args[j]? = some v → Value.okWide Try.prog W .any base t v := hval0
  have hW' := hW
  obtain ⟨p, q, hA0, hV, rfl, hfz, hnd⟩ := hW
  have hA : DataW.TrodAll enc Try.prog W 0 (fun _ => true) true Try.f4.params.toList args.toList ds p := hA0
  rw [Try.params4] at hA hval hsz
  obtain ⟨v0, vs0, d0, ds0, p0, q0, hargs, rfl, rfl, h0, r0⟩ := trodAll_cons hA
  obtain ⟨rfl, rfl, rfl⟩ := trodAll_nil r0
  obtain rfl : args = #[v0] := by cases args; simp_all
  obtain ⟨rfl, rfl⟩ := trodVars_none hV
  have k0 := h0
  have lt0 : ∀ x ∈ p0, x.block < W.heap.size := by obtain ⟨m, hm⟩ := k0; exact DataW.trod_lt m _ _ _ hm
  obtain ⟨A, len, cap, rfl⟩ := okWide_slice Try.underlying25 (hval 0 25 v0 rfl rfl)
  obtain ⟨l, rfl, hlc, hC, hll, hel⟩ := open_strs h0 (fun n hn => by
    have := List.all_eq_true.1 hsz n (DataW.weights_mem_each (j := 0) (t := 25) (d := d0) rfl rfl n hn)
    exact of_decide_eq_true this)
  clear hA0 hval0 hsz hsz0
  obtain ⟨k, b, hf⟩ := sha.tp.fits12 l
  refine (sha.tp.law_calls A cap l W hC hlc (fun j hj => Nat.le_trans (hel j hj) (by decide)) k b hf (Nat.le_trans hll (by decide))).mono fun e W' ⟨he, bel⟩ => ?_
  subst he
  exact ⟨_, rfl, _, _, _, [], _, [], hW', trodAll_mk1 (shut_bool Try.underlying4 _), (trodAll_cons_mk (Below.trod laidOut (by kernel_rfl) (of_decide_eq_true (by kernel_rfl)) k0 bel lt0) trodAll_mk0), rfl, bel.frame _, fun h => by cases h⟩

theorem fnSHA1Pieces_holds : Rows.FnSHA1PiecesSaid :=
  OpenClaim.holds_of_wide 4 Try.f4 rfl rfl rfl rfl rfl rfl rfl ⟨rfl, rfl, rfl, rfl, rfl⟩ rfl rfl rfl rfl rfl (by kernel_rfl) Try.func4 (by kernel_rfl)
    (of_decide_eq_true (by kernel_rfl)) (by unfold Func.isWrapper; first | (rw [if_pos (by decide +kernel)]; kernel_rfl) | (rw [if_neg (by decide +kernel)]; exact ⟨rfl, rfl⟩))
    (fun os started H enc _ => lifted os started H enc)
#print axioms fnSHA1Pieces_holds
end Go.Proofs.Ytnmelglnkefjfaa.rowFnSHA1Pieces
