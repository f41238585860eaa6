/- FnRawRead: the row; its card. -/
import Derived.Test.YtnmelglnkefjfaaDoorRows
import Derived.Test.YtnmelglnkefjfaaDoorCards
import Derived.Test.YtnmelglnkefjfaaDoorTie
import Derived.Test.YtnmelglnkefjfaaDoorRf1
import Derived.WalkKit
import Derived.ProofKit
import Derived.OpenShut
import Derived.ShutString
import Derived.ChangeOld
import Derived.Below
import Derived.Lib.SmallJoins
import Derived.SliceStrings
import Derived.LaidMore
import Derived.Lay
import Derived.SevenTiedAt
import Derived.Stop.Joined
import Derived.Stop.LaidErr
import Derived.MakeChecks
namespace Go.Proofs.YtnmelglnkefjfaaDoor.rowFnRawRead
open Go.ChangeShapes Go.WideShapes Go.ChangeAt Go.RowKit Go.Joins
set_option linter.unusedVariables false
theorem own : ownKnob Tryd.prog.godebug = none := by kernel_rfl
theorem laidOut : laidOutB Tryd.prog = true := by kernel_rfl
theorem errRow (u : TypeId) (h : Tryd.prog.typeName? 3 u = some "*errors.errorString") : u = 143 :=
  typeName_ptr_named (nm := "errors.errorString") (tp := 143) (by kernel_rfl) (by kernel_rfl) (by decide) u h

theorem eof_of_laid {W : World} {r : List (String × DataW Unit)} (h : laidMet Tryd.prog (("io.EOF", Rows.laid_io_EOF) :: r) W) : ∃ ae, W.cell? ⟨0, 0, none⟩ = some (.iface 143 (.pointer (some ae))) ∧ 0 < W.heap.size := by
  obtain ⟨a, s, h1, _⟩ := laid_sentinel (g := 0) (ti := 49) (tp := 143) (te := 145) (ts := 9) h (by kernel_rfl) (by kernel_rfl) Tryd.underlying49 errRow Tryd.underlying143 Tryd.underlying145 rfl rfl Tryd.underlying9 (by kernel_rfl) (by kernel_rfl)
  have h2 := World.var?_cell (show Tryd.prog.globalNamed "io.EOF" = some 0 by kernel_rfl) h1 0
  have h3 : W.cell? ⟨0, 0, none⟩ = some (.iface 143 (.pointer (some a))) := by simpa using h2
  refine ⟨a, h3, ?_⟩
  rcases Nat.lt_or_ge 0 W.heap.size with h' | h'
  · exact h'
  · simp [World.cell?, Array.getElem?_eq_none h'] at h3

theorem unx_of_laid {W : World} {r : List (String × DataW Unit)} (h : laidMet Tryd.prog (("io.ErrUnexpectedEOF", Rows.laid_io_ErrUnexpectedEOF) :: r) W) : ∃ ae, W.cell? ⟨1, 0, none⟩ = some (.iface 143 (.pointer (some ae))) ∧ 1 < W.heap.size := by
  obtain ⟨a, s, h1, _⟩ := laid_sentinel (g := 1) (ti := 49) (tp := 143) (te := 145) (ts := 9) h (by kernel_rfl) (by kernel_rfl) Tryd.underlying49 errRow Tryd.underlying143 Tryd.underlying145 rfl rfl Tryd.underlying9 (by kernel_rfl) (by kernel_rfl)
  have h2 := World.var?_cell (show Tryd.prog.globalNamed "io.ErrUnexpectedEOF" = some 1 by kernel_rfl) h1 0
  have h3 : W.cell? ⟨1, 0, none⟩ = some (.iface 143 (.pointer (some a))) := by simpa using h2
  refine ⟨a, h3, ?_⟩
  rcases Nat.lt_or_ge 1 W.heap.size with h' | h'
  · exact h'
  · simp [World.cell?, Array.getElem?_eq_none h'] at h3

set_option maxRecDepth 100000 in
theorem lifted (os : Os) (started : os.Started) (H : Type) (enc : TypeId × Value → H) :
    ReturnsInHanded {} Tryd.checked os 4 .any (fun w args => (Rows.fnRawReadSpec.pre enc Tryd.prog Tryd.f4 Rows.fnRawReadRow.domain false w args ∧ laidMetH Tryd.prog Rows.fnRawReadRow.laid w) ∧ sizedMet enc Tryd.prog Tryd.f4 (OpenSpec.ofChange Rows.fnRawReadSpec) false w args) (Rows.fnRawReadSpec.post enc Tryd.prog Tryd.f4 false true false false) := by
  refine returnsInHanded_of_change_and (C := Tryd.checked) (X := fun w _ => laidMetH Tryd.prog Rows.fnRawReadRow.laid w) (fun _ _ _ hh h => h.of_heap hh) own started (by kernel_rfl) Tryd.func4
    (ChangeSpec.witness_shaped (enc := enc) (C := Tryd.checked) (os := os) (X := fun w _ => laidMetH Tryd.prog Rows.fnRawReadRow.laid w) false (World.laidAll Tryd.prog os Rows.fnRawReadRow.laid) #[.string ⟨#[]⟩] 8 (World.laidAll_os _ _ _)
      (World.shaped_of_ZipB (by kernel_rfl) (by kernel_rfl)) (by kernel_rfl) (by kernel_rfl) (by kernel_rfl)
      (by rw [MakeChecks.laidMetH_plain _ _ _ (by kernel_rfl)]; exact laidMet_laidAll _ (by kernel_rfl) (by kernel_rfl))) ?_
  intro W base args ds gs before hval0 hW hcnd _ hL hsz0
  have hval : ∀ (j : Nat) t v, Tryd.f4.params[j]? = some t → args[j]? = some v → Value.okWide Tryd.prog W .any base t v := hval0
  have hW' := hW
  obtain ⟨p, q, hA0, hV, rfl, hfz, hnd⟩ := hW
  have hA : DataW.TrodAll enc Tryd.prog W 0 (fun _ => true) true Tryd.f4.params.toList args.toList ds p := hA0
  rw [Tryd.params4] at hA hval
  obtain ⟨v0, vs0, d0, ds0, p0, q0, hargs, rfl, rfl, h0, r0⟩ := trodAll_cons hA
  obtain ⟨rfl, rfl, rfl⟩ := trodAll_nil r0
  obtain rfl : args = #[v0] := by cases args; simp_all
  obtain ⟨rfl, rfl⟩ := trodVars_none hV
  have k0 := h0
  have lt0 : ∀ x ∈ p0, x.block < W.heap.size := by obtain ⟨m, hm⟩ := k0; exact DataW.trod_lt m _ _ _ hm
  obtain ⟨s, rfl⟩ := okWide_string Tryd.underlying9 (hval 0 9 v0 rfl rfl)
  rw [MakeChecks.laidMetH_plain _ _ _ (by kernel_rfl)] at hL
  obtain ⟨ae, hE, hlt⟩ := eof_of_laid hL.tail
  obtain ⟨qe, hU, hltU⟩ := unx_of_laid hL.tail.tail
  clear hA0 hval0
  refine (rr.rf.law_calls W s ae hE hlt qe hU hltU).mono fun e W' ⟨he, bel⟩ => ?_
  subst he
  exact ⟨_, rfl, _, _, _, [], _, [], hW', trodAll_mk1 (shut_bool Tryd.underlying4 _), (trodAll_cons_mk (Below.trod laidOut (by kernel_rfl) (of_decide_eq_true (by kernel_rfl)) k0 bel lt0) trodAll_mk0), rfl, bel.frame _, fun h => by cases h⟩

theorem fnRawRead_holds : Rows.FnRawReadSaid :=
  OpenClaim.holds_of_wide 4 Tryd.f4 rfl rfl rfl rfl rfl rfl rfl ⟨rfl, rfl, rfl, rfl, rfl⟩ rfl rfl rfl rfl rfl (by kernel_rfl) Tryd.func4 (by kernel_rfl)
    (of_decide_eq_true (by kernel_rfl)) (by unfold Func.isWrapper; first | (rw [if_pos (by decide +kernel)]; kernel_rfl) | (rw [if_neg (by decide +kernel)]; exact ⟨rfl, rfl⟩))
    (fun os started H enc _ => lifted os started H enc)
theorem fnRawRead_card : Rows.FnRawReadCardSaid :=
  Claim7.holds_tied_plain_at .later [] [.sentinel, .sentinel, .sentinel] true (true, "3acd84dda7f9945e069735996883f8a9a4422cb8dad67e7c86bb4f26a86eebfa") true fnRawRead_holds (fun _ h => by cases h) (by kernel_rfl) (fun _ h => by cases h) fnRawRead_row_tie rfl ⟨rfl, rfl⟩ (by kernel_rfl) rfl
    (fun f fn hf hfn => by
      obtain rfl : f = 4 := Option.some.inj ((show Tryd.prog.funcNamed "pub-teleprinter/laws.FnRawRead" = some 4 by kernel_rfl).symm.trans hf) |>.symm
      obtain rfl : fn = Tryd.f4 := (Option.some.inj (Tryd.func4.symm.trans hfn)).symm
      exact ⟨by kernel_rfl, fun j t ht => by
        rw [Tryd.params4] at ht
        have hm : t ∈ [9] := by simpa using Array.mem_of_getElem? ht
        have hall : ([9].all fun u => !Tryd.prog.wantsStandIn u) = true := by kernel_rfl
        exact (show Tryd.prog.wantsStandIn t = false by simpa using List.all_eq_true.1 hall t hm)⟩)
    (by kernel_rfl)
#print axioms fnRawRead_holds
#print axioms fnRawRead_card
end Go.Proofs.YtnmelglnkefjfaaDoor.rowFnRawRead
