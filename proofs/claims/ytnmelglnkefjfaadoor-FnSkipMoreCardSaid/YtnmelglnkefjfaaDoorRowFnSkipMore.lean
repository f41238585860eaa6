/- FnSkipMore: the row; its card. -/
import Derived.Test.YtnmelglnkefjfaaDoorRows
import Derived.Test.YtnmelglnkefjfaaDoorCards
import Derived.Test.YtnmelglnkefjfaaDoorTie
import Derived.Test.YtnmelglnkefjfaaDoorCa
import Derived.WalkKit
import Derived.ProofKit
import Derived.OpenShut
import Derived.ShutString
import Derived.ChangeOld
import Derived.Below
import Derived.Lib.SmallJoins
import Derived.SliceStrings
import Derived.LaidMore
import Derived.Lay
import Derived.SevenTiedAt
import Derived.Stop.Joined
import Derived.Stop.LaidErr
import Derived.MakeChecks
namespace Go.Proofs.YtnmelglnkefjfaaDoor.rowFnSkipMore
open Go.ChangeShapes Go.WideShapes Go.ChangeAt Go.RowKit Go.Joins
set_option linter.unusedVariables false
theorem own : ownKnob Tryd.prog.godebug = none := by kernel_rfl
theorem laidOut : laidOutB Tryd.prog = true := by kernel_rfl
theorem errRow (u : TypeId) (h : Tryd.prog.typeName? 3 u = some "*errors.errorString") : u = 143 :=
  typeName_ptr_named (nm := "errors.errorString") (tp := 143) (by kernel_rfl) (by kernel_rfl) (by decide) u h

theorem eof_of_laid {W : World} {r : List (String × DataW Unit)} (h : laidMet Tryd.prog (("io.EOF", Rows.laid_io_EOF) :: r) W) : ∃ ae, W.cell? ⟨0, 0, none⟩ = some (.iface 143 (.pointer (some ae))) ∧ 0 < W.heap.size := by
  obtain ⟨a, s, h1, _⟩ := laid_sentinel (g := 0) (ti := 49) (tp := 143) (te := 145) (ts := 9) h (by kernel_rfl) (by kernel_rfl) Tryd.underlying49 errRow Tryd.underlying143 Tryd.underlying145 rfl rfl Tryd.underlying9 (by kernel_rfl) (by kernel_rfl)
  have h2 := World.var?_cell (show Tryd.prog.globalNamed "io.EOF" = some 0 by kernel_rfl) h1 0
  have h3 : W.cell? ⟨0, 0, none⟩ = some (.iface 143 (.pointer (some a))) := by simpa using h2
  refine ⟨a, h3, ?_⟩
  rcases Nat.lt_or_ge 0 W.heap.size with h' | h'
  · exact h'
  · simp [World.cell?, Array.getElem?_eq_none h'] at h3

theorem unx_of_laid {W : World} {r : List (String × DataW Unit)} (h : laidMet Tryd.prog (("io.ErrUnexpectedEOF", Rows.laid_io_ErrUnexpectedEOF) :: r) W) : ∃ ae, W.cell? ⟨1, 0, none⟩ = some (.iface 143 (.pointer (some ae))) ∧ 1 < W.heap.size := by
  obtain ⟨a, s, h1, _⟩ := laid_sentinel (g := 1) (ti := 49) (tp := 143) (te := 145) (ts := 9) h (by kernel_rfl) (by kernel_rfl) Tryd.underlying49 errRow Tryd.underlying143 Tryd.underlying145 rfl rfl Tryd.underlying9 (by kernel_rfl) (by kernel_rfl)
  have h2 := World.var?_cell (show Tryd.prog.globalNamed "io.ErrUnexpectedEOF" = some 1 by kernel_rfl) h1 0
  have h3 : W.cell? ⟨1, 0, none⟩ = some (.iface 143 (.pointer (some a))) := by simpa using h2
  refine ⟨a, h3, ?_⟩
  rcases Nat.lt_or_ge 1 W.heap.size with h' | h'
  · exact h'
  · simp [World.cell?, Array.getElem?_eq_none h'] at h3

theorem cells_int : Tryd.prog.cellsOf 3 = 1 := by kernel_rfl
theorem C_ints {w : World} {a : Addr} {len : Nat} {zs : List Int} (hl : len ≤ zs.length) (hm : len ≤ 9223372036854775807)
    (hc : ∀ i, i < zs.length → w.cell? (a.add i) = some (.int .i64 (zs.getD i 0))) : (YtnmelglnkefjfaaDoorW.PrintWords.Kd.int .i64).C w (some a) (zs.take len).length (zs.take len) := by
  refine ⟨rfl, by simp; omega, fun _ => ⟨a, rfl, fun j p hj => ⟨[.int .i64 p], rfl, rfl, fun i u hu => ?_⟩⟩⟩
  have hj1 := (List.getElem?_eq_some_iff.1 hj).1
  simp at hj1
  have e : zs.getD j 0 = p := by
    rw [List.getElem?_take_of_lt (by omega)] at hj
    rw [List.getD_eq_getElem?_getD, hj]; rfl
  have hi : i = 0 := by
    have := (List.getElem?_eq_some_iff.1 hu).1
    simpa using this
  subst hi
  have hu' : Value.int .i64 p = u := by simpa using hu
  subst hu'
  have := hc j (by omega)
  rw [e] at this
  show w.cell? (a.add (j * 1 + 0)) = _
  simpa using this
theorem open_zs {H : Type} {enc : TypeId × Value → H} {W : World} {A : Option Addr} {len cap : Nat} {d : DataW H} {p : List MemPlace} (h : DataW.Trod enc Tryd.prog W 0 (fun _ => true) true 22 (.slice A len cap) d p) :
    ∃ l : List Int, l.length = len ∧ len ≤ cap ∧ (YtnmelglnkefjfaaDoorW.PrintWords.Kd.int .i64).C W A l.length l := by
  obtain ⟨fuel, hf⟩ := h
  rcases open_ints Tryd.underlying22 Tryd.underlying3 cells_int hf with ⟨hcs, hx⟩ | ⟨a, len', cap', zs, hcs, _, hl, hm, hz, hx, hcell, hwf⟩
  · have e : Value.slice A len cap = .slice none 0 0 := by have := (show [Value.slice A len cap] = _ from hcs); simpa using this
    cases e
    exact ⟨[], rfl, Nat.le_refl _, rfl, by simp, fun h => absurd h (by simp)⟩
  · have e : Value.slice A len cap = .slice (some a) len' cap' := by have := (show [Value.slice A len cap] = _ from hcs); simpa using this
    cases e
    have hl' : len ≤ zs.length := by rw [hz]; split <;> omega
    have hcap : cap ≤ 9223372036854775807 := by simp only [maxLen] at hm; omega
    exact ⟨zs.take len, by simp; omega, hl, C_ints hl' (by omega) hcell⟩

set_option maxRecDepth 100000 in
theorem lifted (os : Os) (started : os.Started) (H : Type) (enc : TypeId × Value → H) :
    ReturnsInHanded {} Tryd.checked os 3 .any (fun w args => (Rows.fnSkipMoreSpec.pre enc Tryd.prog Tryd.f3 Rows.fnSkipMoreRow.domain false w args ∧ laidMetH Tryd.prog Rows.fnSkipMoreRow.laid w) ∧ sizedMet enc Tryd.prog Tryd.f3 (OpenSpec.ofChange Rows.fnSkipMoreSpec) false w args) (Rows.fnSkipMoreSpec.post enc Tryd.prog Tryd.f3 false true false false) := by
  refine returnsInHanded_of_change_and (C := Tryd.checked) (X := fun w _ => laidMetH Tryd.prog Rows.fnSkipMoreRow.laid w) (fun _ _ _ hh h => h.of_heap hh) own started (by kernel_rfl) Tryd.func3
    (ChangeSpec.witness_shaped (enc := enc) (C := Tryd.checked) (os := os) (X := fun w _ => laidMetH Tryd.prog Rows.fnSkipMoreRow.laid w) false (World.laidAll Tryd.prog os Rows.fnSkipMoreRow.laid) #[.string ⟨#[]⟩, .int .i64 0, .slice none 0 0, .bool false] 8 (World.laidAll_os _ _ _)
      (World.shaped_of_ZipB (by kernel_rfl) (by kernel_rfl)) (by kernel_rfl) (by kernel_rfl) (by kernel_rfl)
      (by rw [MakeChecks.laidMetH_plain _ _ _ (by kernel_rfl)]; exact laidMet_laidAll _ (by kernel_rfl) (by kernel_rfl))) ?_
  intro W base args ds gs before hval0 hW hcnd _ hL hsz0
  have hval : ∀ (j : Nat) t v, Tryd.f3.params[j]? = some t → args[j]? = some v → Value.okWide Tryd.prog W .any base t v := hval0
  have hW' := hW
  obtain ⟨p, q, hA0, hV, rfl, hfz, hnd⟩ := hW
  have hA : DataW.TrodAll enc Tryd.prog W 0 (fun _ => true) true Tryd.f3.params.toList args.toList ds p := hA0
  rw [Tryd.params3] at hA hval
  obtain ⟨v0, vs0, d0, ds0, p0, q0, hargs, rfl, rfl, h0, r0⟩ := trodAll_cons hA
  obtain ⟨v1, vs1, d1, ds1, p1, q1, rfl, rfl, rfl, h1, r1⟩ := trodAll_cons r0
  obtain ⟨v2, vs2, d2, ds2, p2, q2, rfl, rfl, rfl, h2, r2⟩ := trodAll_cons r1
  obtain ⟨v3, vs3, d3, ds3, p3, q3, rfl, rfl, rfl, h3, r3⟩ := trodAll_cons r2
  obtain ⟨rfl, rfl, rfl⟩ := trodAll_nil r3
  obtain rfl : args = #[v0, v1, v2, v3] := by cases args; simp_all
  obtain ⟨rfl, rfl⟩ := trodVars_none hV
  have k0 := h0
  have lt0 : ∀ x ∈ p0, x.block < W.heap.size := by obtain ⟨m, hm⟩ := k0; exact DataW.trod_lt m _ _ _ hm
  have k1 := h1
  have lt1 : ∀ x ∈ p1, x.block < W.heap.size := by obtain ⟨m, hm⟩ := k1; exact DataW.trod_lt m _ _ _ hm
  have k2 := h2
  have lt2 : ∀ x ∈ p2, x.block < W.heap.size := by obtain ⟨m, hm⟩ := k2; exact DataW.trod_lt m _ _ _ hm
  have k3 := h3
  have lt3 : ∀ x ∈ p3, x.block < W.heap.size := by obtain ⟨m, hm⟩ := k3; exact DataW.trod_lt m _ _ _ hm
  obtain ⟨s, rfl⟩ := okWide_string Tryd.underlying9 (hval 0 9 v0 rfl rfl)
  obtain ⟨n, rfl⟩ := okWide_int Tryd.underlying3 (hval 1 3 v1 rfl rfl)
  obtain ⟨Az, len, cap, rfl⟩ := okWide_slice Tryd.underlying22 (hval 2 22 v2 rfl rfl)
  obtain ⟨pl, rfl⟩ := okWide_bool Tryd.underlying4 (hval 3 4 v3 rfl rfl)
  obtain ⟨zs, rfl, hzc, hC⟩ := open_zs h2
  rw [MakeChecks.laidMetH_plain _ _ _ (by kernel_rfl)] at hL
  obtain ⟨ae, hE, hlt⟩ := eof_of_laid hL
  obtain ⟨qe, hU, hltU⟩ := unx_of_laid hL.tail
  clear hA0 hval0
  refine (sk.la.law_calls W s n Az zs cap pl hC hzc ae hE hlt qe hU hltU).mono fun e W' ⟨he, bel⟩ => ?_
  subst he
  exact ⟨_, rfl, _, _, _, [], _, [], hW', trodAll_mk1 (shut_bool Tryd.underlying4 _), (trodAll_cons_mk (Below.trod laidOut (by kernel_rfl) (of_decide_eq_true (by kernel_rfl)) k0 bel lt0) (trodAll_cons_mk (Below.trod laidOut (by kernel_rfl) (of_decide_eq_true (by kernel_rfl)) k1 bel lt1) (trodAll_cons_mk (Below.trod laidOut (by kernel_rfl) (of_decide_eq_true (by kernel_rfl)) k2 bel lt2) (trodAll_cons_mk (Below.trod laidOut (by kernel_rfl) (of_decide_eq_true (by kernel_rfl)) k3 bel lt3) trodAll_mk0)))), rfl, bel.frame _, fun h => by cases h⟩

theorem fnSkipMore_holds : Rows.FnSkipMoreSaid :=
  OpenClaim.holds_of_wide 3 Tryd.f3 rfl rfl rfl rfl rfl rfl rfl ⟨rfl, rfl, rfl, rfl, rfl⟩ rfl rfl rfl rfl rfl (by kernel_rfl) Tryd.func3 (by kernel_rfl)
    (of_decide_eq_true (by kernel_rfl)) (by unfold Func.isWrapper; first | (rw [if_pos (by decide +kernel)]; kernel_rfl) | (rw [if_neg (by decide +kernel)]; exact ⟨rfl, rfl⟩))
    (fun os started H enc _ => lifted os started H enc)
theorem fnSkipMore_card : Rows.FnSkipMoreCardSaid :=
  Claim7.holds_tied_plain_at .later [] [.sentinel, .sentinel] true (true, "3acd84dda7f9945e069735996883f8a9a4422cb8dad67e7c86bb4f26a86eebfa") true fnSkipMore_holds (fun _ h => by cases h) (by kernel_rfl) (fun _ h => by cases h) fnSkipMore_row_tie rfl ⟨rfl, rfl⟩ (by kernel_rfl) rfl
    (fun f fn hf hfn => by
      obtain rfl : f = 3 := Option.some.inj ((show Tryd.prog.funcNamed "pub-teleprinter/laws.FnSkipMore" = some 3 by kernel_rfl).symm.trans hf) |>.symm
      obtain rfl : fn = Tryd.f3 := (Option.some.inj (Tryd.func3.symm.trans hfn)).symm
      exact ⟨by kernel_rfl, fun j t ht => by
        rw [Tryd.params3] at ht
        have hm : t ∈ [9, 3, 22, 4] := by simpa using Array.mem_of_getElem? ht
        have hall : ([9, 3, 22, 4].all fun u => !Tryd.prog.wantsStandIn u) = true := by kernel_rfl
        exact (show Tryd.prog.wantsStandIn t = false by simpa using List.all_eq_true.1 hall t hm)⟩)
    (by kernel_rfl)
#print axioms fnSkipMore_holds
#print axioms fnSkipMore_card
end Go.Proofs.YtnmelglnkefjfaaDoor.rowFnSkipMore
