/- FnEndOfLine: the row; its card. -/
import Derived.Test.YtbahngfpadjbhaaDoorRows
import Derived.Test.YtbahngfpadjbhaaDoorCards
import Derived.Test.YtbahngfpadjbhaaDoorTie
import Derived.Test.YtbahngfpadjbhaaDoorDq
import Derived.WalkKit
import Derived.ProofKit
import Derived.OpenShut
import Derived.ShutString
import Derived.ChangeOld
import Derived.Below
import Derived.Lib.SmallJoins
import Derived.SliceStrings
import Derived.LaidMore
import Derived.Lay
import Derived.SevenTiedAt
import Derived.Stop.Joined
import Derived.Stop.LaidErr
import Derived.MakeChecks
namespace Go.Proofs.YtbahngfpadjbhaaDoor.rowFnEndOfLine
open Go.ChangeShapes Go.WideShapes Go.ChangeAt Go.RowKit Go.Joins
set_option linter.unusedVariables false
theorem own : ownKnob Tryd.prog.godebug = none := by kernel_rfl
theorem laidOut : laidOutB Tryd.prog = true := by kernel_rfl
theorem eofRow (u : TypeId) (h : Tryd.prog.typeName? 3 u = some "*errors.errorString") : u = 89 :=
  typeName_ptr_named (nm := "errors.errorString") (tp := 89) (by kernel_rfl) (by kernel_rfl) (by decide) u h
theorem eof_of_laid {W : World} {r : List (String × DataW Unit)} (h : laidMet Tryd.prog (("io.EOF", Rows.laid_io_EOF) :: r) W) : ∃ ae, W.cell? ⟨2, 0, none⟩ = some (.iface 89 (.pointer (some ae))) ∧ 2 < W.heap.size := by
  obtain ⟨a, s, h1, _⟩ := laid_sentinel (g := 2) (ti := 42) (tp := 89) (te := 91) (ts := 9) h (by kernel_rfl) (by kernel_rfl) Tryd.underlying42 eofRow Tryd.underlying89 Tryd.underlying91 rfl rfl Tryd.underlying9 (by kernel_rfl) (by kernel_rfl)
  have h2 := World.var?_cell (show Tryd.prog.globalNamed "io.EOF" = some 2 by kernel_rfl) h1 0
  have h3 : W.cell? ⟨2, 0, none⟩ = some (.iface 89 (.pointer (some a))) := by simpa using h2
  refine ⟨a, h3, ?_⟩
  rcases Nat.lt_or_ge 2 W.heap.size with h' | h'
  · exact h'
  · simp [World.cell?, Array.getElem?_eq_none h'] at h3

theorem cells_int : Tryd.prog.cellsOf 3 = 1 := by kernel_rfl
theorem C_ints {w : World} {a : Addr} {len : Nat} {zs : List Int} (hl : len ≤ zs.length) (hm : len ≤ 9223372036854775807)
    (hc : ∀ i, i < zs.length → w.cell? (a.add i) = some (.int .i64 (zs.getD i 0))) : (YtbahngfpadjbhaaDoorW.PrintWords.Kd.int .i64).C w (some a) (zs.take len).length (zs.take len) := by
  refine ⟨rfl, by simp; omega, fun _ => ⟨a, rfl, fun j p hj => ⟨[.int .i64 p], rfl, rfl, fun i u hu => ?_⟩⟩⟩
  have hj1 := (List.getElem?_eq_some_iff.1 hj).1
  simp at hj1
  have e : zs.getD j 0 = p := by
    rw [List.getElem?_take_of_lt (by omega)] at hj
    rw [List.getD_eq_getElem?_getD, hj]; rfl
  have hi : i = 0 := by
    have := (List.getElem?_eq_some_iff.1 hu).1
    simpa using this
  subst hi
  have hu' : Value.int .i64 p = u := by simpa using hu
  subst hu'
  have := hc j (by omega)
  rw [e] at this
  show w.cell? (a.add (j * 1 + 0)) = _
  simpa using this
theorem open_zs {H : Type} {enc : TypeId × Value → H} {W : World} {A : Option Addr} {len cap : Nat} {d : DataW H} {p : List MemPlace} (h : DataW.Trod enc Tryd.prog W 0 (fun _ => true) true 22 (.slice A len cap) d p) :
    ∃ l : List Int, l.length = len ∧ len ≤ cap ∧ (YtbahngfpadjbhaaDoorW.PrintWords.Kd.int .i64).C W A l.length l := by
  obtain ⟨fuel, hf⟩ := h
  rcases open_ints Tryd.underlying22 Tryd.underlying3 cells_int hf with ⟨hcs, hx⟩ | ⟨a, len', cap', zs, hcs, _, hl, hm, hz, hx, hcell, hwf⟩
  · have e : Value.slice A len cap = .slice none 0 0 := by have := (show [Value.slice A len cap] = _ from hcs); simpa using this
    cases e
    exact ⟨[], rfl, Nat.le_refl _, rfl, by simp, fun h => absurd h (by simp)⟩
  · have e : Value.slice A len cap = .slice (some a) len' cap' := by have := (show [Value.slice A len cap] = _ from hcs); simpa using this
    cases e
    have hl' : len ≤ zs.length := by rw [hz]; split <;> omega
    have hcap : cap ≤ 9223372036854775807 := by simp only [maxLen] at hm; omega
    exact ⟨zs.take len, by simp; omega, hl, C_ints hl' (by omega) hcell⟩

set_option maxRecDepth 100000 in
theorem lifted (os : Os) (started : os.Started) (H : Type) (enc : TypeId × Value → H) :
    ReturnsInHanded {} Tryd.checked os 3 .any (fun w args => (Rows.fnEndOfLineSpec.pre enc Tryd.prog Tryd.f3 Rows.fnEndOfLineRow.domain false w args ∧ laidMetH Tryd.prog Rows.fnEndOfLineRow.laid w) ∧ sizedMet enc Tryd.prog Tryd.f3 (OpenSpec.ofChange Rows.fnEndOfLineSpec) false w args) (Rows.fnEndOfLineSpec.post enc Tryd.prog Tryd.f3 false true false false) := by
  refine returnsInHanded_of_change_and (C := Tryd.checked) (X := fun w _ => laidMetH Tryd.prog Rows.fnEndOfLineRow.laid w) (fun _ _ _ hh h => h.of_heap hh) own started (by kernel_rfl) Tryd.func3
    (ChangeSpec.witness_shaped (enc := enc) (C := Tryd.checked) (os := os) (X := fun w _ => laidMetH Tryd.prog Rows.fnEndOfLineRow.laid w) false (World.laidAll Tryd.prog os Rows.fnEndOfLineRow.laid) #[.string ⟨#[]⟩, .slice none 0 0] 8 (World.laidAll_os _ _ _)
      (World.shaped_of_ZipB (by kernel_rfl) (by kernel_rfl)) (by kernel_rfl) (by kernel_rfl) (by kernel_rfl)
      (by rw [MakeChecks.laidMetH_plain _ _ _ (by kernel_rfl)]; exact laidMet_laidAll _ (by kernel_rfl) (by kernel_rfl))) ?_
  intro W base args ds gs before hval0 hW hcnd _ hL hsz0
  have hval : ∀ (j : Nat) t v, Tryd.f3.params[j]? = some t → args[j]? = some v → Value.okWide Tryd.prog W .any base t v := hval0
  have hW' := hW
  obtain ⟨p, q, hA0, hV, rfl, hfz, hnd⟩ := hW
  have hA : DataW.TrodAll enc Tryd.prog W 0 (fun _ => true) true Tryd.f3.params.toList args.toList ds p := hA0
  rw [Tryd.params3] at hA hval
  obtain ⟨v0, vs0, d0, ds0, p0, q0, hargs, rfl, rfl, h0, r0⟩ := trodAll_cons hA
  obtain ⟨v1, vs1, d1, ds1, p1, q1, rfl, rfl, rfl, h1, r1⟩ := trodAll_cons r0
  obtain ⟨rfl, rfl, rfl⟩ := trodAll_nil r1
  obtain rfl : args = #[v0, v1] := by cases args; simp_all
  obtain ⟨rfl, rfl⟩ := trodVars_none hV
  have k0 := h0
  have lt0 : ∀ x ∈ p0, x.block < W.heap.size := by obtain ⟨m, hm⟩ := k0; exact DataW.trod_lt m _ _ _ hm
  have k1 := h1
  have lt1 : ∀ x ∈ p1, x.block < W.heap.size := by obtain ⟨m, hm⟩ := k1; exact DataW.trod_lt m _ _ _ hm
  obtain ⟨s, rfl⟩ := okWide_string Tryd.underlying9 (hval 0 9 v0 rfl rfl)
  obtain ⟨Az, len, cap, rfl⟩ := okWide_slice Tryd.underlying22 (hval 1 22 v1 rfl rfl)
  obtain ⟨zs, rfl, hzc, hC⟩ := open_zs h1
  rw [MakeChecks.laidMetH_plain _ _ _ (by kernel_rfl)] at hL
  obtain ⟨ae, hE, hlt⟩ := eof_of_laid hL
  clear hA0 hval0
  refine (dec.el.law_calls W s Az zs cap hC hzc ae hE hlt).mono fun e W' ⟨he, bel⟩ => ?_
  subst he
  exact ⟨_, rfl, _, _, _, [], _, [], hW', trodAll_mk1 (shut_bool Tryd.underlying4 _), (trodAll_cons_mk (Below.trod laidOut (by kernel_rfl) (of_decide_eq_true (by kernel_rfl)) k0 bel lt0) (trodAll_cons_mk (Below.trod laidOut (by kernel_rfl) (of_decide_eq_true (by kernel_rfl)) k1 bel lt1) trodAll_mk0)), rfl, bel.frame _, fun h => by cases h⟩

theorem fnEndOfLine_holds : Rows.FnEndOfLineSaid :=
  OpenClaim.holds_of_wide 3 Tryd.f3 rfl rfl rfl rfl rfl rfl rfl ⟨rfl, rfl, rfl, rfl, rfl⟩ rfl rfl rfl rfl rfl (by kernel_rfl) Tryd.func3 (by kernel_rfl)
    (of_decide_eq_true (by kernel_rfl)) (by unfold Func.isWrapper; first | (rw [if_pos (by decide +kernel)]; kernel_rfl) | (rw [if_neg (by decide +kernel)]; exact ⟨rfl, rfl⟩))
    (fun os started H enc _ => lifted os started H enc)
theorem fnEndOfLine_card : Rows.FnEndOfLineCardSaid :=
  Claim7.holds_tied_plain_at .later [] [.sentinel] true (true, "91d052f8e907a8399c6effb494b4c52990f7f0aea8489e77ae99dcabb60f389d") true fnEndOfLine_holds (fun _ h => by cases h) (by kernel_rfl) (fun _ h => by cases h) fnEndOfLine_row_tie rfl ⟨rfl, rfl⟩ (by kernel_rfl) rfl
    (fun f fn hf hfn => by
      obtain rfl : f = 3 := Option.some.inj ((show Tryd.prog.funcNamed "pub-teleprinter/laws.FnEndOfLine" = some 3 by kernel_rfl).symm.trans hf) |>.symm
      obtain rfl : fn = Tryd.f3 := (Option.some.inj (Tryd.func3.symm.trans hfn)).symm
      exact ⟨by kernel_rfl, fun j t ht => by
        rw [Tryd.params3] at ht
        have hm : t ∈ [9, 22] := by simpa using Array.mem_of_getElem? ht
        have hall : ([9, 22].all fun u => !Tryd.prog.wantsStandIn u) = true := by kernel_rfl
        exact (show Tryd.prog.wantsStandIn t = false by simpa using List.all_eq_true.1 hall t hm)⟩)
    (by kernel_rfl)
#print axioms fnEndOfLine_holds
#print axioms fnEndOfLine_card
end Go.Proofs.YtbahngfpadjbhaaDoor.rowFnEndOfLine
