/- FnValueEqual: the row; its card. -/
import Derived.Test.YtmdfmdnjjklliaaDoorRows
import Derived.Test.YtmdfmdnjjklliaaDoorCards
import Derived.Test.YtmdfmdnjjklliaaDoorTie
import Derived.Test.YtmdfmdnjjklliaaDoorVc
import Derived.WalkKit
import Derived.ProofKit
import Derived.OpenShut
import Derived.ShutString
import Derived.ChangeOld
import Derived.Below
import Derived.Lib.SmallJoins
import Derived.SliceStrings
import Derived.LaidMore
import Derived.Lay
import Derived.SevenTiedAt
import Derived.Stop.Joined
import Derived.Lib.LaidIn
import Derived.Lib.LaidU8T
import Derived.PinnedBridge
import Derived.MakeChecks
namespace Go.Proofs.YtmdfmdnjjklliaaDoor.rowFnValueEqual
open Go.ChangeShapes Go.WideShapes Go.ChangeAt Go.RowKit Go.Joins
set_option linter.unusedVariables false
theorem own : ownKnob Tryd.prog.godebug = none := by kernel_rfl
theorem laidOut : laidOutB Tryd.prog = true := by kernel_rfl
theorem tabs_of {g3 g4 : Nat} {W w : World} {L : List (Nat × Obj)} (h : Lib.Utf8Tabs g3 g4 W) (H : HHW.HH W.heap.size W w L) : Lib.Utf8Tabs g3 g4 w :=
  ⟨fun c hc => (H.old (HHW.cell_lt (h.1 c hc))).trans (h.1 c hc), fun i hi => ⟨(H.old (HHW.cell_lt (h.2 i hi).1)).trans (h.2 i hi).1, (H.old (HHW.cell_lt (h.2 i hi).2)).trans (h.2 i hi).2⟩⟩
theorem acc_eq : (Rows.laid_unicode_utf8_acceptRanges : DataW Unit) = Lib.acceptData := by kernel_rfl
theorem fst_eq : (Rows.laid_unicode_utf8_first : DataW Unit) = Lib.firstData := Go.Pinned.utf8First_eq
theorem tabs_of_laid {W : World} {l : List (String × DataW Unit)} (h : laidMet Tryd.prog l W) (h1 : ("unicode/utf8.first", Rows.laid_unicode_utf8_first) ∈ l) (h2 : ("unicode/utf8.acceptRanges", (Rows.laid_unicode_utf8_acceptRanges : DataW Unit)) ∈ l) : Lib.Utf8Tabs (Tryd.laysValid_ren.g 3) (Tryd.laysValid_ren.g 4) W :=
  utf8Tabs_of_readsT (U8Types.of196 Tryd.laysValid) ⟨by kernel_rfl, by kernel_rfl, by kernel_rfl, by kernel_rfl, by kernel_rfl, by kernel_rfl, by kernel_rfl⟩ (fst_eq ▸ Lib.laidMet.reads h h1) (acc_eq ▸ Lib.laidMet.reads h h2)

theorem wf_i64 {n : Int} (h : (Lit.int .i64 n).wf = true) : -9223372036854775808 ≤ n ∧ n ≤ 9223372036854775807 := by
  unfold Lit.wf at h
  simp only [Bool.and_eq_true, decide_eq_true_eq] at h
  exact h
theorem wf_u64 {n : Int} (h : (Lit.int .u64 n).wf = true) : 0 ≤ n ∧ n ≤ 18446744073709551615 := by
  unfold Lit.wf at h
  simp only [Bool.and_eq_true, decide_eq_true_eq] at h
  exact h
theorem trod_float {H : Type} {enc : TypeId × Value → H} {P : Program} {w : World} {base : Nat} {spare : Nat → Bool} {held : Bool} {fuel : Nat} {t : TypeId} {cs : List Value} {x : DataW H × List MemPlace} {k : FloatKind} (ht : P.underlying t = some (.float k)) (h : DataW.trod enc P w base spare held fuel t cs = some x) : ∃ n, cs = [.float k n] ∧ (Lit.float k n).wf = true := by
  cases fuel with
  | zero => simp [DataW.trod] at h
  | succ n =>
    unfold DataW.trod at h
    rw [ht] at h
    split at h <;> simp_all
theorem cl2 : Tryd.prog.cellsOf 2 = 1 := by kernel_rfl
theorem cl3 : Tryd.prog.cellsOf 3 = 1 := by kernel_rfl
theorem cl4 : Tryd.prog.cellsOf 4 = 1 := by kernel_rfl
theorem cl9 : Tryd.prog.cellsOf 9 = 1 := by kernel_rfl
theorem cl22 : Tryd.prog.cellsOf 22 = 1 := by kernel_rfl
theorem cl23 : Tryd.prog.cellsOf 23 = 1 := by kernel_rfl
theorem cl25 : Tryd.prog.cellsOf 25 = 6 := by kernel_rfl
theorem open_val {H : Type} {enc : TypeId × Value → H} {W : World} {cs : Array Value} {d : DataW H} {p : List MemPlace} (h : DataW.Trod enc Tryd.prog W 0 (fun _ => true) true 25 (.agg cs) d p) :
    ∃ (x0 : Int) (x1 : ByteArray) (x2 : Int) (x3 : Int) (x4 : Nat) (x5 : Bool), cs = #[.int .i64 x0, .string x1, .int .i64 x2, .int .u64 x3, .float .f64 x4, .bool x5] ∧ (-9223372036854775808 ≤ x0 ∧ x0 ≤ 9223372036854775807) ∧ (-9223372036854775808 ≤ x2 ∧ x2 ≤ 9223372036854775807) ∧ (0 ≤ x3 ∧ x3 ≤ 18446744073709551615) ∧ x4 < 18446744073709551616 := by
  obtain ⟨fuel, hf⟩ := h
  obtain ⟨xs, n, _, _, hcl, hxl, hx⟩ := DataW.trod_struct Tryd.underlying25 hf
  have hcl' : cs.toList.length = 6 := hcl.trans cl25
  obtain ⟨c0, c1, c2, c3, c4, c5, hcs⟩ : ∃ c0 c1 c2 c3 c4 c5, cs.toList = [c0, c1, c2, c3, c4, c5] := by
    rcases hl : cs.toList with _ | ⟨a0, _ | ⟨a1, _ | ⟨a2, _ | ⟨a3, _ | ⟨a4, _ | ⟨a5, _ | ⟨a, l⟩⟩⟩⟩⟩⟩⟩
    all_goals (rw [hl] at hcl'; simp at hcl')
    exact ⟨_, _, _, _, _, _, rfl⟩
  obtain ⟨y0, y1, y2, y3, y4, y5, hys⟩ : ∃ y0 y1 y2 y3 y4 y5, xs = [y0, y1, y2, y3, y4, y5] := by
    rcases xs with _ | ⟨a0, _ | ⟨a1, _ | ⟨a2, _ | ⟨a3, _ | ⟨a4, _ | ⟨a5, _ | ⟨a, l⟩⟩⟩⟩⟩⟩⟩
    all_goals simp at hxl
    exact ⟨_, _, _, _, _, _, rfl⟩
  subst hys
  have hcs2 : (Value.agg cs).cells.toList = [c0, c1, c2, c3, c4, c5] := hcs
  rw [hcs2] at hx
  have h0 : DataW.trod enc Tryd.prog W 0 (fun _ => true) true n 3 [c0] = some y0 := by have := hx 0 _ rfl; simpa [cl3] using this
  have h1 : DataW.trod enc Tryd.prog W 0 (fun _ => true) true n 9 [c1] = some y1 := by have := hx 1 _ rfl; simpa [cl9] using this
  have h2 : DataW.trod enc Tryd.prog W 0 (fun _ => true) true n 2 [c2] = some y2 := by have := hx 2 _ rfl; simpa [cl2] using this
  have h3 : DataW.trod enc Tryd.prog W 0 (fun _ => true) true n 22 [c3] = some y3 := by have := hx 3 _ rfl; simpa [cl22] using this
  have h4 : DataW.trod enc Tryd.prog W 0 (fun _ => true) true n 23 [c4] = some y4 := by have := hx 4 _ rfl; simpa [cl23] using this
  have h5 : DataW.trod enc Tryd.prog W 0 (fun _ => true) true n 4 [c5] = some y5 := by have := hx 5 _ rfl; simpa [cl4] using this
  obtain ⟨x0, e0, _, w0⟩ := DataW.trod_int Tryd.underlying3 h0
  obtain ⟨x1, e1, _, _⟩ := DataW.trod_string Tryd.underlying9 h1
  obtain ⟨x2, e2, _, w2⟩ := DataW.trod_int Tryd.underlying2 h2
  obtain ⟨x3, e3, _, w3⟩ := DataW.trod_int Tryd.underlying22 h3
  obtain ⟨x4, e4, w4⟩ := trod_float Tryd.underlying23 h4
  obtain ⟨x5, e5, _⟩ := DataW.trod_bool Tryd.underlying4 h5
  simp only [List.cons.injEq, and_true] at e0 e1 e2 e3 e4 e5
  subst e0 e1 e2 e3 e4 e5
  exact ⟨x0, x1, x2, x3, x4, x5, Array.toList_inj.1 hcs, wf_i64 w0, wf_i64 w2, wf_u64 w3, by have := w4; unfold Lit.wf at this; simpa using this⟩

set_option maxHeartbeats 4000000 in
set_option maxRecDepth 100000 in
theorem lifted (os : Os) (started : os.Started) (H : Type) (enc : TypeId × Value → H) :
    ReturnsInHanded {} Tryd.checked os 3 .any (fun w args => (Rows.fnValueEqualSpec.pre enc Tryd.prog Tryd.f3 Rows.fnValueEqualRow.domain false w args ∧ laidMetH Tryd.prog Rows.fnValueEqualRow.laid w) ∧ sizedMet enc Tryd.prog Tryd.f3 (OpenSpec.ofChange Rows.fnValueEqualSpec) false w args) (Rows.fnValueEqualSpec.post enc Tryd.prog Tryd.f3 false true false false) := by
  refine returnsInHanded_of_change_and (C := Tryd.checked) (X := fun w _ => laidMetH Tryd.prog Rows.fnValueEqualRow.laid w) (fun _ _ _ hh h => h.of_heap hh) own started (by kernel_rfl) Tryd.func3
    (ChangeSpec.witness_shaped (enc := enc) (C := Tryd.checked) (os := os) (X := fun w _ => laidMetH Tryd.prog Rows.fnValueEqualRow.laid w) false (World.laidAll Tryd.prog os Rows.fnValueEqualRow.laid) #[.agg #[.int .i64 0, .string ⟨#[]⟩, .int .i64 0, .int .u64 0, .float .f64 0, .bool false], .agg #[.int .i64 0, .string ⟨#[]⟩, .int .i64 0, .int .u64 0, .float .f64 0, .bool false]] 8 (World.laidAll_os _ _ _)
      (World.shaped_of_ZipB (by kernel_rfl) (by kernel_rfl)) (by kernel_rfl) (by kernel_rfl) (by kernel_rfl)
      (by rw [MakeChecks.laidMetH_plain _ _ _ (by kernel_rfl)]; exact laidMet_laidAll _ (by kernel_rfl) (by kernel_rfl))) ?_
  intro W base args ds gs before hval0 hW hcnd _ hL hsz0
  have hval : ∀ (j : Nat) t v, Tryd.f3.params[j]? = some t → args[j]? = some v → Value.okWide Tryd.prog W .any base t v := hval0
  have hW' := hW
  obtain ⟨p, q, hA0, hV, rfl, hfz, hnd⟩ := hW
  have hA : DataW.TrodAll enc Tryd.prog W 0 (fun _ => true) true Tryd.f3.params.toList args.toList ds p := hA0
  rw [Tryd.params3] at hA hval
  obtain ⟨v0, vs0, d0, ds0, p0, q0, hargs, rfl, rfl, h0, r0⟩ := trodAll_cons hA
  obtain ⟨v1, vs1, d1, ds1, p1, q1, rfl, rfl, rfl, h1, r1⟩ := trodAll_cons r0
  obtain ⟨rfl, rfl, rfl⟩ := trodAll_nil r1
  obtain rfl : args = #[v0, v1] := by cases args; simp_all
  obtain ⟨rfl, rfl⟩ := trodVars_none hV
  have k0 := h0
  have lt0 : ∀ x ∈ p0, x.block < W.heap.size := by obtain ⟨m, hm⟩ := k0; exact DataW.trod_lt m _ _ _ hm
  have k1 := h1
  have lt1 : ∀ x ∈ p1, x.block < W.heap.size := by obtain ⟨m, hm⟩ := k1; exact DataW.trod_lt m _ _ _ hm
  obtain ⟨cs0, rfl, _⟩ := okWide_struct Tryd.underlying25 (hval 0 25 v0 rfl rfl)
  obtain ⟨cs1, rfl, _⟩ := okWide_struct Tryd.underlying25 (hval 1 25 v1 rfl rfl)
  obtain ⟨ka, sa, na, ua, fa, ba, rfl, _, rna, _, rfa⟩ := open_val h0
  obtain ⟨kb, sb, nb, ub, fb, bb, rfl, _, rnb, _, rfb⟩ := open_val h1
  rw [MakeChecks.laidMetH_plain _ _ _ (by kernel_rfl)] at hL
  have htab := tabs_of_laid hL (.tail _ (.head _)) (.head _)
  clear hA0 hval0
  refine (ve.la.law_calls W ka sa na ua fa ba kb sb nb ub fb bb rfa rfb rna rnb (fun w L H => tabs_of htab H)).mono fun e W' ⟨he, bel⟩ => ?_
  subst he
  exact ⟨_, rfl, _, _, _, [], _, [], hW', trodAll_mk1 (shut_bool Tryd.underlying4 _), (trodAll_cons_mk (Below.trod laidOut (by kernel_rfl) (of_decide_eq_true (by kernel_rfl)) k0 bel lt0) (trodAll_cons_mk (Below.trod laidOut (by kernel_rfl) (of_decide_eq_true (by kernel_rfl)) k1 bel lt1) trodAll_mk0)), rfl, bel.frame _, fun h => by cases h⟩

theorem fnValueEqual_holds : Rows.FnValueEqualSaid :=
  OpenClaim.holds_of_wide 3 Tryd.f3 rfl rfl rfl rfl rfl rfl rfl ⟨rfl, rfl, rfl, rfl, rfl⟩ rfl rfl rfl rfl rfl (by kernel_rfl) Tryd.func3 (by kernel_rfl)
    (of_decide_eq_true (by kernel_rfl)) (by unfold Func.isWrapper; first | (rw [if_pos (by decide +kernel)]; kernel_rfl) | (rw [if_neg (by decide +kernel)]; exact ⟨rfl, rfl⟩))
    (fun os started H enc _ => lifted os started H enc)
theorem fnValueEqual_card : Rows.FnValueEqualCardSaid :=
  Claim7.holds_tied_plain_at .later [] [.data, .pinned] true (true, "eb4c19d3c25549ce1528855bd54bfeca62d9539d7740cdc874addcbc7d8dd41c") false fnValueEqual_holds (fun _ h => by cases h) (by kernel_rfl) (fun _ h => by cases h) fnValueEqual_row_tie rfl ⟨rfl, rfl⟩ (by kernel_rfl) rfl
    (fun f fn hf hfn => by
      obtain rfl : f = 3 := Option.some.inj ((show Tryd.prog.funcNamed "pub-teleprinter/laws.FnValueEqual" = some 3 by kernel_rfl).symm.trans hf) |>.symm
      obtain rfl : fn = Tryd.f3 := (Option.some.inj (Tryd.func3.symm.trans hfn)).symm
      exact ⟨by kernel_rfl, fun j t ht => by
        rw [Tryd.params3] at ht
        have hm : t ∈ [25, 25] := by simpa using Array.mem_of_getElem? ht
        have hall : ([25, 25].all fun u => !Tryd.prog.wantsStandIn u) = true := by kernel_rfl
        exact (show Tryd.prog.wantsStandIn t = false by simpa using List.all_eq_true.1 hall t hm)⟩)
    (by kernel_rfl)
#print axioms fnValueEqual_holds
#print axioms fnValueEqual_card
end Go.Proofs.YtmdfmdnjjklliaaDoor.rowFnValueEqual
