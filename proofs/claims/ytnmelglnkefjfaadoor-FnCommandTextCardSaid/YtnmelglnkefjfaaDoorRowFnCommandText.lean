/- FnCommandText: the row; its card. -/
import Derived.Test.YtnmelglnkefjfaaDoorRows
import Derived.Test.YtnmelglnkefjfaaDoorCards
import Derived.Test.YtnmelglnkefjfaaDoorTie
import Derived.Test.YtnmelglnkefjfaaDoorCw
import Derived.WalkKit
import Derived.ProofKit
import Derived.OpenShut
import Derived.ShutString
import Derived.ChangeOld
import Derived.Below
import Derived.Lib.SmallJoins
import Derived.SliceStrings
import Derived.LaidMore
import Derived.Lay
import Derived.SevenTiedAt
import Derived.Stop.Joined
import Derived.Lib.LaidIn
import Derived.Lib.LaidU8T
import Derived.Lib.LaidCase
import Derived.PinnedBridge
import Derived.MakeChecks
namespace Go.Proofs.YtnmelglnkefjfaaDoor.rowFnCommandText
open Go.ChangeShapes Go.WideShapes Go.ChangeAt Go.RowKit Go.Joins
set_option linter.unusedVariables false
theorem own : ownKnob Tryd.prog.godebug = none := by kernel_rfl
theorem laidOut : laidOutB Tryd.prog = true := by kernel_rfl
theorem cells_str : Tryd.prog.cellsOf 9 = 1 := by kernel_rfl
theorem C_strings {w : World} {a : Addr} {len : Nat} {ss : List ByteArray} (hl : len ≤ ss.length) (hm : len ≤ 9223372036854775807)
    (hc : ∀ i, i < ss.length → w.cell? (a.add i) = some (.string (ss.getD i ByteArray.empty))) : YtnmelglnkefjfaaDoorW.PrintWords.Kd.string.C w (some a) (ss.take len).length (ss.take len) := by
  refine ⟨rfl, by simp; omega, fun _ => ⟨a, rfl, fun j p hj => ⟨[.string p], rfl, rfl, fun i u hu => ?_⟩⟩⟩
  have hj1 := (List.getElem?_eq_some_iff.1 hj).1
  simp at hj1
  have e : ss.getD j ByteArray.empty = p := by
    rw [List.getElem?_take_of_lt (by omega)] at hj
    rw [List.getD_eq_getElem?_getD, hj]; rfl
  have hi : i = 0 := by
    have := (List.getElem?_eq_some_iff.1 hu).1
    simpa using this
  subst hi
  have hu' : Value.string p = u := by simpa using hu
  subst hu'
  have := hc j (by omega)
  rw [e] at this
  show w.cell? (a.add (j * 1 + 0)) = _
  simpa using this
theorem open_strs {H : Type} {enc : TypeId × Value → H} {W : World} {A : Option Addr} {len cap : Nat} {d : DataW H} {p : List MemPlace} (h : DataW.Trod enc Tryd.prog W 0 (fun _ => true) true 36 (.slice A len cap) d p) :
    ∃ l : List ByteArray, l.length = len ∧ len ≤ cap ∧ YtnmelglnkefjfaaDoorW.PrintWords.Kd.string.C W A l.length l := by
  obtain ⟨fuel, hf⟩ := h
  rcases open_strings Tryd.underlying36 Tryd.underlying9 cells_str hf with ⟨hcs, hx⟩ | ⟨a, len', cap', ss, hcs, _, hl, hm, hz, hx, hcell, hsz⟩
  · have e : Value.slice A len cap = .slice none 0 0 := by have := (show [Value.slice A len cap] = _ from hcs); simpa using this
    cases e
    exact ⟨[], rfl, Nat.le_refl _, rfl, by simp, fun h => absurd h (by simp)⟩
  · have e : Value.slice A len cap = .slice (some a) len' cap' := by have := (show [Value.slice A len cap] = _ from hcs); simpa using this
    cases e
    have hl' : len ≤ ss.length := by rw [hz]; split <;> omega
    have hcap : cap ≤ 9223372036854775807 := by simp only [maxLen] at hm; omega
    exact ⟨ss.take len, by simp; omega, hl, C_strings hl' (by omega) hcell⟩

theorem acc_eq : (Rows.laid_unicode_utf8_acceptRanges : DataW Unit) = Lib.acceptData := by kernel_rfl
theorem fst_eq : (Rows.laid_unicode_utf8_first : DataW Unit) = Lib.firstData := Go.Pinned.utf8First_eq
theorem cas_eq : (Rows.laid_unicode_CaseRanges : DataW Unit) = Lib.caseData := Go.Pinned.caseRanges_eq
theorem tabs_of_laid {W : World} {l : List (String × DataW Unit)} (h : laidMet Tryd.prog l W) (h1 : ("unicode/utf8.first", Rows.laid_unicode_utf8_first) ∈ l) (h2 : ("unicode/utf8.acceptRanges", (Rows.laid_unicode_utf8_acceptRanges : DataW Unit)) ∈ l) (h3 : ("unicode.CaseRanges", Rows.laid_unicode_CaseRanges) ∈ l) : ct.li.Tabs W := by
  have r1 := fst_eq ▸ Lib.laidMet.reads h h1
  have r2 := acc_eq ▸ Lib.laidMet.reads h h2
  have r3 := cas_eq ▸ Lib.laidMet.reads h h3
  refine ⟨caseVar_of_reads { Tryd.clays158 with } (by kernel_rfl) ⟨by kernel_rfl, by kernel_rfl, by kernel_rfl, by kernel_rfl, by kernel_rfl, by kernel_rfl⟩ r3, ?_, ?_⟩
  · exact utf8Tabs_of_readsT (U8Types.of260 { Tryd.clays158 with }) ⟨by kernel_rfl, by kernel_rfl, by kernel_rfl, by kernel_rfl, by kernel_rfl, by kernel_rfl, by kernel_rfl⟩ r1 r2
  · exact utf8Tabs_of_readsT (U8Types.of260 { Tryd.clays197 with }) ⟨by kernel_rfl, by kernel_rfl, by kernel_rfl, by kernel_rfl, by kernel_rfl, by kernel_rfl, by kernel_rfl⟩ r1 r2

set_option maxRecDepth 100000 in
theorem lifted (os : Os) (started : os.Started) (H : Type) (enc : TypeId × Value → H) :
    ReturnsInHanded {} Tryd.checked os 5 .any (fun w args => (Rows.fnCommandTextSpec.pre enc Tryd.prog Tryd.f5 Rows.fnCommandTextRow.domain false w args ∧ laidMetH Tryd.prog Rows.fnCommandTextRow.laid w) ∧ sizedMet enc Tryd.prog Tryd.f5 (OpenSpec.ofChange Rows.fnCommandTextSpec) false w args) (Rows.fnCommandTextSpec.post enc Tryd.prog Tryd.f5 false true false false) := by
  refine returnsInHanded_of_change_and (C := Tryd.checked) (X := fun w _ => laidMetH Tryd.prog Rows.fnCommandTextRow.laid w) (fun _ _ _ hh h => h.of_heap hh) own started (by kernel_rfl) Tryd.func5
    (ChangeSpec.witness_shaped (enc := enc) (C := Tryd.checked) (os := os) (X := fun w _ => laidMetH Tryd.prog Rows.fnCommandTextRow.laid w) false (World.laidAll Tryd.prog os Rows.fnCommandTextRow.laid) #[.string ⟨#[]⟩, .slice none 0 0] 8 (World.laidAll_os _ _ _)
      (World.shaped_of_ZipB (by kernel_rfl) (by kernel_rfl)) (by kernel_rfl) (by kernel_rfl) (by kernel_rfl)
      (by rw [MakeChecks.laidMetH_plain _ _ _ (by kernel_rfl)]; exact laidMet_laidAll _ (by kernel_rfl) (by kernel_rfl))) ?_
  intro W base args ds gs before hval0 hW hcnd _ hL hsz0
  have hval : ∀ (j : Nat) t v, Tryd.f5.params[j]? = some t → args[j]? = some v → Value.okWide Tryd.prog W .any base t v := hval0
  have hW' := hW
  obtain ⟨p, q, hA0, hV, rfl, hfz, hnd⟩ := hW
  have hA : DataW.TrodAll enc Tryd.prog W 0 (fun _ => true) true Tryd.f5.params.toList args.toList ds p := hA0
  rw [Tryd.params5] at hA hval
  obtain ⟨v0, vs0, d0, ds0, p0, q0, hargs, rfl, rfl, h0, r0⟩ := trodAll_cons hA
  obtain ⟨v1, vs1, d1, ds1, p1, q1, rfl, rfl, rfl, h1, r1⟩ := trodAll_cons r0
  obtain ⟨rfl, rfl, rfl⟩ := trodAll_nil r1
  obtain rfl : args = #[v0, v1] := by cases args; simp_all
  obtain ⟨rfl, rfl⟩ := trodVars_none hV
  have k0 := h0
  have lt0 : ∀ x ∈ p0, x.block < W.heap.size := by obtain ⟨m, hm⟩ := k0; exact DataW.trod_lt m _ _ _ hm
  have k1 := h1
  have lt1 : ∀ x ∈ p1, x.block < W.heap.size := by obtain ⟨m, hm⟩ := k1; exact DataW.trod_lt m _ _ _ hm
  obtain ⟨s, rfl⟩ := okWide_string Tryd.underlying9 (hval 0 9 v0 rfl rfl)
  obtain ⟨Ak, lk, ck, rfl⟩ := okWide_slice Tryd.underlying36 (hval 1 36 v1 rfl rfl)
  obtain ⟨ks, rfl, hkc, hC1⟩ := open_strs h1
  rw [MakeChecks.laidMetH_plain _ _ _ (by kernel_rfl)] at hL
  have htab := tabs_of_laid hL (.tail _ (.tail _ (.tail _ (.tail _ (.tail _ (.tail _ (.tail _ (.head _)))))))) (.head _) (.tail _ (.tail _ (.tail _ (.tail _ (.tail _ (.tail _ (.head _)))))))
  clear hA0 hval0
  refine (ct.lw.law_ W s Ak ck ks hC1 hkc htab).mono fun e W' ⟨he, bel⟩ => ?_
  subst he
  exact ⟨_, rfl, _, _, _, [], _, [], hW', trodAll_mk1 (shut_bool Tryd.underlying4 _), (trodAll_cons_mk (Below.trod laidOut (by kernel_rfl) (of_decide_eq_true (by kernel_rfl)) k0 bel lt0) (trodAll_cons_mk (Below.trod laidOut (by kernel_rfl) (of_decide_eq_true (by kernel_rfl)) k1 bel lt1) trodAll_mk0)), rfl, bel.frame _, fun h => by cases h⟩

theorem fnCommandText_holds : Rows.FnCommandTextSaid :=
  OpenClaim.holds_of_wide 5 Tryd.f5 rfl rfl rfl rfl rfl rfl rfl ⟨rfl, rfl, rfl, rfl, rfl⟩ rfl rfl rfl rfl rfl (by kernel_rfl) Tryd.func5 (by kernel_rfl)
    (of_decide_eq_true (by kernel_rfl)) (by unfold Func.isWrapper; first | (rw [if_pos (by decide +kernel)]; kernel_rfl) | (rw [if_neg (by decide +kernel)]; exact ⟨rfl, rfl⟩))
    (fun os started H enc _ => lifted os started H enc)
theorem fnCommandText_card : Rows.FnCommandTextCardSaid :=
  Claim7.holds_tied_plain_at .later [] [.data, .pinned, .pinned, .pinned, .pinned, .pinned, .pinned, .pinned] true (true, "3acd84dda7f9945e069735996883f8a9a4422cb8dad67e7c86bb4f26a86eebfa") true fnCommandText_holds (fun _ h => by cases h) (by kernel_rfl) (fun _ h => by cases h) fnCommandText_row_tie rfl ⟨rfl, rfl⟩ (by kernel_rfl) rfl
    (fun f fn hf hfn => by
      obtain rfl : f = 5 := Option.some.inj ((show Tryd.prog.funcNamed "pub-teleprinter/laws.FnCommandText" = some 5 by kernel_rfl).symm.trans hf) |>.symm
      obtain rfl : fn = Tryd.f5 := (Option.some.inj (Tryd.func5.symm.trans hfn)).symm
      exact ⟨by kernel_rfl, fun j t ht => by
        rw [Tryd.params5] at ht
        have hm : t ∈ [9, 36] := by simpa using Array.mem_of_getElem? ht
        have hall : ([9, 36].all fun u => !Tryd.prog.wantsStandIn u) = true := by kernel_rfl
        exact (show Tryd.prog.wantsStandIn t = false by simpa using List.all_eq_true.1 hall t hm)⟩)
    (by kernel_rfl)
#print axioms fnCommandText_holds
#print axioms fnCommandText_card
end Go.Proofs.YtnmelglnkefjfaaDoor.rowFnCommandText
