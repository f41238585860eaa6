/- FnScriptWrite: the row; its card. -/
import Derived.Test.YtnmelglnkefjfaaGreatDoorRows
import Derived.Test.YtnmelglnkefjfaaGreatDoorCards
import Derived.Test.YtnmelglnkefjfaaGreatDoorTie
import Derived.Test.YtnmelglnkefjfaaGreatDoorXd
import Derived.WalkKit
import Derived.ProofKit
import Derived.OpenShut
import Derived.ShutString
import Derived.ChangeOld
import Derived.Below
import Derived.Lib.SmallJoins
import Derived.SliceStrings
import Derived.LaidMore
import Derived.Lay
import Derived.SevenTiedAt
import Derived.Stop.Joined
import Derived.Stop.LaidErr
import Derived.Lib.LaidTab
import Derived.MakeChecks
namespace Go.Proofs.YtnmelglnkefjfaaGreatDoor.rowFnScriptWrite
open Go.ChangeShapes Go.WideShapes Go.ChangeAt Go.RowKit Go.Joins
set_option linter.unusedVariables false
theorem own : ownKnob Tryz.prog.godebug = none := by kernel_rfl
theorem laidOut : laidOutB Tryz.prog = true := by kernel_rfl
theorem cells_str : Tryz.prog.cellsOf 9 = 1 := by kernel_rfl
theorem C_strings {w : World} {a : Addr} {len : Nat} {ss : List ByteArray} (hl : len ≤ ss.length) (hm : len ≤ 9223372036854775807)
    (hc : ∀ i, i < ss.length → w.cell? (a.add i) = some (.string (ss.getD i ByteArray.empty))) : YtnmelglnkefjfaaGreatDoorW.PrintWords.Kd.string.C w (some a) (ss.take len).length (ss.take len) := by
  refine ⟨rfl, by simp; omega, fun _ => ⟨a, rfl, fun j p hj => ⟨[.string p], rfl, rfl, fun i u hu => ?_⟩⟩⟩
  have hj1 := (List.getElem?_eq_some_iff.1 hj).1
  simp at hj1
  have e : ss.getD j ByteArray.empty = p := by
    rw [List.getElem?_take_of_lt (by omega)] at hj
    rw [List.getD_eq_getElem?_getD, hj]; rfl
  have hi : i = 0 := by
    have := (List.getElem?_eq_some_iff.1 hu).1
    simpa using this
  subst hi
  have hu' : Value.string p = u := by simpa using hu
  subst hu'
  have := hc j (by omega)
  rw [e] at this
  show w.cell? (a.add (j * 1 + 0)) = _
  simpa using this
theorem open_strs {H : Type} {enc : TypeId × Value → H} {W : World} {A : Option Addr} {len cap : Nat} {d : DataW H} {p : List MemPlace} (h : DataW.Trod enc Tryz.prog W 0 (fun _ => true) true 22 (.slice A len cap) d p) :
    ∃ l : List ByteArray, l.length = len ∧ len ≤ cap ∧ YtnmelglnkefjfaaGreatDoorW.PrintWords.Kd.string.C W A l.length l := by
  obtain ⟨fuel, hf⟩ := h
  rcases open_strings Tryz.underlying22 Tryz.underlying9 cells_str hf with ⟨hcs, hx⟩ | ⟨a, len', cap', ss, hcs, _, hl, hm, hz, hx, hcell, hsz⟩
  · have e : Value.slice A len cap = .slice none 0 0 := by have := (show [Value.slice A len cap] = _ from hcs); simpa using this
    cases e
    exact ⟨[], rfl, Nat.le_refl _, rfl, by simp, fun h => absurd h (by simp)⟩
  · have e : Value.slice A len cap = .slice (some a) len' cap' := by have := (show [Value.slice A len cap] = _ from hcs); simpa using this
    cases e
    have hl' : len ≤ ss.length := by rw [hz]; split <;> omega
    have hcap : cap ≤ 9223372036854775807 := by simp only [maxLen] at hm; omega
    exact ⟨ss.take len, by simp; omega, hl, C_strings hl' (by omega) hcell⟩

theorem pt_eq : (Rows.laid_internal_strconv_uint64pow10 : DataW Unit) = Lib.tabData .u64 Lib.pow10Tab := by kernel_rfl
theorem tab_of_laid {W : World} {r : List (String × DataW Unit)} (h : laidMet Tryz.prog (("internal/strconv.uint64pow10", Rows.laid_internal_strconv_uint64pow10) :: r) W) : Lib.TabIs Tryz.prog W "internal/strconv.uint64pow10" .u64 Lib.pow10Tab :=
  Lib.tabIs_of_head (g := 2) (t := 226) (by kernel_rfl) (by kernel_rfl) Tryz.underlying226 Tryz.underlying53 (by kernel_rfl) (by kernel_rfl) (pt_eq ▸ h)

set_option maxRecDepth 100000 in
theorem lifted (os : Os) (started : os.Started) (H : Type) (enc : TypeId × Value → H) :
    ReturnsInHanded {} Tryz.checked os 3 .any (fun w args => (Rows.fnScriptWriteSpec.pre enc Tryz.prog Tryz.f3 Rows.fnScriptWriteRow.domain false w args ∧ laidMetH Tryz.prog Rows.fnScriptWriteRow.laid w) ∧ sizedMet enc Tryz.prog Tryz.f3 (OpenSpec.ofChange Rows.fnScriptWriteSpec) false w args) (Rows.fnScriptWriteSpec.post enc Tryz.prog Tryz.f3 false true false false) := by
  refine returnsInHanded_of_change_and (C := Tryz.checked) (X := fun w _ => laidMetH Tryz.prog Rows.fnScriptWriteRow.laid w) (fun _ _ _ hh h => h.of_heap hh) own started (by kernel_rfl) Tryz.func3
    (ChangeSpec.witness_shaped (enc := enc) (C := Tryz.checked) (os := os) (X := fun w _ => laidMetH Tryz.prog Rows.fnScriptWriteRow.laid w) false (World.laidAll Tryz.prog os Rows.fnScriptWriteRow.laid) #[.string ⟨#[]⟩, .slice none 0 0, .slice none 0 0, .bool false] 8 (World.laidAll_os _ _ _)
      (World.shaped_of_ZipB (by kernel_rfl) (by kernel_rfl)) (by kernel_rfl) (by kernel_rfl) (by kernel_rfl)
      (by rw [MakeChecks.laidMetH_plain _ _ _ (by kernel_rfl)]; exact laidMet_laidAll _ (by kernel_rfl) (by kernel_rfl))) ?_
  intro W base args ds gs before hval0 hW hcnd _ hL hsz0
  have hval : ∀ (j : Nat) t v, Tryz.f3.params[j]? = some t → args[j]? = some v → Value.okWide Tryz.prog W .any base t v := hval0
  have hW' := hW
  obtain ⟨p, q, hA0, hV, rfl, hfz, hnd⟩ := hW
  have hA : DataW.TrodAll enc Tryz.prog W 0 (fun _ => true) true Tryz.f3.params.toList args.toList ds p := hA0
  rw [Tryz.params3] at hA hval
  obtain ⟨v0, vs0, d0, ds0, p0, q0, hargs, rfl, rfl, h0, r0⟩ := trodAll_cons hA
  obtain ⟨v1, vs1, d1, ds1, p1, q1, rfl, rfl, rfl, h1, r1⟩ := trodAll_cons r0
  obtain ⟨v2, vs2, d2, ds2, p2, q2, rfl, rfl, rfl, h2, r2⟩ := trodAll_cons r1
  obtain ⟨v3, vs3, d3, ds3, p3, q3, rfl, rfl, rfl, h3, r3⟩ := trodAll_cons r2
  obtain ⟨rfl, rfl, rfl⟩ := trodAll_nil r3
  obtain rfl : args = #[v0, v1, v2, v3] := by cases args; simp_all
  obtain ⟨rfl, rfl⟩ := trodVars_none hV
  have k0 := h0
  have lt0 : ∀ x ∈ p0, x.block < W.heap.size := by obtain ⟨m, hm⟩ := k0; exact DataW.trod_lt m _ _ _ hm
  have k1 := h1
  have lt1 : ∀ x ∈ p1, x.block < W.heap.size := by obtain ⟨m, hm⟩ := k1; exact DataW.trod_lt m _ _ _ hm
  have k2 := h2
  have lt2 : ∀ x ∈ p2, x.block < W.heap.size := by obtain ⟨m, hm⟩ := k2; exact DataW.trod_lt m _ _ _ hm
  have k3 := h3
  have lt3 : ∀ x ∈ p3, x.block < W.heap.size := by obtain ⟨m, hm⟩ := k3; exact DataW.trod_lt m _ _ _ hm
  obtain ⟨s, rfl⟩ := okWide_string Tryz.underlying9 (hval 0 9 v0 rfl rfl)
  obtain ⟨Ak, lk, ck, rfl⟩ := okWide_slice Tryz.underlying22 (hval 1 22 v1 rfl rfl)
  obtain ⟨Aa, la, ca, rfl⟩ := okWide_slice Tryz.underlying22 (hval 2 22 v2 rfl rfl)
  obtain ⟨wh, rfl⟩ := okWide_bool Tryz.underlying4 (hval 3 4 v3 rfl rfl)
  obtain ⟨ks, rfl, hkc, hC1⟩ := open_strs h1
  obtain ⟨az, rfl, hac, hC2⟩ := open_strs h2
  rw [MakeChecks.laidMetH_plain _ _ _ (by kernel_rfl)] at hL
  have htab := tab_of_laid hL.tail.tail
  clear hA0 hval0
  refine (wr.lw.law_calls W htab wh s Ak Aa ck ca ks az hC1 hC2 hkc hac).mono fun e W' ⟨he, bel⟩ => ?_
  subst he
  exact ⟨_, rfl, _, _, _, [], _, [], hW', trodAll_mk1 (shut_bool Tryz.underlying4 _), (trodAll_cons_mk (Below.trod laidOut (by kernel_rfl) (of_decide_eq_true (by kernel_rfl)) k0 bel lt0) (trodAll_cons_mk (Below.trod laidOut (by kernel_rfl) (of_decide_eq_true (by kernel_rfl)) k1 bel lt1) (trodAll_cons_mk (Below.trod laidOut (by kernel_rfl) (of_decide_eq_true (by kernel_rfl)) k2 bel lt2) (trodAll_cons_mk (Below.trod laidOut (by kernel_rfl) (of_decide_eq_true (by kernel_rfl)) k3 bel lt3) trodAll_mk0)))), rfl, bel.frame _, fun h => by cases h⟩

theorem fnScriptWrite_holds : Rows.FnScriptWriteSaid :=
  OpenClaim.holds_of_wide 3 Tryz.f3 rfl rfl rfl rfl rfl rfl rfl ⟨rfl, rfl, rfl, rfl, rfl⟩ rfl rfl rfl rfl rfl (by kernel_rfl) Tryz.func3 (by kernel_rfl)
    (of_decide_eq_true (by kernel_rfl)) (by unfold Func.isWrapper; first | (rw [if_pos (by decide +kernel)]; kernel_rfl) | (rw [if_neg (by decide +kernel)]; exact ⟨rfl, rfl⟩))
    (fun os started H enc _ => lifted os started H enc)
theorem fnScriptWrite_card : Rows.FnScriptWriteCardSaid :=
  Claim7.holds_tied_plain_at .later [] [.data, .data, .data] true (true, "d90fe33decaf715609fc716e7d340ccea26bc12286beed67c697a168e1cc7807") true fnScriptWrite_holds (fun _ h => by cases h) (by kernel_rfl) (fun _ h => by cases h) fnScriptWrite_row_tie rfl ⟨rfl, rfl⟩ (by kernel_rfl) rfl
    (fun f fn hf hfn => by
      obtain rfl : f = 3 := Option.some.inj ((show Tryz.prog.funcNamed "pub-teleprinter/laws.FnScriptWrite" = some 3 by kernel_rfl).symm.trans hf) |>.symm
      obtain rfl : fn = Tryz.f3 := (Option.some.inj (Tryz.func3.symm.trans hfn)).symm
      exact ⟨by kernel_rfl, fun j t ht => by
        rw [Tryz.params3] at ht
        have hm : t ∈ [9, 22, 22, 4] := by simpa using Array.mem_of_getElem? ht
        have hall : ([9, 22, 22, 4].all fun u => !Tryz.prog.wantsStandIn u) = true := by kernel_rfl
        exact (show Tryz.prog.wantsStandIn t = false by simpa using List.all_eq_true.1 hall t hm)⟩)
    (by kernel_rfl)
#print axioms fnScriptWrite_holds
#print axioms fnScriptWrite_card
end Go.Proofs.YtnmelglnkefjfaaGreatDoor.rowFnScriptWrite
