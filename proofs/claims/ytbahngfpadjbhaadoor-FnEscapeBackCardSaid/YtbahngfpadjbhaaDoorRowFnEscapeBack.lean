/- FnEscapeBack: the row; its card. -/
import Derived.Test.YtbahngfpadjbhaaDoorRows
import Derived.Test.YtbahngfpadjbhaaDoorCards
import Derived.Test.YtbahngfpadjbhaaDoorTie
import Derived.Test.YtbahngfpadjbhaaDoorGx
import Derived.Lib.LaidU8T
import Derived.PinnedBridge
import Derived.Ground.NamesProg
import Derived.WalkKit
import Derived.ProofKit
import Derived.OpenShut
import Derived.ShutString
import Derived.ChangeOld
import Derived.Below
import Derived.Lib.SmallJoins
import Derived.SliceStrings
import Derived.LaidMore
import Derived.Lay
import Derived.SevenTiedAt
import Derived.Stop.Joined
import Derived.Stop.LaidErr
import Derived.MakeChecks
namespace Go.Proofs.YtbahngfpadjbhaaDoor.rowFnEscapeBack
open Go.ChangeShapes Go.WideShapes Go.ChangeAt Go.RowKit Go.Joins
set_option linter.unusedVariables false
theorem own : ownKnob Tryd.prog.godebug = none := by kernel_rfl
theorem laidOut : laidOutB Tryd.prog = true := by kernel_rfl
theorem eofRow (u : TypeId) (h : Tryd.prog.typeName? 3 u = some "*errors.errorString") : u = 89 :=
  typeName_ptr_named (nm := "errors.errorString") (tp := 89) (by kernel_rfl) (by kernel_rfl) (by decide) u h
theorem eof_of_laid {W : World} {r : List (String × DataW Unit)} (h : laidMet Tryd.prog (("io.EOF", Rows.laid_io_EOF) :: r) W) : ∃ ae, W.cell? ⟨2, 0, none⟩ = some (.iface 89 (.pointer (some ae))) ∧ 2 < W.heap.size := by
  obtain ⟨a, s, h1, _⟩ := laid_sentinel (g := 2) (ti := 42) (tp := 89) (te := 91) (ts := 9) h (by kernel_rfl) (by kernel_rfl) Tryd.underlying42 eofRow Tryd.underlying89 Tryd.underlying91 rfl rfl Tryd.underlying9 (by kernel_rfl) (by kernel_rfl)
  have h2 := World.var?_cell (show Tryd.prog.globalNamed "io.EOF" = some 2 by kernel_rfl) h1 0
  have h3 : W.cell? ⟨2, 0, none⟩ = some (.iface 89 (.pointer (some a))) := by simpa using h2
  refine ⟨a, h3, ?_⟩
  rcases Nat.lt_or_ge 2 W.heap.size with h' | h'
  · exact h'
  · simp [World.cell?, Array.getElem?_eq_none h'] at h3

def ren : Go.Shelf.Ren := { t := fun i => if i = 5 then 5 else if i = 119 then 63 else if i = 138 then 83 else 84, g := fun i => if i = 3 then 0 else 1, f := fun _ => 0 }
theorem acc_eq : (Rows.laid_unicode_utf8_acceptRanges : DataW Unit) = Lib.acceptData := by kernel_rfl
theorem fst_eq : (Rows.laid_unicode_utf8_first : DataW Unit) = Lib.firstData := Go.Pinned.utf8First_eq
theorem tabs_of_laid {W : World} {l : List (String × DataW Unit)} (h : laidMet Tryd.prog l W) (h1 : ("unicode/utf8.first", Rows.laid_unicode_utf8_first) ∈ l) (h2 : ("unicode/utf8.acceptRanges", (Rows.laid_unicode_utf8_acceptRanges : DataW Unit)) ∈ l) : Lib.Utf8Tabs 0 1 W :=
  utf8Tabs_of_readsT (ρ := ren) ⟨by kernel_rfl, by kernel_rfl, by kernel_rfl, by kernel_rfl⟩ ⟨by kernel_rfl, by kernel_rfl, by kernel_rfl, by kernel_rfl, by kernel_rfl, by kernel_rfl, by kernel_rfl⟩ (fst_eq ▸ Lib.laidMet.reads h h1) (acc_eq ▸ Lib.laidMet.reads h h2)

set_option maxRecDepth 100000 in
theorem lifted (os : Os) (started : os.Started) (H : Type) (enc : TypeId × Value → H) :
    ReturnsInHanded {} Tryd.checked os 4 .any (fun w args => (Rows.fnEscapeBackSpec.pre enc Tryd.prog Tryd.f4 Rows.fnEscapeBackRow.domain false w args ∧ laidMetH Tryd.prog Rows.fnEscapeBackRow.laid w) ∧ sizedMet enc Tryd.prog Tryd.f4 (OpenSpec.ofChange Rows.fnEscapeBackSpec) false w args) (Rows.fnEscapeBackSpec.post enc Tryd.prog Tryd.f4 false true false false) := by
  refine returnsInHanded_of_change_and (C := Tryd.checked) (X := fun w _ => laidMetH Tryd.prog Rows.fnEscapeBackRow.laid w) (fun _ _ _ hh h => h.of_heap hh) own started (by kernel_rfl) Tryd.func4
    (ChangeSpec.witness_shaped (enc := enc) (C := Tryd.checked) (os := os) (X := fun w _ => laidMetH Tryd.prog Rows.fnEscapeBackRow.laid w) false (World.laidAll Tryd.prog os Rows.fnEscapeBackRow.laid) #[.int .i64 0, .string ⟨#[]⟩, .int .u8 0, .string ⟨#[]⟩] 8 (World.laidAll_os _ _ _)
      (World.shaped_of_ZipB (by kernel_rfl) (by kernel_rfl)) (by kernel_rfl) (by kernel_rfl) (by kernel_rfl)
      (by rw [MakeChecks.laidMetH_plain _ _ _ (by kernel_rfl)]; exact laidMet_laidAll _ (by kernel_rfl) (by kernel_rfl))) ?_
  intro W base args ds gs before hval0 hW hcnd _ hL hsz0
  have hval : ∀ (j : Nat) t v, Tryd.f4.params[j]? = some t → args[j]? = some v → Value.okWide Tryd.prog W .any base t v := hval0
  have hW' := hW
  obtain ⟨p, q, hA0, hV, rfl, hfz, hnd⟩ := hW
  have hA : DataW.TrodAll enc Tryd.prog W 0 (fun _ => true) true Tryd.f4.params.toList args.toList ds p := hA0
  rw [Tryd.params4] at hA hval
  obtain ⟨v0, vs0, d0, ds0, p0, q0, hargs, rfl, rfl, h0, r0⟩ := trodAll_cons hA
  obtain ⟨v1, vs1, d1, ds1, p1, q1, rfl, rfl, rfl, h1, r1⟩ := trodAll_cons r0
  obtain ⟨v2, vs2, d2, ds2, p2, q2, rfl, rfl, rfl, h2, r2⟩ := trodAll_cons r1
  obtain ⟨v3, vs3, d3, ds3, p3, q3, rfl, rfl, rfl, h3, r3⟩ := trodAll_cons r2
  obtain ⟨rfl, rfl, rfl⟩ := trodAll_nil r3
  obtain rfl : args = #[v0, v1, v2, v3] := by cases args; simp_all
  obtain ⟨rfl, rfl⟩ := trodVars_none hV
  have k0 := h0
  have lt0 : ∀ x ∈ p0, x.block < W.heap.size := by obtain ⟨m, hm⟩ := k0; exact DataW.trod_lt m _ _ _ hm
  have k1 := h1
  have lt1 : ∀ x ∈ p1, x.block < W.heap.size := by obtain ⟨m, hm⟩ := k1; exact DataW.trod_lt m _ _ _ hm
  have k2 := h2
  have lt2 : ∀ x ∈ p2, x.block < W.heap.size := by obtain ⟨m, hm⟩ := k2; exact DataW.trod_lt m _ _ _ hm
  have k3 := h3
  have lt3 : ∀ x ∈ p3, x.block < W.heap.size := by obtain ⟨m, hm⟩ := k3; exact DataW.trod_lt m _ _ _ hm
  obtain ⟨k, rfl⟩ := okWide_int Tryd.underlying3 (hval 0 3 v0 rfl rfl)
  obtain ⟨s, rfl⟩ := okWide_string Tryd.underlying9 (hval 1 9 v1 rfl rfl)
  obtain ⟨c, rfl⟩ := okWide_int Tryd.underlying5 (hval 2 5 v2 rfl rfl)
  obtain ⟨t, rfl⟩ := okWide_string Tryd.underlying9 (hval 3 9 v3 rfl rfl)
  rw [MakeChecks.laidMetH_plain _ _ _ (by kernel_rfl)] at hL
  have htab := tabs_of_laid hL (.tail _ (.tail _ (.tail _ (.tail _ (.tail _ (.tail _ (.tail _ (.head _)))))))) (.head _)
  obtain ⟨ae, hE, hlt⟩ := eof_of_laid hL.tail
  clear hA0 hval0
  refine (dec.gx.law_ W k s c t htab ae hE hlt).mono fun e W' ⟨he, bel⟩ => ?_
  subst he
  exact ⟨_, rfl, _, _, _, [], _, [], hW', trodAll_mk1 (shut_bool Tryd.underlying4 _), (trodAll_cons_mk (Below.trod laidOut (by kernel_rfl) (of_decide_eq_true (by kernel_rfl)) k0 bel lt0) (trodAll_cons_mk (Below.trod laidOut (by kernel_rfl) (of_decide_eq_true (by kernel_rfl)) k1 bel lt1) (trodAll_cons_mk (Below.trod laidOut (by kernel_rfl) (of_decide_eq_true (by kernel_rfl)) k2 bel lt2) (trodAll_cons_mk (Below.trod laidOut (by kernel_rfl) (of_decide_eq_true (by kernel_rfl)) k3 bel lt3) trodAll_mk0)))), rfl, bel.frame _, fun h => by cases h⟩

theorem fnEscapeBack_holds : Rows.FnEscapeBackSaid :=
  OpenClaim.holds_of_wide 4 Tryd.f4 rfl rfl rfl rfl rfl rfl rfl ⟨rfl, rfl, rfl, rfl, rfl⟩ rfl rfl rfl rfl rfl (by kernel_rfl) Tryd.func4 (by kernel_rfl)
    (of_decide_eq_true (by kernel_rfl)) (by unfold Func.isWrapper; first | (rw [if_pos (by decide +kernel)]; kernel_rfl) | (rw [if_neg (by decide +kernel)]; exact ⟨rfl, rfl⟩))
    (fun os started H enc _ => lifted os started H enc)
theorem fnEscapeBack_card : Rows.FnEscapeBackCardSaid :=
  Claim7.holds_tied_plain_at .later [] [.data, .sentinel, .pinned, .pinned, .pinned, .pinned, .pinned, .pinned] true (true, "91d052f8e907a8399c6effb494b4c52990f7f0aea8489e77ae99dcabb60f389d") true fnEscapeBack_holds (fun _ h => by cases h) (by kernel_rfl) (fun _ h => by cases h) fnEscapeBack_row_tie rfl ⟨rfl, rfl⟩ (by kernel_rfl) rfl
    (fun f fn hf hfn => by
      obtain rfl : f = 4 := Option.some.inj ((show Tryd.prog.funcNamed "pub-teleprinter/laws.FnEscapeBack" = some 4 by kernel_rfl).symm.trans hf) |>.symm
      obtain rfl : fn = Tryd.f4 := (Option.some.inj (Tryd.func4.symm.trans hfn)).symm
      exact ⟨by kernel_rfl, fun j t ht => by
        rw [Tryd.params4] at ht
        have hm : t ∈ [3, 9, 5, 9] := by simpa using Array.mem_of_getElem? ht
        have hall : ([3, 9, 5, 9].all fun u => !Tryd.prog.wantsStandIn u) = true := by kernel_rfl
        exact (show Tryd.prog.wantsStandIn t = false by simpa using List.all_eq_true.1 hall t hm)⟩)
    (by kernel_rfl)
#print axioms fnEscapeBack_holds
#print axioms fnEscapeBack_card
end Go.Proofs.YtbahngfpadjbhaaDoor.rowFnEscapeBack
