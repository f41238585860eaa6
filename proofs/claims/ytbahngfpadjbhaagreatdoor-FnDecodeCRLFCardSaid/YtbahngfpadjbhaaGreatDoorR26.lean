/- Part of the proof that FnDecodeCRLF answers true at every text, in every world that its card's statement admits; no condition beyond those. -/
import Derived.Test.YtbahngfpadjbhaaGreatDoorRows
import Derived.Test.YtbahngfpadjbhaaGreatDoorCards
import Derived.Test.YtbahngfpadjbhaaGreatDoorTie
import Derived.Test.YtbahngfpadjbhaaGreatDoorR25
import Derived.Lib.LaidU8T
import Derived.PinnedBridge
import Derived.Ground.NamesProg
import Derived.WalkKit
import Derived.ProofKit
import Derived.OpenShut
import Derived.ShutString
import Derived.ChangeOld
import Derived.Below
import Derived.Lib.SmallJoins
import Derived.SliceStrings
import Derived.LaidMore
import Derived.Lay
import Derived.SevenTiedAt
import Derived.Stop.Joined
import Derived.Stop.LaidErr
import Derived.MakeChecks
set_option linter.unusedVariables false
set_option linter.unusedSimpArgs false
section
namespace Go.Proofs.YtbahngfpadjbhaaGreatDoor.rowFnDecodeCRLF
open Go.ChangeShapes Go.WideShapes Go.ChangeAt Go.RowKit Go.Joins
theorem own : ownKnob Tryz.prog.godebug = none := by kernel_rfl
theorem laidOut : laidOutB Tryz.prog = true := by kernel_rfl
theorem eofRow (u : TypeId) (h : Tryz.prog.typeName? 3 u = some "*errors.errorString") : u = 118 :=
 typeName_ptr_named (nm := "errors.errorString") (tp := 118) (by kernel_rfl) (by kernel_rfl) (by decide) u h
theorem eof_of_laid {W : World} {r : List (String × DataW Unit)} (h : laidMet Tryz.prog (("io.EOF", Rows.laid_io_EOF) :: r) W) : ∃ ae, W.cell? ⟨1, 0, none⟩ = some (.iface 118 (.pointer (some ae))) ∧ 1 < W.heap.size := by
 obtain ⟨a, s, h1, _⟩ := laid_sentinel (g := 1) (ti := 51) (tp := 118) (te := 120) (ts := 9) h (by kernel_rfl) (by kernel_rfl) Tryz.underlying51 eofRow Tryz.underlying118 Tryz.underlying120 rfl rfl Tryz.underlying9 (by kernel_rfl) (by kernel_rfl)
 have h2 := World.var?_cell (show Tryz.prog.globalNamed "io.EOF" = some 1 by kernel_rfl) h1 0
 have h3 : W.cell? ⟨1, 0, none⟩ = some (.iface 118 (.pointer (some a))) := by simpa using h2
 refine ⟨a, h3, ?_⟩
 rcases Nat.lt_or_ge 1 W.heap.size with h' | h'
 ·
  exact h'
 ·
  simp [World.cell?, Array.getElem?_eq_none h'] at h3
def ren : Go.Shelf.Ren := { t := fun i => if i = 5 then 5 else if i = 119 then 94 else if i = 138 then 131 else 132, g := fun i => if i = 3 then 2 else 3, f := fun _ => 0 }
theorem acc_eq : (Rows.laid_unicode_utf8_acceptRanges : DataW Unit) = Lib.acceptData := by kernel_rfl
theorem fst_eq : (Rows.laid_unicode_utf8_first : DataW Unit) = Lib.firstData := Go.Pinned.utf8First_eq
theorem tabs_of_laid {W : World} {l : List (String × DataW Unit)} (h : laidMet Tryz.prog l W) (h1 : ("unicode/utf8.first", Rows.laid_unicode_utf8_first) ∈ l) (h2 : ("unicode/utf8.acceptRanges", (Rows.laid_unicode_utf8_acceptRanges : DataW Unit)) ∈ l) : Lib.Utf8Tabs 2 3 W :=
 utf8Tabs_of_readsT (ρ := ren) ⟨by kernel_rfl, by kernel_rfl, by kernel_rfl, by kernel_rfl⟩ ⟨by kernel_rfl, by kernel_rfl, by kernel_rfl, by kernel_rfl, by kernel_rfl, by kernel_rfl, by kernel_rfl⟩ (fst_eq ▸ Lib.laidMet.reads h h1) (acc_eq ▸ Lib.laidMet.reads h h2)
theorem lt_of_cell {W : World} {a : Addr} {v : Value} (h : W.cell? a = some v) : a.block < W.heap.size := by
 rcases Nat.lt_or_ge a.block W.heap.size with h' | h'
 ·
  exact h'
 ·
  obtain ⟨b, o, p⟩ := a
  simp only at h'
  simp [World.cell?, Array.getElem?_eq_none h'] at h
theorem ov_of_laid {W : World} {r : List (String × DataW Unit)} (h : laidMet Tryz.prog (("pub-teleprinter/pub/lineprotocol/lineprotocol.ErrValueOutOfRange", Rows.laid_pub_teleprinter_pub_lineprotocol_lineprotocol_ErrValueOutOfRange) :: r) W) : ∃ a v, W.cell? ⟨0, 0, none⟩ = some (.iface 118 (.pointer (some a))) ∧ 0 < W.heap.size ∧ W.cell? a = some v ∧ a.block < W.heap.size := by
 obtain ⟨a, s, h1, h2, _⟩ := laid_sentinel (g := 0) (ti := 51) (tp := 118) (te := 120) (ts := 9) h (by kernel_rfl) (by kernel_rfl) Tryz.underlying51 eofRow Tryz.underlying118 Tryz.underlying120 rfl rfl Tryz.underlying9 (by kernel_rfl) (by kernel_rfl)
 have h3 := World.var?_cell (show Tryz.prog.globalNamed "pub-teleprinter/pub/lineprotocol/lineprotocol.ErrValueOutOfRange" = some 0 by kernel_rfl) h1 0
 have h4 : W.cell? ⟨0, 0, none⟩ = some (.iface 118 (.pointer (some a))) := by simpa using h3
 exact ⟨a, _, h4, lt_of_cell h4, h2, lt_of_cell h2⟩
set_option maxRecDepth 100000 in
theorem lifted (os : Os) (started : os.Started) (H : Type) (enc : TypeId × Value → H) :
  ReturnsInHanded {} Tryz.checked os 3 .any (fun w args => (Rows.fnDecodeCRLFSpec.pre enc Tryz.prog Tryz.f3 Rows.fnDecodeCRLFRow.domain false w args ∧ laidMetH Tryz.prog Rows.fnDecodeCRLFRow.laid w) ∧ sizedMet enc Tryz.prog Tryz.f3 (OpenSpec.ofChange Rows.fnDecodeCRLFSpec) false w args) (Rows.fnDecodeCRLFSpec.post enc Tryz.prog Tryz.f3 false true false false) := by
 refine returnsInHanded_of_change_and (C := Tryz.checked) (X := fun w _ => laidMetH Tryz.prog Rows.fnDecodeCRLFRow.laid w) (fun _ _ _ hh h => h.of_heap hh) own started (by kernel_rfl) Tryz.func3
  (ChangeSpec.witness_shaped (enc := enc) (C := Tryz.checked) (os := os) (X := fun w _ => laidMetH Tryz.prog Rows.fnDecodeCRLFRow.laid w) false (World.laidAll Tryz.prog os Rows.fnDecodeCRLFRow.laid) #[.string ⟨#[]⟩] 8 (World.laidAll_os _ _ _)
   (World.shaped_of_ZipB (by kernel_rfl) (by kernel_rfl)) (by kernel_rfl) (by kernel_rfl) (by kernel_rfl)
   (by rw [MakeChecks.laidMetH_plain _ _ _ (by kernel_rfl)]; exact laidMet_laidAll _ (by kernel_rfl) (by kernel_rfl))) ?_
 intro W base args ds gs before hval0 hW hcnd _ hL hsz0
 have hval : ∀ (j : Nat) t v, Tryz.f3.params[j]? = some t → args[j]? = some v → Value.okWide Tryz.prog W .any base t v := hval0
 have hW' := hW
 obtain ⟨p, q, hA0, hV, rfl, hfz, hnd⟩ := hW
 have hA : DataW.TrodAll enc Tryz.prog W 0 (fun _ => true) true Tryz.f3.params.toList args.toList ds p := hA0
 rw [Tryz.params3] at hA hval
 obtain ⟨v0, vs0, d0, ds0, p0, q0, hargs, rfl, rfl, h0, r0⟩ := trodAll_cons hA
 obtain ⟨rfl, rfl, rfl⟩ := trodAll_nil r0
 obtain rfl : args = #[v0] := by cases args; simp_all
 obtain ⟨rfl, rfl⟩ := trodVars_none hV
 have k0 := h0
 have lt0 : ∀ x ∈ p0, x.block < W.heap.size := by obtain ⟨m, hm⟩ := k0; exact DataW.trod_lt m _ _ _ hm
 obtain ⟨s, rfl⟩ := okWide_string Tryz.underlying9 (hval 0 9 v0 rfl rfl)
 rw [MakeChecks.laidMetH_plain _ _ _ (by kernel_rfl)] at hL
 have htab := tabs_of_laid hL (.tail _ (.tail _ (.tail _ (.tail _ (.tail _ (.tail _ (.tail _ (.tail _ (.head _))))))))) (.head _)
 obtain ⟨ae, hE, hlt⟩ := eof_of_laid hL.tail
 have hov := ov_of_laid hL.tail.tail
 clear hA0 hval0
 refine (dec.kb.law_ W s ⟨hov, ⟨ae, hE⟩, hlt, htab⟩).mono fun e W' ⟨he, bel⟩ => ?_
 subst he
 exact ⟨_, rfl, _, _, _, [], _, [], hW', trodAll_mk1 (shut_bool Tryz.underlying4 _), (trodAll_cons_mk (Below.trod laidOut (by kernel_rfl) (of_decide_eq_true (by kernel_rfl)) k0 bel lt0) trodAll_mk0), rfl, bel.frame _, fun h => by cases h⟩
theorem fnDecodeCRLF_holds : Rows.FnDecodeCRLFSaid :=
 OpenClaim.holds_of_wide 3 Tryz.f3 rfl rfl rfl rfl rfl rfl rfl ⟨rfl, rfl, rfl, rfl, rfl⟩ rfl rfl rfl rfl rfl (by kernel_rfl) Tryz.func3 (by kernel_rfl)
  (of_decide_eq_true (by kernel_rfl)) (by unfold Func.isWrapper; first | (rw [if_pos (by decide +kernel)]; kernel_rfl) | (rw [if_neg (by decide +kernel)]; exact ⟨rfl, rfl⟩))
  (fun os started H enc _ => lifted os started H enc)
theorem fnDecodeCRLF_card : Rows.FnDecodeCRLFCardSaid :=
 Claim7.holds_tied_plain_at .later [] [.data, .sentinel, .sentinel, .pinned, .pinned, .pinned, .pinned, .pinned, .pinned] true (true, "157b339aa5f7bf35372bf56c3253083332ed39b5f11ab043ea9bb61c79be443d") true fnDecodeCRLF_holds (fun _ h => by cases h) (by kernel_rfl) (fun _ h => by cases h) fnDecodeCRLF_row_tie rfl ⟨rfl, rfl⟩ (by kernel_rfl) rfl
  (fun f fn hf hfn => by
   obtain rfl : f = 3 := Option.some.inj ((show Tryz.prog.funcNamed "pub-teleprinter/laws.FnDecodeCRLF" = some 3 by kernel_rfl).symm.trans hf) |>.symm
   obtain rfl : fn = Tryz.f3 := (Option.some.inj (Tryz.func3.symm.trans hfn)).symm
   exact ⟨by kernel_rfl, fun j t ht => by
    rw [Tryz.params3] at ht
    have hm : t ∈ [9] := by simpa using Array.mem_of_getElem? ht
    have hall : ([9].all fun u => !Tryz.prog.wantsStandIn u) = true := by kernel_rfl
    exact (show Tryz.prog.wantsStandIn t = false by simpa using List.all_eq_true.1 hall t hm)⟩)
  (by kernel_rfl)
end Go.Proofs.YtbahngfpadjbhaaGreatDoor.rowFnDecodeCRLF
end
