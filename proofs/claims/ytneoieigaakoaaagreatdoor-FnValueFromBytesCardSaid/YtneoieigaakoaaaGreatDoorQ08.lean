/- The proof of laws.FnValueFromBytes: a value of a kind is read from any bytes as the rules of its kind say, or refused; what is too great is told so. Conditions: those of the given row (the listed variables read as laid). -/
import Derived.Test.YtneoieigaakoaaaGreatDoorRows
import Derived.Test.YtneoieigaakoaaaGreatDoorCards
import Derived.Test.YtneoieigaakoaaaGreatDoorTie
import Derived.Test.YtneoieigaakoaaaGreatDoorQ07
import Derived.Lib.LaidU8T
import Derived.Lib.LaidTab
import Derived.PinnedBridge
import Derived.Ground.NamesProg
import Derived.WalkKit
import Derived.ProofKit
import Derived.OpenShut
import Derived.ShutString
import Derived.ChangeOld
import Derived.Below
import Derived.Lib.SmallJoins
import Derived.SliceStrings
import Derived.LaidMore
import Derived.Lay
import Derived.SevenTiedAt
import Derived.Stop.Joined
import Derived.Stop.LaidErr
import Derived.MakeChecks
import Derived.Test.YtneoieigaakoaaaGreatDoorQ02
set_option linter.unusedVariables false
set_option linter.unusedSimpArgs false
section
namespace Go.Proofs.YtneoieigaakoaaaGreatDoor.rowFnValueFromBytes
open Go.Proofs.YtneoieigaakoaaaGreatDoor.fx
open Go.ChangeShapes Go.WideShapes Go.ChangeAt Go.RowKit Go.Joins
theorem own : ownKnob Tryz.prog.godebug = none := by kernel_rfl
theorem laidOut : laidOutB Tryz.prog = true := by kernel_rfl
theorem rows_lt : (Go.Pinned.pow10Rows.all fun x => decide (x.1 < 18446744073709551616) && decide (x.2 < 18446744073709551616)) = true := by kernel_rfl
theorem pm_cells : Tryz.prog.cellsOf 143 = 2 := by kernel_rfl
theorem u64_cells : Tryz.prog.cellsOf 22 = 1 := by kernel_rfl
theorem lt_of_cell {W : World} {a : Addr} {v : Value} (h : W.cell? a = some v) : a.block < W.heap.size := by
 rcases Nat.lt_or_ge a.block W.heap.size with h' | h'
 ·
  exact h'
 ·
  obtain ⟨b, o, p⟩ := a
  simp only at h'
  simp [World.cell?, Array.getElem?_eq_none h'] at h
theorem ptab_of_laid {W : World} {l : List (String × DataW Unit)} (h : laidMet Tryz.prog l W) (hm : ("internal/strconv.pow10Tab", (Go.Pinned.pow10Tab : DataW Unit)) ∈ l) : fz.PTab 13 W.heap.size W := by
 have key : ∀ i, i < 696 → W.cell? ⟨13, i * 2, none⟩ = some (.int .u64 ((fz.tHi i).toNat : Int)) ∧ W.cell? ⟨13, i * 2 + 1, none⟩ = some (.int .u64 ((fz.tLo i).toNat : Int)) := by
  intro i hi
  obtain ⟨g, t, cs, fuel, p, hg, hty, hvar, hd⟩ := Lib.laidMet.reads h hm
  obtain rfl := Option.some.inj ((show Tryz.prog.globalNamed "internal/strconv.pow10Tab" = some 13 by kernel_rfl).symm.trans hg)
  obtain rfl := Option.some.inj ((show (Tryz.prog.globals[13]?).map (·.type) = some 144 by kernel_rfl).symm.trans hty)
  unfold Go.Pinned.pow10Tab at hd
  obtain ⟨fuel', d, q, hdi, he⟩ := Lib.array_elem Tryz.underlying144 hd i hi
  rw [List.getElem?_map] at hdi
  obtain ⟨x, hx, rfl⟩ := Option.map_eq_some_iff.1 hdi
  rw [pm_cells] at he
  have hcs := Lib.ints_of_struct (zs := [(x.1 : Int), (x.2 : Int)]) Tryz.underlying143 (fun j f hj => by
   match j, hj with
   | 0, hj => simp at hj; subst hj; exact ⟨Tryz.underlying22, rfl, u64_cells⟩
   | 1, hj => simp at hj; subst hj; exact ⟨Tryz.underlying22, rfl, u64_cells⟩
   | j + 2, hj => simp at hj) (by rw [pm_cells]; rfl) he
  have e0 := congrArg (·[0]?) hcs
  have e1 := congrArg (·[1]?) hcs
  simp only [List.getElem?_take, List.getElem?_drop] at e0 e1
  have hr := List.all_eq_true.1 rows_lt x (List.mem_of_getElem? hx)
  simp only [Bool.and_eq_true, decide_eq_true_eq] at hr
  have hrow : fz.rowT i = x := by unfold fz.rowT; rw [List.getD_eq_getElem?_getD, hx]; rfl
  have h1 : ((fz.tHi i).toNat : Int) = (x.1 : Int) := by unfold fz.tHi; rw [hrow, BitVec.toNat_ofNat, Nat.mod_eq_of_lt hr.1]
  have h2 : ((fz.tLo i).toNat : Int) = (x.2 : Int) := by unfold fz.tLo; rw [hrow, BitVec.toNat_ofNat, Nat.mod_eq_of_lt hr.2]
  rw [h1, h2]
  constructor
  ·
   rw [World.var?_cell hg hvar (i * 2), ← Array.getElem?_toList]
   simpa using e0
  ·
   rw [World.var?_cell hg hvar (i * 2 + 1), ← Array.getElem?_toList]
   simpa using e1
 exact ⟨lt_of_cell (key 0 (by decide)).1, key⟩
theorem eofRow (u : TypeId) (h : Tryz.prog.typeName? 3 u = some "*errors.errorString") : u = 79 :=
 typeName_ptr_named (nm := "errors.errorString") (tp := 79) (by kernel_rfl) (by kernel_rfl) (by decide) u h
def ren : Go.Shelf.Ren := { t := fun i => if i = 5 then 5 else if i = 119 then 83 else if i = 138 then 85 else 86, g := fun i => if i = 3 then 4 else 5, f := fun _ => 0 }
theorem acc_eq : (Rows.laid_unicode_utf8_acceptRanges : DataW Unit) = Lib.acceptData := by kernel_rfl
theorem fst_eq : (Rows.laid_unicode_utf8_first : DataW Unit) = Lib.firstData := Go.Pinned.utf8First_eq
theorem p10_eq : (Rows.laid_internal_strconv_float64pow10 : DataW Unit) = .slice (pf.p10s.map fun b => .lit (.float .f64 b)) [] := by kernel_rfl
theorem pwt_eq : (Rows.laid_internal_strconv_powtab : DataW Unit) = .slice (pf.pwts.map fun z => .lit (.int .i64 z)) [] := by kernel_rfl
theorem inf_eq : (Rows.laid_internal_strconv_float64info : DataW Unit) = .agg [.lit (.int .u64 52), .lit (.int .u64 11), .lit (.int .i64 (-1023))] := rfl
theorem inf3_eq : (Rows.laid_internal_strconv_float32info : DataW Unit) = .agg [.lit (.int .u64 23), .lit (.int .u64 8), .lit (.int .i64 (-127))] := rfl
theorem c_f64 : Tryz.prog.cellsOf 23 = 1 := by kernel_rfl
theorem c_it : Tryz.prog.cellsOf 3 = 1 := by kernel_rfl
theorem c_u : Tryz.prog.cellsOf 87 = 1 := by kernel_rfl
theorem c_st : Tryz.prog.cellsOf 9 = 1 := by kernel_rfl
theorem c_lc : Tryz.prog.cellsOf 154 = 2 := by kernel_rfl
theorem ew_of {W : World} (hL : laidMet Tryz.prog Rows.fnValueFromBytesRow.laid W) : ∃ as_ ar ao ai, pf.vr.EW W.heap.size W as_ ar ao ai := by
 obtain ⟨as_, s1, hs1, hs2, hs3, hs4⟩ := (lv.sent_at (g := 6) (ti := 35) (tp := 79) (te := 81) (ts := 9) hL (.tail _ (.tail _ (.tail _ (.tail _ (.tail _ (.tail _ (.tail _ (.tail _ (.tail _ (.tail _ (.tail _ (.head _)))))))))))) (by kernel_rfl) (by kernel_rfl) Tryz.underlying35 eofRow Tryz.underlying79 Tryz.underlying81 rfl rfl Tryz.underlying9 (by kernel_rfl) (by kernel_rfl))
 obtain ⟨ar, s2, hr1, hr2, hr3, hr4⟩ := (lv.sent_at (g := 1) (ti := 35) (tp := 79) (te := 81) (ts := 9) hL (.tail _ (.tail _ (.tail _ (.tail _ (.tail _ (.tail _ (.tail _ (.tail _ (.tail _ (.tail _ (.head _))))))))))) (by kernel_rfl) (by kernel_rfl) Tryz.underlying35 eofRow Tryz.underlying79 Tryz.underlying81 rfl rfl Tryz.underlying9 (by kernel_rfl) (by kernel_rfl))
 obtain ⟨ao, s3, ho1, ho2, ho3, ho4⟩ := (lv.sent_at (g := 0) (ti := 35) (tp := 79) (te := 81) (ts := 9) hL (.tail _ (.tail _ (.tail _ (.tail _ (.tail _ (.tail _ (.tail _ (.tail _ (.tail _ (.tail _ (.tail _ (.tail _ (.tail _ (.head _)))))))))))))) (by kernel_rfl) (by kernel_rfl) Tryz.underlying35 eofRow Tryz.underlying79 Tryz.underlying81 rfl rfl Tryz.underlying9 (by kernel_rfl) (by kernel_rfl))
 obtain ⟨ai, s4, hi1, hi2, hi3, hi4⟩ := (lv.sent_at (g := 3) (ti := 35) (tp := 79) (te := 81) (ts := 9) hL (.tail _ (.tail _ (.tail _ (.tail _ (.tail _ (.tail _ (.tail _ (.tail _ (.tail _ (.tail _ (.tail _ (.tail _ (.head _))))))))))))) (by kernel_rfl) (by kernel_rfl) Tryz.underlying35 eofRow Tryz.underlying79 Tryz.underlying81 rfl rfl Tryz.underlying9 (by kernel_rfl) (by kernel_rfl))
 refine ⟨as_, ar, ao, ai, hs1, hr1, ho1, hi1, hs4, hr4, ho4, fun e => ?_⟩
 subst e
 have e2 := hs2.symm.trans hr2
 simp only [Option.some.injEq, Value.string.injEq] at e2
 subst e2
 have e3 := hs3.symm.trans hr3
 revert e3
 decide
theorem p10_of {W : World} (hL : laidMet Tryz.prog Rows.fnValueFromBytesRow.laid W) : ∃ gt c ot, W.cell? ⟨12, 0, none⟩ = some (.slice (some ⟨gt, ot, none⟩) 23 c) ∧ 12 < W.heap.size ∧ gt < W.heap.size ∧ ∀ i, i < 23 → W.cell? ⟨gt, ot + i, none⟩ = some (.float .f64 (pf.p10 i)) := by
 obtain ⟨R, c, ot, h1, h2, h3, h4⟩ := lv.slice_at (g := 12) (t := 139) (e := 23) (by kernel_rfl) (by kernel_rfl) Tryz.underlying139 (by rw [c_f64]; decide) (by decide) (p10_eq ▸ Lib.laidMet.reads hL (.tail _ (.tail _ (.tail _ (.tail _ (.tail _ (.tail _ (.head _))))))))
 refine ⟨R, c, ot, h1, h2, h3, fun i hi => ?_⟩
 obtain ⟨ce, fuel, dd, q, e1, e2, e3⟩ := h4 i (by rw [List.length_map]; exact hi)
 obtain ⟨b, e4, e5⟩ := lv.trod_flt Tryz.underlying23 e2
 have e6 := e3 0 (by rw [c_f64]; decide)
 rw [c_f64, Nat.mul_one, Nat.add_zero] at e6
 rw [e6, e4]
 rw [List.getElem?_map] at e1
 obtain ⟨x, hx, hx2⟩ := Option.map_eq_some_iff.1 e1
 have e7 : dd = .lit (.float .f64 b) := congrArg Prod.fst e5
 rw [e7] at hx2
 simp only [DataW.lit.injEq, Lit.float.injEq, true_and] at hx2
 unfold pf.p10
 rw [List.getD_eq_getElem?_getD, hx, hx2]
 rfl
theorem pwt_of {W : World} (hL : laidMet Tryz.prog Rows.fnValueFromBytesRow.laid W) : ∃ gt c ot, W.cell? ⟨11, 0, none⟩ = some (.slice (some ⟨gt, ot, none⟩) 9 c) ∧ 11 < W.heap.size ∧ gt < W.heap.size ∧ ∀ i, i < 9 → W.cell? ⟨gt, ot + i, none⟩ = some (.int .i64 (pf.pwt i)) := by
 obtain ⟨R, c, ot, h1, h2, h3, h4⟩ := lv.slice_at (g := 11) (t := 137) (e := 3) (by kernel_rfl) (by kernel_rfl) Tryz.underlying137 (by rw [c_it]; decide) (by decide) (pwt_eq ▸ Lib.laidMet.reads hL (.tail _ (.tail _ (.tail _ (.tail _ (.tail _ (.head _)))))))
 refine ⟨R, c, ot, h1, h2, h3, fun i hi => ?_⟩
 obtain ⟨ce, fuel, dd, q, e1, e2, e3⟩ := h4 i (by rw [List.length_map]; exact hi)
 obtain ⟨b, e4, e5, _⟩ := DataW.trod_int Tryz.underlying3 e2
 have e6 := e3 0 (by rw [c_it]; decide)
 rw [c_it, Nat.mul_one, Nat.add_zero] at e6
 rw [e6, e4]
 rw [List.getElem?_map] at e1
 obtain ⟨x, hx, hx2⟩ := Option.map_eq_some_iff.1 e1
 have e7 : dd = .lit (.int .i64 b) := congrArg Prod.fst e5
 rw [e7] at hx2
 simp only [DataW.lit.injEq, Lit.int.injEq, true_and] at hx2
 unfold pf.pwt
 rw [List.getD_eq_getElem?_getD, hx, hx2]
 rfl
theorem pl_of {W : World} (hL : laidMet Tryz.prog Rows.fnValueFromBytesRow.laid W) : pf.PL 14 W.heap.size W := by
 obtain ⟨R, c, ot, h1, h2, h3, h4⟩ := lv.slice_at (g := 14) (t := 155) (e := 154) (ds := Go.Pinned.cheatRows.map fun x => .agg [.lit (.int .i64 x.1), .lit (.string x.2)]) (by kernel_rfl) (by kernel_rfl) Tryz.underlying155 (by rw [c_lc]; decide) (by rw [List.length_map]; decide) (Lib.laidMet.reads hL (.tail _ (.tail _ (.tail _ (.tail _ (.tail _ (.tail _ (.tail _ (.tail _ (.tail _ (.tail _ (.tail _ (.tail _ (.tail _ (.tail _ (.head _))))))))))))))))
 have hlen : Go.Pinned.cheatRows.length = 61 := by decide
 refine ⟨R, c, ot, by rw [List.length_map, hlen] at h1; exact h1, h2, h3, fun i hi => ?_⟩
 obtain ⟨ce, fuel, dd, q, e1, e2, e3⟩ := h4 i (by rw [List.length_map, hlen]; exact hi)
 rw [List.getElem?_map] at e1
 obtain ⟨x, hx, rfl⟩ := Option.map_eq_some_iff.1 e1
 have hx0 : Go.Pinned.cheatRows.getD i (0, []) = x := by rw [List.getD_eq_getElem?_getD, hx]; rfl
 obtain ⟨f1, d1, q1, a1, a2⟩ := lv.field_at Tryz.underlying154 e2 (i := 0) rfl
 obtain ⟨f2, d2, q2, b1, b2⟩ := lv.field_at Tryz.underlying154 e2 (i := 1) rfl
 obtain rfl := Option.some.inj ((show some _ = some d1 from a1))
 obtain rfl := Option.some.inj ((show some _ = some d2 from b1))
 have a3 : DataW.trod (fun _ => ()) Tryz.prog W 0 (fun _ => true) false f1 3 ((ce.drop 0).take (Tryz.prog.cellsOf 3)) = some (.lit (.int .i64 x.1), q1) := a2
 rw [c_it] at a3
 have c0 := lv.int_cell Tryz.underlying3 a3
 have b3 : DataW.trod (fun _ => ()) Tryz.prog W 0 (fun _ => true) false f2 9 ((ce.drop 1).take (Tryz.prog.cellsOf 9)) = some (.lit (.string x.2), q2) := b2
 rw [c_st] at b3
 have c1 := lv.str_cell Tryz.underlying9 b3
 have k0 := e3 0 (by rw [c_lc]; decide)
 have k1 := e3 1 (by rw [c_lc]; decide)
 rw [c_lc] at k0 k1
 unfold pf.lcN pf.lcS
 rw [hx0]
 exact ⟨k0.trans c0, k1.trans c1⟩
theorem pw_of {W : World} (hL : laidMet Tryz.prog Rows.fnValueFromBytesRow.laid W) : pf.PW 8 9 7 12 11 14 W.heap.size W := by
 have i0 : W.cell? ⟨9, 0, none⟩ = some (.int .u64 52) := lv.struct_at (t := 103) (by kernel_rfl) (by kernel_rfl) Tryz.underlying103 (inf_eq ▸ Lib.laidMet.reads hL (.tail _ (.tail _ (.tail _ (.head _))))) (i := 0) rfl rfl Tryz.underlying87 c_u
 have i1 : W.cell? ⟨9, 1, none⟩ = some (.int .u64 11) := lv.struct_at (t := 103) (by kernel_rfl) (by kernel_rfl) Tryz.underlying103 (inf_eq ▸ Lib.laidMet.reads hL (.tail _ (.tail _ (.tail _ (.head _))))) (i := 1) rfl rfl Tryz.underlying87 c_u
 have i2 : W.cell? ⟨9, 2, none⟩ = some (.int .i64 (-1023)) := lv.struct_at (t := 103) (by kernel_rfl) (by kernel_rfl) Tryz.underlying103 (inf_eq ▸ Lib.laidMet.reads hL (.tail _ (.tail _ (.tail _ (.head _))))) (i := 2) rfl rfl Tryz.underlying3 c_it
 have j0 : W.cell? ⟨7, 0, none⟩ = some (.int .u64 23) := lv.struct_at (t := 103) (by kernel_rfl) (by kernel_rfl) Tryz.underlying103 (inf3_eq ▸ Lib.laidMet.reads hL (.tail _ (.tail _ (.head _)))) (i := 0) rfl rfl Tryz.underlying87 c_u
 exact ⟨lv.glob_unfrozen hL (.tail _ (.tail _ (.tail _ (.head _)))) (by kernel_rfl) i0, ⟨lv.glob_unfrozen hL (.tail _ (.tail _ (.head _))) (by kernel_rfl) j0, lv.lt_of_cell j0⟩,
  lv.bool_at (t := 4) (by kernel_rfl) (by kernel_rfl) Tryz.underlying4 (Lib.laidMet.reads hL (.tail _ (.tail _ (.tail _ (.tail _ (.head _)))))), ⟨i0, i1, i2, lv.lt_of_cell i0⟩, p10_of hL, pwt_of hL⟩
theorem tabs_of {W : World} (hL : laidMet Tryz.prog Rows.fnValueFromBytesRow.laid W) : Lib.Utf8Tabs 4 5 W :=
 utf8Tabs_of_readsT (ρ := ren) ⟨by kernel_rfl, by kernel_rfl, by kernel_rfl, by kernel_rfl⟩ ⟨by kernel_rfl, by kernel_rfl, by kernel_rfl, by kernel_rfl, by kernel_rfl, by kernel_rfl, by kernel_rfl⟩ (fst_eq ▸ Lib.laidMet.reads hL (.tail _ (.tail _ (.tail _ (.tail _ (.tail _ (.tail _ (.tail _ (.tail _ (.tail _ (.tail _ (.tail _ (.tail _ (.tail _ (.tail _ (.tail _ (.tail _ (.head _)))))))))))))))))) (acc_eq ▸ Lib.laidMet.reads hL (.tail _ (.tail _ (.tail _ (.tail _ (.tail _ (.tail _ (.tail _ (.tail _ (.tail _ (.head _)))))))))))
theorem tabs_at {W : World} (hL : laidMet Tryz.prog Rows.fnValueFromBytesRow.laid W) (w : World) (L : List (Nat × Obj)) (H : HHW.HH W.heap.size W w L) : Lib.Utf8Tabs 4 5 w :=
 ⟨fun c hc => (H.old (lv.lt_of_cell ((tabs_of hL).1 c hc))).trans ((tabs_of hL).1 c hc), fun i hi => ⟨(H.old (lv.lt_of_cell ((tabs_of hL).2 i hi).1)).trans ((tabs_of hL).2 i hi).1, (H.old (lv.lt_of_cell ((tabs_of hL).2 i hi).2)).trans ((tabs_of hL).2 i hi).2⟩⟩
set_option maxHeartbeats 4000000 in
set_option maxRecDepth 100000 in
theorem lifted (os : Os) (started : os.Started) (H : Type) (enc : TypeId × Value → H) :
  ReturnsInHanded {} Tryz.checked os 3 .any (fun w args => (Rows.fnValueFromBytesSpec.pre enc Tryz.prog Tryz.f3 Rows.fnValueFromBytesRow.domain false w args ∧ laidMetH Tryz.prog Rows.fnValueFromBytesRow.laid w) ∧ sizedMet enc Tryz.prog Tryz.f3 (OpenSpec.ofChange Rows.fnValueFromBytesSpec) false w args) (Rows.fnValueFromBytesSpec.post enc Tryz.prog Tryz.f3 false true false false) := by
 refine returnsInHanded_of_change_and (C := Tryz.checked) (X := fun w _ => laidMetH Tryz.prog Rows.fnValueFromBytesRow.laid w) (fun _ _ _ hh h => h.of_heap hh) own started (by kernel_rfl) Tryz.func3
  (ChangeSpec.witness_shaped (enc := enc) (C := Tryz.checked) (os := os) (X := fun w _ => laidMetH Tryz.prog Rows.fnValueFromBytesRow.laid w) false (World.laidAll Tryz.prog os Rows.fnValueFromBytesRow.laid) #[.int .i64 0, .string ⟨#[]⟩] 8 (World.laidAll_os _ _ _)
   (World.shaped_of_ZipB (by kernel_rfl) (by kernel_rfl)) (by kernel_rfl) (by kernel_rfl) (by kernel_rfl)
   (by rw [MakeChecks.laidMetH_plain _ _ _ (by kernel_rfl)]; exact laidMet_laidAll _ (by kernel_rfl) (by kernel_rfl))) ?_
 intro W base args ds gs before hval0 hW hcnd _ hL hsz0
 have hval : ∀ (j : Nat) t v, Tryz.f3.params[j]? = some t → args[j]? = some v → Value.okWide Tryz.prog W .any base t v := hval0
 have hW' := hW
 obtain ⟨p, q, hA0, hV, rfl, hfz, hnd⟩ := hW
 have hA : DataW.TrodAll enc Tryz.prog W 0 (fun _ => true) true Tryz.f3.params.toList args.toList ds p := hA0
 rw [Tryz.params3] at hA hval
 obtain ⟨v0, vs0, d0, ds0, p0, q0, hargs, rfl, rfl, h0, r0⟩ := trodAll_cons hA
 obtain ⟨v1, vs1, d1, ds1, p1, q1, rfl, rfl, rfl, h1, r1⟩ := trodAll_cons r0
 obtain ⟨rfl, rfl, rfl⟩ := trodAll_nil r1
 obtain rfl : args = #[v0, v1] := by cases args; simp_all
 obtain ⟨rfl, rfl⟩ := trodVars_none hV
 have k0 := h0
 have lt0 : ∀ x ∈ p0, x.block < W.heap.size := by obtain ⟨m, hm⟩ := k0; exact DataW.trod_lt m _ _ _ hm
 have k1 := h1
 have lt1 : ∀ x ∈ p1, x.block < W.heap.size := by obtain ⟨m, hm⟩ := k1; exact DataW.trod_lt m _ _ _ hm
 obtain ⟨kk, rfl⟩ := okWide_int Tryz.underlying3 (hval 0 3 v0 rfl rfl)
 obtain ⟨s, rfl⟩ := okWide_string Tryz.underlying9 (hval 1 9 v1 rfl rfl)
 rw [MakeChecks.laidMetH_plain _ _ _ (by kernel_rfl)] at hL
 obtain ⟨as_, ar, ao, ai, hE⟩ := ew_of hL
 clear hA0 hval0
 refine (pf.va.law_ W W W.heap.size [] (ptab_of_laid hL (.tail _ (.tail _ (.tail _ (.tail _ (.tail _ (.tail _ (.tail _ (.tail _ (.tail _ (.tail _ (.tail _ (.tail _ (.tail _ (.tail _ (.tail _ (.head _))))))))))))))))) (pw_of hL) (pl_of hL) (tabs_at hL) as_ ar ao ai hE kk s (HHW.HH.start W)).mono fun e W' ⟨he, bel⟩ => ?_
 subst he
 exact ⟨_, rfl, _, _, _, [], _, [], hW', trodAll_mk1 (shut_bool Tryz.underlying4 _), (trodAll_cons_mk (Below.trod laidOut (by kernel_rfl) (of_decide_eq_true (by kernel_rfl)) k0 bel lt0) (trodAll_cons_mk (Below.trod laidOut (by kernel_rfl) (of_decide_eq_true (by kernel_rfl)) k1 bel lt1) trodAll_mk0)), rfl, bel.frame _, fun h => by cases h⟩
theorem fnValueFromBytes_holds : Rows.FnValueFromBytesSaid :=
 OpenClaim.holds_of_wide 3 Tryz.f3 rfl rfl rfl rfl rfl rfl rfl ⟨rfl, rfl, rfl, rfl, rfl⟩ rfl rfl rfl rfl rfl (by kernel_rfl) Tryz.func3 (by kernel_rfl)
  (of_decide_eq_true (by kernel_rfl)) (by unfold Func.isWrapper; first | (rw [if_pos (by decide +kernel)]; kernel_rfl) | (rw [if_neg (by decide +kernel)]; exact ⟨rfl, rfl⟩))
  (fun os started H enc _ => lifted os started H enc)
theorem fnValueFromBytes_card : Rows.FnValueFromBytesCardSaid :=
 Claim7.holds_tied_plain_at .later [] [.data, .data, .widerDeep, .widerDeep, .data, .data, .data, .data, .data, .data, .sentinel, .sentinel, .sentinel, .sentinel, .pinned, .pinned, .pinned] true (true, "0212e7626d4b16419e9d3ad819fb4af556478345829377db27a5a03a94d76448") true fnValueFromBytes_holds (fun _ h => by cases h) (by kernel_rfl) (fun _ h => by cases h) fnValueFromBytes_row_tie rfl ⟨rfl, rfl⟩ (by kernel_rfl) rfl
  (fun f fn hf hfn => by
   obtain rfl : f = 3 := Option.some.inj ((show Tryz.prog.funcNamed "pub-teleprinter/laws.FnValueFromBytes" = some 3 by kernel_rfl).symm.trans hf) |>.symm
   obtain rfl : fn = Tryz.f3 := (Option.some.inj (Tryz.func3.symm.trans hfn)).symm
   exact ⟨by kernel_rfl, fun j t ht => by
    rw [Tryz.params3] at ht
    have hm : t ∈ [3, 9] := by simpa using Array.mem_of_getElem? ht
    have hall : ([3, 9].all fun u => !Tryz.prog.wantsStandIn u) = true := by kernel_rfl
    exact (show Tryz.prog.wantsStandIn t = false by simpa using List.all_eq_true.1 hall t hm)⟩)
  (by kernel_rfl)
end Go.Proofs.YtneoieigaakoaaaGreatDoor.rowFnValueFromBytes
end
