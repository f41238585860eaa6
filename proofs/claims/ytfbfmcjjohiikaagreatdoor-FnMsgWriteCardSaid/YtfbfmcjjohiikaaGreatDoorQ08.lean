/- the wire of a message -/
import Derived.Test.YtfbfmcjjohiikaaGreatDoorRows
import Derived.Test.YtfbfmcjjohiikaaGreatDoorCards
import Derived.Test.YtfbfmcjjohiikaaGreatDoorTie
import Derived.Test.YtfbfmcjjohiikaaGreatDoorQ07
import Derived.WalkKit
import Derived.ProofKit
import Derived.OpenShut
import Derived.ShutString
import Derived.ChangeOld
import Derived.Below
import Derived.Lib.SmallJoins
import Derived.SliceStrings
import Derived.LaidMore
import Derived.Lay
import Derived.SevenTiedAt
import Derived.Stop.Joined
import Derived.Stop.LaidErr
import Derived.Lib.LaidTab
import Derived.Lib.LaidU8T
import Derived.MakeChecks
import Derived.Test.YtfbfmcjjohiikaaGreatDoorQ01
set_option linter.unusedVariables false
set_option linter.unusedSimpArgs false
section
namespace Go.Proofs.YtfbfmcjjohiikaaGreatDoor.rowFnMsgWrite
open Go.Proofs.YtfbfmcjjohiikaaGreatDoor.fx
open Go.ChangeShapes Go.WideShapes Go.ChangeAt Go.RowKit Go.Joins
theorem own : ownKnob Tryz.prog.godebug = none := by kernel_rfl
theorem laidOut : laidOutB Tryz.prog = true := by kernel_rfl
theorem pt_eq : (Rows.laid_internal_strconv_uint64pow10 : DataW Unit) = Lib.tabData .u64 Lib.pow10Tab := by kernel_rfl
theorem tab_of_laid {W : World} {r : List (String × DataW Unit)} (h : laidMet Tryz.prog (("internal/strconv.uint64pow10", Rows.laid_internal_strconv_uint64pow10) :: r) W) : Lib.TabIs Tryz.prog W "internal/strconv.uint64pow10" .u64 Lib.pow10Tab :=
 Lib.tabIs_of_head (g := 2) (t := 179) (by kernel_rfl) (by kernel_rfl) Tryz.underlying179 Tryz.underlying107 (by kernel_rfl) (by kernel_rfl) (pt_eq ▸ h)
theorem rows_lt : (Go.Pinned.pow10Rows.all fun x => decide (x.1 < 18446744073709551616) && decide (x.2 < 18446744073709551616)) = true := by kernel_rfl
theorem pm_cells : Tryz.prog.cellsOf 188 = 2 := by kernel_rfl
theorem u64_cells : Tryz.prog.cellsOf 107 = 1 := by kernel_rfl
theorem lt_of_cell {W : World} {a : Addr} {v : Value} (h : W.cell? a = some v) : a.block < W.heap.size := by
 rcases Nat.lt_or_ge a.block W.heap.size with h' | h'
 ·
  exact h'
 ·
  obtain ⟨b, o, p⟩ := a
  simp only at h'
  simp [World.cell?, Array.getElem?_eq_none h'] at h
theorem ptab_of_laid {W : World} {l : List (String × DataW Unit)} (h : laidMet Tryz.prog l W) (hm : ("internal/strconv.pow10Tab", (Go.Pinned.pow10Tab : DataW Unit)) ∈ l) : fz.PTab 3 W.heap.size W := by
 have key : ∀ i, i < 696 → W.cell? ⟨3, i * 2, none⟩ = some (.int .u64 ((fz.tHi i).toNat : Int)) ∧ W.cell? ⟨3, i * 2 + 1, none⟩ = some (.int .u64 ((fz.tLo i).toNat : Int)) := by
  intro i hi
  obtain ⟨g, t, cs, fuel, p, hg, hty, hvar, hd⟩ := Lib.laidMet.reads h hm
  obtain rfl := Option.some.inj ((show Tryz.prog.globalNamed "internal/strconv.pow10Tab" = some 3 by kernel_rfl).symm.trans hg)
  obtain rfl := Option.some.inj ((show (Tryz.prog.globals[3]?).map (·.type) = some 189 by kernel_rfl).symm.trans hty)
  unfold Go.Pinned.pow10Tab at hd
  obtain ⟨fuel', d, q, hdi, he⟩ := Lib.array_elem Tryz.underlying189 hd i hi
  rw [List.getElem?_map] at hdi
  obtain ⟨x, hx, rfl⟩ := Option.map_eq_some_iff.1 hdi
  rw [pm_cells] at he
  have hcs := Lib.ints_of_struct (zs := [(x.1 : Int), (x.2 : Int)]) Tryz.underlying188 (fun j f hj => by
   match j, hj with
   | 0, hj => simp at hj; subst hj; exact ⟨Tryz.underlying107, rfl, u64_cells⟩
   | 1, hj => simp at hj; subst hj; exact ⟨Tryz.underlying107, rfl, u64_cells⟩
   | j + 2, hj => simp at hj) (by rw [pm_cells]; rfl) he
  have e0 := congrArg (·[0]?) hcs
  have e1 := congrArg (·[1]?) hcs
  simp only [List.getElem?_take, List.getElem?_drop] at e0 e1
  have hr := List.all_eq_true.1 rows_lt x (List.mem_of_getElem? hx)
  simp only [Bool.and_eq_true, decide_eq_true_eq] at hr
  have hrow : fz.rowT i = x := by unfold fz.rowT; rw [List.getD_eq_getElem?_getD, hx]; rfl
  have h1 : ((fz.tHi i).toNat : Int) = (x.1 : Int) := by unfold fz.tHi; rw [hrow, BitVec.toNat_ofNat, Nat.mod_eq_of_lt hr.1]
  have h2 : ((fz.tLo i).toNat : Int) = (x.2 : Int) := by unfold fz.tLo; rw [hrow, BitVec.toNat_ofNat, Nat.mod_eq_of_lt hr.2]
  rw [h1, h2]
  constructor
  ·
   rw [World.var?_cell hg hvar (i * 2), ← Array.getElem?_toList]
   simpa using e0
  ·
   rw [World.var?_cell hg hvar (i * 2 + 1), ← Array.getElem?_toList]
   simpa using e1
 exact ⟨lt_of_cell (key 0 (by decide)).1, key⟩
theorem wf_i64 {n : Int} (h : (Lit.int .i64 n).wf = true) : -9223372036854775808 ≤ n ∧ n ≤ 9223372036854775807 := by
 unfold Lit.wf at h
 simp only [Bool.and_eq_true, decide_eq_true_eq] at h
 exact h
theorem wf_u64 {n : Int} (h : (Lit.int .u64 n).wf = true) : 0 ≤ n ∧ n ≤ 18446744073709551615 := by
 unfold Lit.wf at h
 simp only [Bool.and_eq_true, decide_eq_true_eq] at h
 exact h
theorem trod_float {H : Type} {enc : TypeId × Value → H} {P : Program} {w : World} {base : Nat} {spare : Nat → Bool} {held : Bool} {fuel : Nat} {t : TypeId} {cs : List Value} {x : DataW H × List MemPlace} {k : FloatKind} (ht : P.underlying t = some (.float k)) (h : DataW.trod enc P w base spare held fuel t cs = some x) : ∃ n, cs = [.float k n] ∧ (Lit.float k n).wf = true := by
 cases fuel with
 | zero => simp [DataW.trod] at h
 | succ n =>
  unfold DataW.trod at h
  rw [ht] at h
  split at h <;> simp_all
theorem cl2 : Tryz.prog.cellsOf 2 = 1 := by kernel_rfl
theorem cl3 : Tryz.prog.cellsOf 3 = 1 := by kernel_rfl
theorem cl4 : Tryz.prog.cellsOf 4 = 1 := by kernel_rfl
theorem cl9 : Tryz.prog.cellsOf 9 = 1 := by kernel_rfl
theorem cl22 : Tryz.prog.cellsOf 22 = 1 := by kernel_rfl
theorem cl24 : Tryz.prog.cellsOf 24 = 8 := by kernel_rfl
theorem open_msg {H : Type} {enc : TypeId × Value → H} {W : World} {cs : Array Value} {d : DataW H} {p : List MemPlace} (h : DataW.Trod enc Tryz.prog W 0 (fun _ => true) true 24 (.agg cs) d p) :
  ∃ (x0 : Int) (x1 : ByteArray) (x2 : Int) (x3 : Nat) (x4 : Bool) (x5 : ByteArray) (x6 : Int) (x7 : Bool), cs = #[.int .i64 x0, .string x1, .int .i64 x2, .float .f64 x3, .bool x4, .string x5, .int .i64 x6, .bool x7] ∧ (-9223372036854775808 ≤ x0 ∧ x0 ≤ 9223372036854775807) ∧ (-9223372036854775808 ≤ x2 ∧ x2 ≤ 9223372036854775807) ∧ x3 < 18446744073709551616 ∧ (-9223372036854775808 ≤ x6 ∧ x6 ≤ 9223372036854775807) := by
 obtain ⟨fuel, hf⟩ := h
 obtain ⟨xs, n, _, _, hcl, hxl, hx⟩ := DataW.trod_struct Tryz.underlying24 hf
 have hcl' : cs.toList.length = 8 := hcl.trans cl24
 obtain ⟨c0, c1, c2, c3, c4, c5, c6, c7, hcs⟩ : ∃ c0 c1 c2 c3 c4 c5 c6 c7, cs.toList = [c0, c1, c2, c3, c4, c5, c6, c7] := by
  rcases hl : cs.toList with _ | ⟨a0, _ | ⟨a1, _ | ⟨a2, _ | ⟨a3, _ | ⟨a4, _ | ⟨a5, _ | ⟨a6, _ | ⟨a7, _ | ⟨a, l⟩⟩⟩⟩⟩⟩⟩⟩⟩
  all_goals (rw [hl] at hcl'; simp at hcl')
  exact ⟨_, _, _, _, _, _, _, _, rfl⟩
 obtain ⟨y0, y1, y2, y3, y4, y5, y6, y7, hys⟩ : ∃ y0 y1 y2 y3 y4 y5 y6 y7, xs = [y0, y1, y2, y3, y4, y5, y6, y7] := by
  rcases xs with _ | ⟨a0, _ | ⟨a1, _ | ⟨a2, _ | ⟨a3, _ | ⟨a4, _ | ⟨a5, _ | ⟨a6, _ | ⟨a7, _ | ⟨a, l⟩⟩⟩⟩⟩⟩⟩⟩⟩
  all_goals simp at hxl
  exact ⟨_, _, _, _, _, _, _, _, rfl⟩
 subst hys
 have hcs2 : (Value.agg cs).cells.toList = [c0, c1, c2, c3, c4, c5, c6, c7] := hcs
 rw [hcs2] at hx
 have h0 : DataW.trod enc Tryz.prog W 0 (fun _ => true) true n 3 [c0] = some y0 := by have := hx 0 _ rfl; simpa [cl3] using this
 have h1 : DataW.trod enc Tryz.prog W 0 (fun _ => true) true n 9 [c1] = some y1 := by have := hx 1 _ rfl; simpa [cl9] using this
 have h2 : DataW.trod enc Tryz.prog W 0 (fun _ => true) true n 2 [c2] = some y2 := by have := hx 2 _ rfl; simpa [cl2] using this
 have h3 : DataW.trod enc Tryz.prog W 0 (fun _ => true) true n 22 [c3] = some y3 := by have := hx 3 _ rfl; simpa [cl22] using this
 have h4 : DataW.trod enc Tryz.prog W 0 (fun _ => true) true n 4 [c4] = some y4 := by have := hx 4 _ rfl; simpa [cl4] using this
 have h5 : DataW.trod enc Tryz.prog W 0 (fun _ => true) true n 9 [c5] = some y5 := by have := hx 5 _ rfl; simpa [cl9] using this
 have h6 : DataW.trod enc Tryz.prog W 0 (fun _ => true) true n 3 [c6] = some y6 := by have := hx 6 _ rfl; simpa [cl3] using this
 have h7 : DataW.trod enc Tryz.prog W 0 (fun _ => true) true n 4 [c7] = some y7 := by have := hx 7 _ rfl; simpa [cl4] using this
 obtain ⟨x0, e0, _, w0⟩ := DataW.trod_int Tryz.underlying3 h0
 obtain ⟨x1, e1, _, _⟩ := DataW.trod_string Tryz.underlying9 h1
 obtain ⟨x2, e2, _, w2⟩ := DataW.trod_int Tryz.underlying2 h2
 obtain ⟨x3, e3, w3⟩ := trod_float Tryz.underlying22 h3
 obtain ⟨x4, e4, _⟩ := DataW.trod_bool Tryz.underlying4 h4
 obtain ⟨x5, e5, _, _⟩ := DataW.trod_string Tryz.underlying9 h5
 obtain ⟨x6, e6, _, w6⟩ := DataW.trod_int Tryz.underlying3 h6
 obtain ⟨x7, e7, _⟩ := DataW.trod_bool Tryz.underlying4 h7
 simp only [List.cons.injEq, and_true] at e0 e1 e2 e3 e4 e5 e6 e7
 subst e0 e1 e2 e3 e4 e5 e6 e7
 exact ⟨x0, x1, x2, x3, x4, x5, x6, x7, Array.toList_inj.1 hcs, wf_i64 w0, wf_i64 w2, by have := w3; unfold Lit.wf at this; simpa using this, wf_i64 w6⟩
set_option maxHeartbeats 4000000 in
set_option maxRecDepth 100000 in
theorem lifted (os : Os) (started : os.Started) (H : Type) (enc : TypeId × Value → H) :
  ReturnsInHanded {} Tryz.checked os 3 .any (fun w args => (Rows.fnMsgWriteSpec.pre enc Tryz.prog Tryz.f3 Rows.fnMsgWriteRow.domain false w args ∧ laidMetH Tryz.prog Rows.fnMsgWriteRow.laid w) ∧ sizedMet enc Tryz.prog Tryz.f3 (OpenSpec.ofChange Rows.fnMsgWriteSpec) false w args) (Rows.fnMsgWriteSpec.post enc Tryz.prog Tryz.f3 false true false false) := by
 refine returnsInHanded_of_change_and (C := Tryz.checked) (X := fun w _ => laidMetH Tryz.prog Rows.fnMsgWriteRow.laid w) (fun _ _ _ hh h => h.of_heap hh) own started (by kernel_rfl) Tryz.func3
  (ChangeSpec.witness_shaped (enc := enc) (C := Tryz.checked) (os := os) (X := fun w _ => laidMetH Tryz.prog Rows.fnMsgWriteRow.laid w) false (World.laidAll Tryz.prog os Rows.fnMsgWriteRow.laid) #[.agg #[.int .i64 0, .string ⟨#[]⟩, .int .i64 0, .float .f64 0, .bool false, .string ⟨#[]⟩, .int .i64 0, .bool false], .bool false] 8 (World.laidAll_os _ _ _)
   (World.shaped_of_ZipB (by kernel_rfl) (by kernel_rfl)) (by kernel_rfl) (by kernel_rfl) (by kernel_rfl)
   (by rw [MakeChecks.laidMetH_plain _ _ _ (by kernel_rfl)]; exact laidMet_laidAll _ (by kernel_rfl) (by kernel_rfl))) ?_
 intro W base args ds gs before hval0 hW hcnd _ hL hsz0
 have hval : ∀ (j : Nat) t v, Tryz.f3.params[j]? = some t → args[j]? = some v → Value.okWide Tryz.prog W .any base t v := hval0
 have hW' := hW
 obtain ⟨p, q, hA0, hV, rfl, hfz, hnd⟩ := hW
 have hA : DataW.TrodAll enc Tryz.prog W 0 (fun _ => true) true Tryz.f3.params.toList args.toList ds p := hA0
 rw [Tryz.params3] at hA hval
 obtain ⟨v0, vs0, d0, ds0, p0, q0, hargs, rfl, rfl, h0, r0⟩ := trodAll_cons hA
 obtain ⟨v1, vs1, d1, ds1, p1, q1, rfl, rfl, rfl, h1, r1⟩ := trodAll_cons r0
 obtain ⟨rfl, rfl, rfl⟩ := trodAll_nil r1
 obtain rfl : args = #[v0, v1] := by cases args; simp_all
 obtain ⟨rfl, rfl⟩ := trodVars_none hV
 have k0 := h0
 have lt0 : ∀ x ∈ p0, x.block < W.heap.size := by obtain ⟨m, hm⟩ := k0; exact DataW.trod_lt m _ _ _ hm
 have k1 := h1
 have lt1 : ∀ x ∈ p1, x.block < W.heap.size := by obtain ⟨m, hm⟩ := k1; exact DataW.trod_lt m _ _ _ hm
 obtain ⟨cs0, rfl, _⟩ := okWide_struct Tryz.underlying24 (hval 0 24 v0 rfl rfl)
 obtain ⟨ab, rfl⟩ := okWide_bool Tryz.underlying4 (hval 1 4 v1 rfl rfl)
 obtain ⟨kk, sv, nv, dv, bo, fm, nu, st, rfl, _, rn, rf, ru⟩ := open_msg h0
 rw [MakeChecks.laidMetH_plain _ _ _ (by kernel_rfl)] at hL
 have htab := tab_of_laid hL.tail.tail.tail
 have hpt := ptab_of_laid hL (.tail _ (.tail _ (.tail _ (.tail _ (.tail _ (.head _))))))
 clear hA0 hval0
 refine (mw.la.law_ W htab hpt kk sv nv dv bo fm nu st ab rn ru rf).mono fun e W' ⟨he, bel⟩ => ?_
 subst he
 exact ⟨_, rfl, _, _, _, [], _, [], hW', trodAll_mk1 (shut_bool Tryz.underlying4 _), (trodAll_cons_mk (Below.trod laidOut (by kernel_rfl) (of_decide_eq_true (by kernel_rfl)) k0 bel lt0) (trodAll_cons_mk (Below.trod laidOut (by kernel_rfl) (of_decide_eq_true (by kernel_rfl)) k1 bel lt1) trodAll_mk0)), rfl, bel.frame _, fun h => by cases h⟩
theorem fnMsgWrite_holds : Rows.FnMsgWriteSaid :=
 OpenClaim.holds_of_wide 3 Tryz.f3 rfl rfl rfl rfl rfl rfl rfl ⟨rfl, rfl, rfl, rfl, rfl⟩ rfl rfl rfl rfl rfl (by kernel_rfl) Tryz.func3 (by kernel_rfl)
  (of_decide_eq_true (by kernel_rfl)) (by unfold Func.isWrapper; first | (rw [if_pos (by decide +kernel)]; kernel_rfl) | (rw [if_neg (by decide +kernel)]; exact ⟨rfl, rfl⟩))
  (fun os started H enc _ => lifted os started H enc)
theorem fnMsgWrite_card : Rows.FnMsgWriteCardSaid :=
 Claim7.holds_tied_plain_at .later [] [.data, .data, .data, .data, .pinned, .pinned] true (true, "ec6dd193a0c2e90a894c98c350a44d24698a6089cdfbc818c29ea392bf0749ea") true fnMsgWrite_holds (fun _ h => by cases h) (by kernel_rfl) (fun _ h => by cases h) fnMsgWrite_row_tie rfl ⟨rfl, rfl⟩ (by kernel_rfl) rfl
  (fun f fn hf hfn => by
   obtain rfl : f = 3 := Option.some.inj ((show Tryz.prog.funcNamed "pub-teleprinter/laws.FnMsgWrite" = some 3 by kernel_rfl).symm.trans hf) |>.symm
   obtain rfl : fn = Tryz.f3 := (Option.some.inj (Tryz.func3.symm.trans hfn)).symm
   exact ⟨by kernel_rfl, fun j t ht => by
    rw [Tryz.params3] at ht
    have hm : t ∈ [24, 4] := by simpa using Array.mem_of_getElem? ht
    have hall : ([24, 4].all fun u => !Tryz.prog.wantsStandIn u) = true := by kernel_rfl
    exact (show Tryz.prog.wantsStandIn t = false by simpa using List.all_eq_true.1 hall t hm)⟩)
  (by kernel_rfl)
end Go.Proofs.YtfbfmcjjohiikaaGreatDoor.rowFnMsgWrite
end
