/- FnRawTells: the argument opened (a value with its parts, however deep), and the row. -/
import Derived.Test.YtcjdadfiedoflaaRows
import Derived.Test.YtcjdadfiedoflaaTq
import Derived.WalkKit
import Derived.ProofKit
import Derived.OpenShut
import Derived.ShutString
import Derived.ChangeOld
import Derived.Below
import Derived.SizedLaws
import Derived.Lib.SmallJoins
import Derived.SliceStrings
namespace Go.Proofs.Ytcjdadfiedoflaa.rowFnRawTells
open Go.ChangeShapes Go.WideShapes Go.ChangeAt Go.RowKit Go.Joins Go.Proofs.Ytcjdadfiedoflaa.tells Go.Proofs.YtcjdadfiedoflaaW.PrintWords PFnRawTells
set_option linter.unusedVariables false
theorem own : ownKnob Try.prog.godebug = none := by kernel_rfl
theorem laidOut : laidOutB Try.prog = true := by kernel_rfl
theorem cells5 : Try.prog.cellsOf 5 = 1 := by kernel_rfl
theorem cells4 : Try.prog.cellsOf 4 = 1 := by kernel_rfl
theorem cells9 : Try.prog.cellsOf 9 = 1 := by kernel_rfl
theorem cells41 : Try.prog.cellsOf 41 = 1 := by kernel_rfl
theorem cells28 : Try.prog.cellsOf 28 = 1 := by kernel_rfl
theorem cells43 : Try.prog.cellsOf 43 = 7 := by kernel_rfl
theorem bytes43 : Try.prog.bytesOf 43 = 96 := by kernel_rfl
theorem bytes9 : Try.prog.bytesOf 9 = 16 := by kernel_rfl
theorem seven {α : Type} {l : List α} (h : l.length = 7) : ∃ a b c d e f g, l = [a, b, c, d, e, f, g] := by
  rcases l with _ | ⟨a, _ | ⟨b, _ | ⟨c, _ | ⟨d, _ | ⟨e, _ | ⟨f, _ | ⟨g, _ | ⟨x, l⟩⟩⟩⟩⟩⟩⟩⟩ <;> simp at h
  exact ⟨a, b, c, d, e, f, g, rfl⟩
theorem listed {α : Type} (d : α) {n : Nat} {p : Nat → α → Prop} (h : ∀ i, i < n → ∃ x, p i x) : ∃ l : List α, l.length = n ∧ ∀ i x, l[i]? = some x → p i x := by
  induction n with
  | zero => exact ⟨[], rfl, by simp⟩
  | succ n ih =>
    obtain ⟨l, hl, hp⟩ := ih (fun i hi => h i (by omega))
    obtain ⟨x, hx⟩ := h n (by omega)
    refine ⟨l ++ [x], by simp [hl], fun i y hy => ?_⟩
    by_cases hi : i < n
    · rw [List.getElem?_append_left (by omega)] at hy
      exact hp i y hy
    · have hi' : i = n := by
        have := (List.getElem?_eq_some_iff.1 hy).1
        simp at this
        omega
      subst hi'
      rw [List.getElem?_append_right (by omega), hl] at hy
      simp at hy
      subst hy
      exact hx
theorem C_strings {w : World} {a : Addr} {len : Nat} {ss : List ByteArray} (hl : len ≤ ss.length) (hm : len ≤ 9223372036854775807)
    (hc : ∀ i, i < ss.length → w.cell? (a.add i) = some (.string (ss.getD i ByteArray.empty))) : Kd.string.C w (some a) (ss.take len).length (ss.take len) := by
  refine ⟨rfl, by simp; omega, fun _ => ⟨a, rfl, fun j p hj => ⟨[.string p], rfl, rfl, fun i u hu => ?_⟩⟩⟩
  have hj1 := (List.getElem?_eq_some_iff.1 hj).1
  simp at hj1
  have e : ss.getD j ByteArray.empty = p := by
    rw [List.getElem?_take_of_lt (by omega)] at hj
    rw [List.getD_eq_getElem?_getD, hj]; rfl
  have hi : i = 0 := by
    have := (List.getElem?_eq_some_iff.1 hu).1
    simpa using this
  subst hi
  have hu' : Value.string p = u := by simpa using hu
  subst hu'
  have := hc j (by omega)
  rw [e] at this
  show w.cell? (a.add (j * 1 + 0)) = _
  simpa using this
section
variable {H : Type} {enc : TypeId × Value → H} {w : World} {base : Nat} {spare : Nat → Bool} {held : Bool}
theorem weights_all {e : TypeId} : ∀ {l : List (DataW H)} {d : DataW H}, d ∈ l → ∀ n ∈ d.weights Try.prog e, n ∈ DataW.weightsAll Try.prog e l
  | x :: l, d, hd, n, hn => by
    simp only [DataW.weightsAll, List.mem_append]
    rcases List.mem_cons.1 hd with rfl | h
    · exact .inl hn
    · exact .inr (weights_all h n hn)
theorem ok_mk {v : S43} (h1 : v.f1.size ≤ 140737488351232) (h2 : v.f2.size ≤ 140737488351232) (h3 : v.f3.length ≤ 140737488351232) (h6 : v.f6.length ≤ 140737488351232) (hs : ∀ s ∈ v.f6, s.size ≤ 140737488351232) (hk : ∀ x ∈ v.f3, ∀ n, ok n x) (n : Nat) : ok n v := by
  have hz : sizes v := ⟨by omega, by omega, by omega, by omega, fun s h => by have := hs s h; omega⟩
  cases n with
  | zero => exact hz
  | succ n => exact ⟨hz, fun x hx => hk x hx n⟩
theorem open43 (fuel : Nat) : ∀ (cs : List Value) (x : DataW H × List MemPlace), DataW.trod enc Try.prog w base spare held fuel 43 cs = some x → (∀ n ∈ x.1.weights Try.prog 43, n ≤ 140737488351232) →
    ∃ v : S43, k43.K w v cs ∧ ∀ n, ok n v := by
  induction fuel using Nat.strongRecOn with
  | _ fuel ih =>
  intro cs x h hwt
  obtain ⟨xs, n, rfl, rfl, hcl, hxl, hx⟩ := DataW.trod_struct Try.underlying43 h
  rw [cells43] at hcl
  obtain ⟨c0, c1, c2, c3, c4, c5, c6, rfl⟩ := seven hcl
  obtain ⟨y0, y1, y2, y3, y4, y5, y6, rfl⟩ := seven hxl
  have h0 : DataW.trod enc Try.prog w base spare held n 5 [c0] = some y0 := by have := hx 0 _ rfl; simpa [cells5] using this
  have h1 : DataW.trod enc Try.prog w base spare held n 9 [c1] = some y1 := by have := hx 1 _ rfl; simpa [cells9] using this
  have h2 : DataW.trod enc Try.prog w base spare held n 9 [c2] = some y2 := by have := hx 2 _ rfl; simpa [cells9] using this
  have h3 : DataW.trod enc Try.prog w base spare held n 41 [c3] = some y3 := by have := hx 3 _ rfl; simpa [cells41] using this
  have h4 : DataW.trod enc Try.prog w base spare held n 4 [c4] = some y4 := by have := hx 4 _ rfl; simpa [cells4] using this
  have h5 : DataW.trod enc Try.prog w base spare held n 4 [c5] = some y5 := by have := hx 5 _ rfl; simpa [cells4] using this
  have h6 : DataW.trod enc Try.prog w base spare held n 28 [c6] = some y6 := by have := hx 6 _ rfl; simpa [cells28] using this
  clear hx h
  obtain ⟨n0, e0, f0, _⟩ := DataW.trod_int Try.underlying5 h0
  obtain ⟨s1, e1, f1, _⟩ := DataW.trod_string Try.underlying9 h1
  obtain ⟨s2, e2, f2, _⟩ := DataW.trod_string Try.underlying9 h2
  obtain ⟨b4, e4, f4⟩ := DataW.trod_bool Try.underlying4 h4
  obtain ⟨b5, e5, f5⟩ := DataW.trod_bool Try.underlying4 h5
  simp only [List.cons.injEq, and_true] at e0 e1 e2 e4 e5
  subst e0 e1 e2 e4 e5 f0 f1 f2 f4 f5
  simp only [List.map_cons, List.map_nil, DataW.weights, Try.underlying43, DataW.weightsEach, List.mem_append] at hwt
  have z1 : s1.size ≤ 140737488351232 := by have := hwt s1.data.toList.length (by simp); simpa using this
  have z2 : s2.size ≤ 140737488351232 := by have := hwt s2.data.toList.length (by simp); simpa using this
  have hA6 : ∃ (A : Option Addr) (cap : Nat) (l : List ByteArray), c6 = .slice A l.length cap ∧ l.length ≤ cap ∧ Kd.string.C w A l.length l ∧ l.length ≤ 140737488351232 ∧ ∀ s ∈ l, s.size ≤ 140737488351232 := by
    rcases open_strings Try.underlying28 Try.underlying9 cells9 h6 with ⟨hcs, hx⟩ | ⟨a, len, cap, ss, hcs, _, hl, hm, hz, hx, hcell, hsz⟩
    · simp only [List.cons.injEq, and_true] at hcs
      exact ⟨none, 0, [], hcs, Nat.le_refl _, ⟨rfl, by simp, fun h => absurd h (by simp)⟩, by simp, by simp⟩
    · simp only [List.cons.injEq, and_true] at hcs
      have hl' : len ≤ ss.length := by rw [hz]; split <;> omega
      have hcap : cap ≤ 9223372036854775807 := by simp only [maxLen] at hm; omega
      subst hx
      have hw6 : ∀ k ∈ DataW.weights Try.prog 28 (DataW.slice (H := H) (strs (ss.take len)) (strs (ss.drop len))), k ≤ 140737488351232 := fun k hk => hwt k (by simp [hk])
      simp only [DataW.weights, Try.underlying28] at hw6
      have hlen := hw6 _ (List.mem_cons_self)
      rw [bytes9] at hlen
      have e1 : (ss.take len).length = len := by simp; omega
      refine ⟨some a, cap, ss.take len, by rw [e1]; exact hcs, by omega, C_strings hl' (by omega) hcell, ?_, fun s hs => ?_⟩
      · simp [strs] at hlen
        omega
      · have := hw6 s.data.toList.length (List.mem_cons_of_mem _ (List.mem_append_left _ (weights_all (d := .lit (.string s.data.toList)) (by unfold strs; exact List.mem_map.2 ⟨s, hs, rfl⟩) _ (by simp [DataW.weights]))))
        simpa using this
  obtain ⟨A6, cap6, l6, rfl, hc6, hC6, hl6, hs6⟩ := hA6
  have hA3 : ∃ (A : Option Addr) (cap : Nat) (l : List S43), c3 = .slice A l.length cap ∧ l.length ≤ cap ∧ k43.C w A l.length l ∧ l.length ≤ 140737488351232 ∧ ∀ x ∈ l, ∀ n, ok n x := by
    rcases DataW.trod_slice Try.underlying41 h3 with ⟨hcs, hx⟩ | ⟨a, len, cap, elems, rest, m, rfl, hcs, rfl, hb, hl, hm, hlen, hel, _, _⟩
    · simp only [List.cons.injEq, and_true] at hcs
      exact ⟨none, 0, [], hcs, Nat.le_refl _, ⟨rfl, by simp, fun h => absurd h (by simp)⟩, by simp, by simp⟩
    · simp only [List.cons.injEq, and_true] at hcs
      have hcap : cap ≤ 9223372036854775807 := by simp only [maxLen] at hm; omega
      have hw3 : ∀ k ∈ DataW.weights Try.prog 41 (DataW.slice (H := H) (elems.map (·.1)) (rest.map (·.1))), k ≤ 140737488351232 := fun k hk => hwt k (by simp [hk])
      simp only [DataW.weights, Try.underlying41] at hw3
      have hlen3 := hw3 _ (List.mem_cons_self)
      rw [bytes43] at hlen3
      simp only [List.length_map] at hlen3
      have hone : ∀ i, i < len → ∃ v : S43, ∃ c, c.length = 7 ∧ k43.K w v c ∧ (∀ j u, c[j]? = some u → w.cell? (a.add (i * 7 + j)) = some u) ∧ ∀ n, ok n v := by
        intro i hi
        have hq := hel i hi
        rw [cells43, List.getElem?_eq_getElem (by omega)] at hq
        obtain ⟨c, hc1, hc2⟩ := Option.bind_eq_some_iff.1 hq
        obtain ⟨_, hcl, hcc⟩ := World.cells?_some hc1
        obtain ⟨v, hv1, hv2⟩ := ih m (by omega) c _ hc2 (fun k hk => hw3 k (List.mem_cons_of_mem _ (List.mem_append_left _ (weights_all (List.mem_map_of_mem (List.getElem_mem _)) k hk))))
        refine ⟨v, c, hcl, hv1, fun j u hj => ?_, hv2⟩
        have hj' : j < 7 := by have := (List.getElem?_eq_some_iff.1 hj).1; omega
        rw [← Addr.add_add, hcc j hj', hj]
      obtain ⟨l, hll, hlp⟩ := listed z43 hone
      subst hll
      refine ⟨some a, cap, l, hcs, hl, ⟨rfl, by omega, fun _ => ⟨a, rfl, fun j p hj => ?_⟩⟩, by omega, fun y hy => ?_⟩
      · obtain ⟨c, q1, q2, q3, _⟩ := hlp j p hj
        exact ⟨c, q1, q2, q3⟩
      · obtain ⟨j, hj⟩ := List.mem_iff_getElem?.1 hy
        exact (hlp j y hj).choose_spec.2.2.2
  obtain ⟨A3, cap3, l3, rfl, hc3, hC3, hl3, hk3⟩ := hA3
  exact ⟨⟨n0, s1, s2, l3, b4, b5, l6⟩, k43_mk w ⟨n0, s1, s2, l3, b4, b5, l6⟩ hc3 hC3 hc6 hC6, ok_mk z1 z2 hl3 hl6 hs6 hk3⟩
end
set_option maxRecDepth 100000 in
theorem lifted (os : Os) (started : os.Started) (H : Type) (enc : TypeId × Value → H) :
    ReturnsInHanded {} Try.checked os 6 .any (Rows.fnRawTellsSpec.pre6 enc Try.prog Try.f6 Rows.fnRawTellsRow.domain false) (Rows.fnRawTellsSpec.post enc Try.prog Try.f6 false true false false) := by
  refine returnsInHanded_of_change_sized (C := Try.checked) own started (by kernel_rfl) Try.func6
    (ChangeSpec.witness6 (enc := enc) (C := Try.checked) false ⟨#[], #[.agg #[.int .u8 0, .string ⟨#[]⟩, .string ⟨#[]⟩, .slice none 0 0, .bool false, .bool false, .slice none 0 0]], []⟩ 8 (by kernel_rfl) (by kernel_rfl) (by kernel_rfl) (by kernel_rfl)) ?_
  intro W base args ds gs before hval0 hW hcnd hsz0 _
  have hsz : (DataW.weightsEach Try.prog (Try.f6.params.toList ++ Rows.fnRawTellsSpec.plain.varTypes Try.prog) (ds ++ gs)).all (· ≤ reachBytes) = true := hsz0
  have hval : ∀ (j : Nat) t v, Try.f6.params[j]? = some t → args[j]? = some v → Value.okWide Try.prog W .any base t v := hval0
  have hW' := hW
  obtain ⟨p, q, hA0, hV, rfl, hfz, hnd⟩ := hW
  have hA : DataW.TrodAll enc Try.prog W 0 (fun _ => true) true Try.f6.params.toList args.toList ds p := hA0
  rw [Try.params6] at hA hval hsz
  obtain ⟨v0, vs0, d0, ds0, p0, q0, hargs, rfl, rfl, h0, r0⟩ := trodAll_cons hA
  obtain ⟨rfl, rfl, rfl⟩ := trodAll_nil r0
  obtain rfl : args = #[v0] := by cases args; simp_all
  obtain ⟨rfl, rfl⟩ := trodVars_none hV
  have k0 := h0
  have lt0 : ∀ x ∈ p0, x.block < W.heap.size := by obtain ⟨m, hm⟩ := k0; exact DataW.trod_lt m _ _ _ hm
  obtain ⟨cs, rfl, hcs⟩ := okWide_struct Try.underlying43 (hval 0 43 v0 rfl rfl)
  obtain ⟨fuel, hf⟩ := h0
  obtain ⟨v, hK, hok⟩ := open43 fuel _ _ hf (fun n hn => by
    have := List.all_eq_true.1 hsz n (DataW.weights_mem_each (j := 0) (t := 43) (d := d0) rfl rfl n hn)
    exact of_decide_eq_true this)
  obtain ⟨A3, c3, A6, c6, hcells, hc3, hC3, hc6, hC6⟩ := k43_open hK
  obtain ⟨k, b, bf, q1, q2, q3⟩ := law_plain v (hok 20)
  have hcs' : cs = #[.int .u8 v.f0, .string v.f1, .string v.f2, .slice A3 v.f3.length c3, .bool v.f4, .bool v.f5, .slice A6 v.f6.length c6] := by
    apply Array.toList_inj.1
    have : (Value.agg cs).cells.toList = cs.toList := rfl
    rw [← this, hcells]
  subst hcs'
  clear hA0 hval0 hsz hsz0
  refine (law.law6 v A3 c3 A6 c6 W hc3 hc6 hC3 hC6 (hok 20) k b bf q1 q2 q3).mono fun e W' ⟨he, bel⟩ => ?_
  subst he
  exact ⟨_, rfl, _, _, _, [], _, [], hW', trodAll_mk1 (shut_bool Try.underlying4 _), (trodAll_cons_mk (Below.trod laidOut (by kernel_rfl) (of_decide_eq_true (by kernel_rfl)) k0 bel lt0) trodAll_mk0), rfl, bel.frame _, fun h => by cases h⟩

theorem fnRawTells_holds : Rows.FnRawTellsSaid :=
  OpenClaim.holds_of_wide 6 Try.f6 rfl rfl rfl rfl rfl rfl rfl ⟨rfl, rfl, rfl, rfl, rfl⟩ rfl rfl rfl rfl rfl (by kernel_rfl) Try.func6 (by kernel_rfl)
    (of_decide_eq_true (by kernel_rfl)) (by unfold Func.isWrapper; first | (rw [if_pos (by decide +kernel)]; kernel_rfl) | (rw [if_neg (by decide +kernel)]; exact ⟨rfl, rfl⟩))
    (fun os started H enc _ => lifted os started H enc)
#print axioms fnRawTells_holds
end Go.Proofs.Ytcjdadfiedoflaa.rowFnRawTells
