/- Contracts on the road of FnPairKeys. -/
import Derived.Test.YtcjdadfiedoflaaSk
import Derived.Test.YtcjdadfiedoflaaPkFns
namespace Go.Proofs.Ytcjdadfiedoflaa.pk
open Go.RowKit Go.Proofs.HHW Go.Proofs.YtcjdadfiedoflaaW.PrintWords
set_option linter.unusedVariables false
set_option linter.unusedSimpArgs false
theorem info9 : (Try.prog.info? 9).map (fun i => (i.zero, i.size, i.bytes)) = some (some (.string ⟨#[]⟩), 1, 16) := by kernel_rfl
theorem ag28 : aggB Try.prog 28 = some false := by kernel_rfl
theorem ag4 : aggB Try.prog 4 = some false := by kernel_rfl
theorem sz28 : szB Try.prog 28 = some 1 := by kernel_rfl
theorem sz4 : szB Try.prog 4 = some 1 := by kernel_rfl
theorem sz9 : szB Try.prog 9 = some 1 := by kernel_rfl
theorem zv28 : zvB Try.prog 28 = some (.slice none 0 0) := by kernel_rfl
theorem zv4 : zvB Try.prog 4 = some (.bool false) := by kernel_rfl
theorem idle28 (p q : Addr) (w : World) :
    CallsD Try.prog 28 #[.pointer (some p), .pointer (some q)] .returning w fun e u' w' => e = .returned (.tuple #[]) ∧ u' = .returning ∧ w' = w := by
  refine callsD_of_wpS Try.func28 rfl fun c₀ cs hu => ?_
  apply wpS_seq
  apply wpS_region
  simp [wpOpsS, go_sem, recoverD, hu, Try.ntmps28, Exit.thenS]
  refine wpS_cond (t := false) (by simp [Act.eval, Array.replicate]) ?_
  simp only [Bool.false_eq_true, if_false]
  refine wpS_of_wp (wp_skip ?_)
  cases c₀
  simp_all [bodyPostS, results, Try.results28]
set_option maxRecDepth 100000 in
theorem impl_PairKeys.calls (k : Nat) (A : Option Addr) (c : Nat) (l : List ByteArray) (r : List ByteArray) (w : World) (hr : Kd.string.C w A l.length l) (hc : l.length ≤ c) (hl : l.length ≤ 1000000) (hrl : r.length ≤ 1000000) (hp : PFnPairKeys.radix_DoorPairKeys.f k l = some r) :
    Calls Try.prog 12 #[.slice A l.length c] w fun e w' => ∃ A' c', e = .returned (.tuple #[.slice A' r.length c', .bool true]) ∧ r.length ≤ c' ∧ Kd.string.C w' A' r.length r ∧ Below w.heap.size w w' := by
  have hr0 := Aside0.mk hr; clear hr
  have H := HH.start w
  refine c_enter_d (args := [.slice A l.length c]) (k := 10) Try.func12 rfl rfl rfl (fun a S => ?_)
  refine wp_seq ?_
  refine c_region ?_
  refine l_alloc (cs := _) S H rfl (fun w => al zv28) rfl rfl rfl ?_; clear S a H; intro g1 w a H S
  refine l_alloc (cs := _) S H rfl (fun w => al zv4) rfl rfl rfl ?_; clear S a H; intro g2 w a H S
  refine l_nil ?_
  refine e_then ?_
  refine wp_seq ?_
  refine c_region ?_
  refine l_pure S (p_func rfl rfl) rfl rfl rfl ?_; clear S a; intro a S
  refine l_defer (xs := []) (us := []) (vs := []) S rfl rfl rfl rfl rfl ?_; clear S a; intro a S
  refine l_nil ?_
  refine e_then ?_
  refine wp_seq ?_
  refine c_region ?_
  refine l_lit0 S H rfl Try.underlying28 sz9 rfl rfl rfl ?_; clear S a H; intro g3 w a H S
  refine l_lit0 S H rfl Try.underlying28 sz9 rfl rfl rfl ?_; clear S a H; intro g4 w a H S
  refine l_pure S (p_move rfl) rfl rfl rfl ?_; clear S a; intro a S
  refine l_append (Nat.zero_add l.length) S H rfl rfl rfl Try.underlying28 info9 rfl (by decide) List.mem_cons_self (by simp) (src_C Try.underlying28 (C_old hr0.out H)) (by simp; omega) rfl rfl rfl ?_
  intro g5 csg5 w_ a_ HR_ hzg5 hlog5 hhig5 S_; replace H := HR_ _ .here
  clear S HR_; rename SL _ _ _ _ => S
  have HC := Aside0.mk (show Kd.string.C w_ (some ⟨g5, 0, none⟩) l.length l from C_own H List.mem_cons_self (by omega) (fun j x hj => by have h1 := hhig5 j (List.getElem?_eq_some_iff.1 hj).1; simp only [Nat.zero_add] at h1 ⊢; rw [h1]; simp [hj]))
  refine l_call S rfl rfl Try.func29 rfl rfl (PFnPairKeys.radix_DoorPairKeys.calls k _ _ l r _ HC.out (by omega) hp) rfl rfl rfl ?_
  rintro e w ⟨v0, rfl, hR, hb⟩; refine ⟨_, rfl, ?_⟩; clear S a; intro a S; replace H := H.later hb
  obtain ⟨A1, c1, rfl, hlen1, hK⟩ := Kd.R_reads hR; have HK := Aside0.mk hK; clear hK hR hb HC
  refine l_append (Nat.zero_add r.length) S H rfl rfl rfl Try.underlying28 info9 rfl (by decide) (List.mem_cons_of_mem _ List.mem_cons_self) (by simp) (src_C Try.underlying28 HK.out) (by simp; omega) rfl rfl rfl ?_
  intro g6 csg6 w_ a_ HR_ hzg6 hlog6 hhig6 S_; replace H := HR_ _ (.there .here)
  clear S HR_; rename SL _ _ _ _ => S
  refine l_store S H rfl rfl rfl (.there (.there (.there .here))) (by decide) (fun w u hc hz => st1 sz28 rfl hc hz) rfl rfl ?_; clear S a H; intro w a H S
  refine l_store S H rfl rfl rfl (.there (.there .here)) (by decide) (fun w u hc hz => st1 sz4 rfl hc hz) rfl rfl ?_; clear S a H; intro w a H S
  refine l_nil ?_
  refine e_then ?_
  refine wp_ret ?_
  refine r_door (v := .tuple #[.slice (some ⟨g6, 0, none⟩) r.length csg6.size, .bool true]) S (idle28 _ _) (invokes Try.func28 rfl rfl) (res_c2 rfl rfl rfl (lv ag28 H (List.mem_cons_of_mem _ (List.mem_cons_of_mem _ (List.mem_cons_of_mem _ List.mem_cons_self))) rfl) (lv ag4 H (List.mem_cons_of_mem _ (List.mem_cons_of_mem _ List.mem_cons_self)) rfl)) ⟨_, _, rfl, hzg6, ?_, H.below⟩
  exact C_own H (List.mem_cons_of_mem _ List.mem_cons_self) (by omega) (fun j x hj => by have h1 := hhig6 j (List.getElem?_eq_some_iff.1 hj).1; rw [h1]; simp [hj])
set_option maxRecDepth 100000 in
theorem laws_FnPairKeys.calls (k : Nat) (A : Option Addr) (c : Nat) (l : List ByteArray) (r : List ByteArray) (b1 b2 : Bool) (w : World) (hr : Kd.string.C w A l.length l) (hc : l.length ≤ c)
    (h1 : PFnPairKeys.laws_zzFits12.f k l = some b1) (h2 : PFnPairKeys.laws_aRight.f k ⟨#[]⟩ l = some b2)
    (h6 : b1 = true → b2 = true → l.length ≤ 1000000 ∧ r.length ≤ 1000000 ∧ PFnPairKeys.radix_DoorPairKeys.f k l = some r ∧ PFnPairKeys.spec_PairKeys.f k l = some r ∧ PFnPairKeys.spec_SameTexts.f k r r = some true) :
    Calls Try.prog 4 #[.slice A l.length c] w fun e w' => e = .returned (.bool true) ∧ Below w.heap.size w w' := by
  have hr0 := Aside0.mk hr; clear hr
  have H := HH.start w
  refine c_enter (args := [.slice A l.length c]) (k := 22) Try.func4 rfl rfl rfl (fun a S => ?_)
  refine wp_seq ?_
  refine c_region ?_
  refine l_pure S (p_assign rfl) rfl rfl rfl ?_; clear S a; intro a S
  refine l_nil ?_
  refine e_then ?_
  refine wp_seq ?_
  refine wp_seq ?_
  refine c_region ?_
  refine l_pure S (p_move rfl) rfl rfl rfl ?_; clear S a; intro a S
  refine l_call S rfl rfl Try.func10 rfl rfl (PFnPairKeys.laws_zzFits12.calls k _ _ l b1 _ (C_old hr0.out H) hc h1) rfl rfl rfl ?_
  rintro e w ⟨rfl, hd⟩
  refine ⟨_, rfl, ?_⟩; clear S a; intro a S
  replace H := H.later hd.below; clear hd
  refine l_pure S (p_not rfl) rfl rfl rfl ?_; clear S a; intro a S
  refine l_nil ?_
  refine e_then ?_
  refine c_cond S rfl (fun c4 => ?_) (fun c4 => ?_)
  · skip
    replace c4 := not_eq_true_ c4
    
    refine wp_seq ?_
    refine c_region ?_
    refine l_pure S (p_assign rfl) rfl rfl rfl ?_; clear S a; intro a S
    refine l_nil ?_
    refine e_then ?_
    refine wp_ret ?_
    refine e_then_ret ?_
    exact r_ret1 S rfl rfl ⟨rfl, H.below⟩
  · skip
    replace c4 := not_eq_false_ c4
    
    refine wp_skip ?_
    refine e_then ?_
    refine wp_seq ?_
    refine wp_seq ?_
    refine c_region ?_
    refine l_pure S (p_move rfl) rfl rfl rfl ?_; clear S a; intro a S
    refine l_call S rfl rfl Try.func11 rfl rfl (PFnPairKeys.laws_aRight.calls k _ _ _ l b2 _ (C_old hr0.out H) hc h2) rfl rfl rfl ?_
    rintro e w ⟨rfl, hd⟩
    refine ⟨_, rfl, ?_⟩; clear S a; intro a S
    replace H := H.later hd.below; clear hd
    refine l_pure S (p_not rfl) rfl rfl rfl ?_; clear S a; intro a S
    refine l_nil ?_
    refine e_then ?_
    refine c_cond S rfl (fun c8 => ?_) (fun c8 => ?_)
    · skip
      replace c8 := not_eq_true_ c8
      
      refine wp_seq ?_
      refine c_region ?_
      refine l_pure S (p_assign rfl) rfl rfl rfl ?_; clear S a; intro a S
      refine l_nil ?_
      refine e_then ?_
      refine wp_ret ?_
      refine e_then_ret ?_
      exact r_ret1 S rfl rfl ⟨rfl, H.below⟩
    · skip
      replace c8 := not_eq_false_ c8
      
      refine wp_skip ?_
      refine e_then ?_
      refine wp_seq ?_
      refine c_region ?_
      refine l_pure S (p_move rfl) rfl rfl rfl ?_; clear S a; intro a S
      obtain ⟨hl, hrl, h3, h4, h5⟩ := h6 (by simpa using c4) (by simpa using c8)
      refine l_call S rfl rfl Try.func12 rfl rfl (impl_PairKeys.calls k A c l r _ (C_old hr0.out H) hc hl hrl h3) rfl rfl rfl ?_
      rintro e w ⟨A1, c1, rfl, hc1, hK, hb⟩
      refine ⟨_, rfl, ?_⟩; clear S a; intro a S
      have HK := Aside0.mk hK; clear hK; replace H := H.later hb; clear hb
      refine l_pure S (p_move rfl) rfl rfl rfl ?_; clear S a; intro a S
      refine l_pure S (p_extract rfl rfl) rfl rfl rfl ?_; clear S a; intro a S
      refine l_pure S (p_extract rfl rfl) rfl rfl rfl ?_; clear S a; intro a S
      refine l_pure S (p_assign rfl) rfl rfl rfl ?_; clear S a; intro a S
      refine l_pure S (p_assign rfl) rfl rfl rfl ?_; clear S a; intro a S
      refine l_nil ?_
      refine e_then ?_
      refine wp_seq ?_
      refine c_region ?_
      refine l_pure S (p_move rfl) rfl rfl rfl ?_; clear S a; intro a S
      refine l_pure S (p_move rfl) rfl rfl rfl ?_; clear S a; intro a S
      refine l_on S rfl rfl rfl rfl rfl ?_
      refine l_pure S (p_move rfl) rfl rfl rfl ?_; clear S a; intro a S
      refine l_on S rfl rfl rfl rfl rfl ?_
      refine l_pure S (p_move rfl) rfl rfl rfl ?_; clear S a; intro a S
      refine l_on S rfl rfl rfl rfl rfl ?_
      refine l_call S rfl rfl Try.func14 rfl rfl (PFnPairKeys.spec_PairKeys.calls k _ _ l r _ (C_old hr0.out H) hc h4) rfl rfl rfl ?_
      rintro e w ⟨v0, rfl, hR, hb⟩
      refine ⟨_, rfl, ?_⟩; clear S a; intro a S
      replace H := H.later hb; have HK2 := Aside0.mk (C_later HK.out hb); obtain ⟨A2, c2, rfl, hc2, hK⟩ := Kd.R_reads hR; have HK3 := Aside0.mk hK; clear hK hR hb HK
      refine l_on S rfl rfl rfl rfl rfl ?_
      refine l_call S rfl rfl Try.func13 rfl rfl (PFnPairKeys.spec_SameTexts.calls k _ _ r _ _ r true _ HK2.out hc1 HK3.out hc2 h5) rfl rfl rfl ?_
      rintro e w ⟨rfl, hd⟩
      refine ⟨_, rfl, ?_⟩; clear S a; intro a S
      replace H := H.later hd.below; clear hd
      refine l_pure S (p_pick_t rfl rfl rfl) rfl rfl rfl ?_; clear S a; intro a S
      refine l_pure S (p_assign rfl) rfl rfl rfl ?_; clear S a; intro a S
      refine l_nil ?_
      refine e_then ?_
      refine wp_ret ?_
      exact r_ret1 S rfl rfl ⟨rfl, H.below⟩

end Go.Proofs.Ytcjdadfiedoflaa.pk
