/- FnEndOfLine: the law, walked. -/
import Derived.Test.YtbahngfpadjbhaaDoorDo
import Derived.Test.YtbahngfpadjbhaaDoorDp
import Derived.Test.YtbahngfpadjbhaaDoorSpEol
namespace Go.Proofs.YtbahngfpadjbhaaDoor.dec
open Go.RowKit Go.Proofs.HHW Go.Proofs.YtbahngfpadjbhaaDoorW.PrintWords
set_option linter.unusedVariables false
set_option linter.unusedSimpArgs false
namespace el
theorem ag3 : aggB Tryd.prog 3 = some false := by kernel_rfl
theorem ag4 : aggB Tryd.prog 4 = some false := by kernel_rfl
theorem sz3 : szB Tryd.prog 3 = some 1 := by kernel_rfl
theorem sz4 : szB Tryd.prog 4 = some 1 := by kernel_rfl
theorem zv3 : zvB Tryd.prog 3 = some (.int .i64 0) := by kernel_rfl
theorem zv4 : zvB Tryd.prog 4 = some (.bool false) := by kernel_rfl
theorem idle11 (p0 : Addr) (p1 : Addr) (p2 : Addr) (w : World) :
    CallsD Tryd.prog 11 #[.pointer (some p0), .pointer (some p1), .pointer (some p2)] .returning w fun e u' w' => e = .returned (.tuple #[]) ∧ u' = .returning ∧ w' = w := by
  refine callsD_of_wpS Tryd.func11 rfl fun c₀ cs hu => ?_
  apply wpS_seq
  apply wpS_region
  simp [wpOpsS, go_sem, recoverD, hu, Tryd.ntmps11, Exit.thenS]
  refine wpS_cond (t := false) (by simp [Act.eval, Array.replicate]) ?_
  simp only [Bool.false_eq_true, if_false]
  refine wpS_of_wp (wp_skip ?_)
  cases c₀
  simp_all [bodyPostS, results, Tryd.results11]
theorem door_ (wb w0 : World) (D L0 : dc.Bk) (g : Nat) (X : List Int) (p v : Nat) (cm : Bool) (M : Nat) (sec : Int) (sk : Bool) (eb : Value) (line : Nat) (er : Value) (hD : dc.Dec TY wb g X p v cm M sec sk eb line er D) (H : HH wb.heap.size wb w0 (D ++ L0)) (hl : line ≤ 1000000000000) (ae : Addr) (hE : wb.cell? ⟨2, 0, none⟩ = some (.iface 89 (.pointer (some ae)))) (hlt : 2 < wb.heap.size) : Calls Tryd.prog 13 #[.pointer (some ⟨g, 0, none⟩)] w0 fun e w' => ∃ b k n v' cm' M' D', e = .returned (.bool b) ∧ dc.eol X p = (b, k, n) ∧ dc.Dec TY wb g X (p + k) v' cm' M' sec sk eb (line + n) er D' ∧ HH wb.heap.size wb w' (D' ++ L0) := by
  refine c_enter (args := [.pointer (some ⟨g, 0, none⟩)]) (k := 4) Tryd.func13 rfl rfl rfl (fun a S => ?_)
  refine wp_seq ?_
  refine c_region ?_
  refine l_pure S (p_assign rfl) rfl rfl rfl ?_; clear S a; intro a S
  refine l_nil ?_
  refine e_then ?_
  refine wp_seq ?_
  refine c_region ?_
  refine l_pure S (p_move rfl) rfl rfl rfl ?_; clear S a; intro a S
  refine l_call S rfl rfl Tryd.func22 rfl rfl (en.takeEOL_ wb _ _ L0 g X p v cm M sec sk eb line er hD H hl ae hE hlt) rfl rfl rfl ?_
  rintro e w ⟨b, k, n, v', cm', M', D', rfl, he, hD', hH⟩
  refine ⟨_, rfl, ?_⟩; clear S a; intro a S
  refine l_pure S (p_assign rfl) rfl rfl rfl ?_; clear S a; intro a S
  refine l_nil ?_
  refine e_then ?_
  refine wp_ret ?_
  exact r_ret1 S rfl rfl ⟨b, k, n, v', cm', M', D', rfl, he, hD', hH⟩
theorem impl_eol (w0 : World) (s : ByteArray) (Az : Option Addr) (zs : List Int) (cz : Nat) (hC : (Kd.int .i64).C w0 Az zs.length zs) (hzc : zs.length ≤ cz) (hz : zs.length ≤ 1000) (hs : s.size ≤ 1000000) (ae : Addr) (hE : w0.cell? ⟨2, 0, none⟩ = some (.iface 89 (.pointer (some ae)))) (hlt : 2 < w0.heap.size) : Calls Tryd.prog 6 #[.string s, .slice Az zs.length cz] w0 fun e w' => ∃ b k n, dc.eol (ints s) 0 = (b, k, n) ∧ e = .returned (.tuple #[.int .i64 (k : Int), .bool b, .bool true]) ∧ Below w0.heap.size w0 w' := by
  have H := HH.start w0
  refine c_enter_d (args := [.string s, .slice Az zs.length cz]) (k := 19) Tryd.func6 rfl rfl rfl (fun a S => ?_)
  refine wp_seq ?_
  refine c_region ?_
  refine l_alloc (cs := _) S H rfl (fun w => al zv3) rfl rfl rfl ?_; clear S a H; intro g1 w a H S
  refine l_alloc (cs := _) S H rfl (fun w => al zv4) rfl rfl rfl ?_; clear S a H; intro g2 w a H S
  refine l_alloc (cs := _) S H rfl (fun w => al zv4) rfl rfl rfl ?_; clear S a H; intro g3 w a H S
  refine l_nil ?_
  refine e_then ?_
  refine wp_seq ?_
  refine c_region ?_
  refine l_pure S (p_func rfl rfl) rfl rfl rfl ?_; clear S a; intro a S
  refine l_defer (xs := []) (us := []) (vs := []) S rfl rfl rfl rfl rfl ?_; clear S a; intro a S
  refine l_nil ?_
  refine e_then ?_
  refine wp_seq ?_
  refine c_region ?_
  refine l_pure S (p_move rfl) rfl rfl rfl ?_; clear S a; intro a S
  refine l_pure S (p_move rfl) rfl rfl rfl ?_; clear S a; intro a S
  have hcon := mk.decoder_ w0 _ _ s Az zs cz H hC hzc hz hs
  refine l_call S rfl rfl Tryd.func12 rfl rfl (hcon) rfl rfl rfl ?_
  rintro e w ⟨g, eb, me, D, v, cm, M, rfl, hD, hme, hH⟩
  refine ⟨_, rfl, ?_⟩; clear S a; intro a S
  clear H hcon; have H := hH; clear hH
  refine l_pure S (p_assign rfl) rfl rfl rfl ?_; clear S a; intro a S
  refine l_nil ?_
  refine e_then ?_
  refine wp_seq ?_
  refine c_region ?_
  refine l_pure S (p_move rfl) rfl rfl rfl ?_; clear S a; intro a S
  have hcon := door_ w0 _ _ _ g (ints s) 0 v cm M 5 false eb 1 .nilIface hD H (by omega) ae hE hlt
  refine l_call S rfl rfl Tryd.func13 rfl rfl (hcon) rfl rfl rfl ?_
  rintro e w ⟨b, k, n, v', cm', M', D', rfl, he, hD', hH⟩
  refine ⟨_, rfl, ?_⟩; clear S a; intro a S
  clear H hcon; have H := hH; clear hH
  refine l_store S H rfl rfl rfl (Upd.skip D' (Upd.skip me (.there .here))) (by first | decide | simp [Value.cells]) (fun w u hc hz => st1 sz4 rfl hc hz) rfl rfl ?_; clear S a H; intro w a H S
  refine l_nil ?_
  refine e_then ?_
  refine wp_seq ?_
  refine c_region ?_
  refine l_pure S (p_move rfl) rfl rfl rfl ?_; clear S a; intro a S
  have hcon := place_ w0 _ _ _ g (ints s) (0 + k) v' cm' M' 5 false eb (1 + n) .nilIface hD' H
  refine l_call S rfl rfl Tryd.func14 rfl rfl (hcon) rfl rfl rfl ?_
  rintro e w ⟨rfl, hH⟩
  refine ⟨_, rfl, ?_⟩; clear S a; intro a S
  clear H hcon; have H := hH; clear hH
  refine l_pure S (p_move rfl) rfl rfl rfl ?_; clear S a; intro a S
  refine l_pure S (p_extract rfl rfl) rfl rfl rfl ?_; clear S a; intro a S
  refine l_pure S (p_extract rfl rfl) rfl rfl rfl ?_; clear S a; intro a S
  refine l_store S H rfl rfl rfl (Upd.skip D' (Upd.skip me (.there (.there .here)))) (by first | decide | simp [Value.cells]) (fun w u hc hz => st1 sz3 rfl hc hz) rfl rfl ?_; clear S a H; intro w a H S
  refine l_nil ?_
  refine e_then ?_
  refine wp_seq ?_
  refine d_start (id := 5) [3, 4] 5 #[false, false, false, false, false] H rfl rfl rfl (fun w H => ?_)
  refine d_read (i := 0) #[true, false, false, false, false] S H rfl (r_load rfl (List.mem_append_right _ (List.mem_append_right _ (List.mem_cons_of_mem _ (List.mem_cons_of_mem _ List.mem_cons_self)))) rfl (fun w hc => ld1 ag3 hc)) (wanted_none rfl) rfl rfl (by kernel_rfl) (hq_d (fun t => by simp [results, Tryd.results6, Array.getElem?_setIfInBounds])) ?_; clear S a; intro a S
  refine d_read (i := 1) #[true, true, false, false, false] S H rfl (r_load rfl (List.mem_append_right _ (List.mem_append_right _ (List.mem_cons_of_mem _ List.mem_cons_self))) rfl (fun w hc => ld1 ag4 hc)) (wanted_none rfl) rfl rfl (by kernel_rfl) (hq_d (fun t => by simp [results, Tryd.results6, Array.getElem?_setIfInBounds])) ?_; clear S a; intro a S
  refine d_storeS (i := 2) #[true, true, true, false, false] S H rfl rfl rfl rfl (Upd.skip D' (Upd.skip me (.there (.there .here)))) rfl (by first | decide | simp [Value.cells]) (fun w u hc hz => st1 sz3 rfl hc hz) (wanted_none rfl) rfl (by kernel_rfl) rfl ?_; clear S a H; intro w a H S
  refine d_store (i := 3) #[true, true, true, true, false] S H rfl rfl rfl rfl (Upd.skip D' (Upd.skip me (.there .here))) (by first | decide | simp [Value.cells]) (fun w u hc hz => st1 sz4 rfl hc hz) (wanted_none rfl) rfl (by kernel_rfl) rfl ?_; clear S a H; intro w a H S
  refine d_store (i := 4) #[true, true, true, true, true] S H rfl rfl rfl rfl (Upd.skip D' (Upd.skip me .here)) (by first | decide | simp [Value.cells]) (fun w u hc hz => st1 sz4 rfl hc hz) (wanted_none rfl) rfl (by kernel_rfl) rfl ?_; clear S a H; intro w a H S
  refine d_done (by kernel_rfl) ?_
  refine e_then ?_
  refine wp_ret ?_
  rw [Nat.zero_add] at H
  exact r_door (v := .tuple #[.int .i64 (k : Int), .bool b, .bool true]) S (idle11 _ _ _) (invokes Tryd.func11 rfl rfl) (res_c3 rfl rfl rfl rfl (lv ag3 H (List.mem_append_right _ (List.mem_append_right _ (List.mem_cons_of_mem _ (List.mem_cons_of_mem _ List.mem_cons_self)))) rfl) (lv ag4 H (List.mem_append_right _ (List.mem_append_right _ (List.mem_cons_of_mem _ List.mem_cons_self))) rfl) (lv ag4 H (List.mem_append_right _ (List.mem_append_right _ List.mem_cons_self)) rfl)) ⟨b, k, n, he, rfl, H.below⟩
theorem spec_eq {s : ByteArray} {b : Bool} {k n : Nat} (h : dc.eol (ints s) 0 = (b, k, n)) : PFnEndOfLine.spec_LineEnd.f s = some ((k : Int), b) := by
  have h0 : Go.Proofs.YtbahngfpadjbhaaDoorW.PrintWords.bt s 0 = (ints s).getD 0 0 := dc.bt_ints s 0
  have h1 : Go.Proofs.YtbahngfpadjbhaaDoorW.PrintWords.bt s 1 = (ints s).getD 1 0 := dc.bt_ints s 1
  unfold PFnEndOfLine.spec_LineEnd.f
  unfold dc.eol at h
  rw [ints_len] at h
  rw [h0, h1]
  by_cases e0 : s.size = 0
  · have : s.toList = [] := by
      rw [ByteArray.toList_eq]
      exact List.length_eq_zero_iff.1 e0
    rw [if_pos this]
    rw [if_pos (by omega)] at h
    cases h; rfl
  · have : s.toList ≠ [] := fun e => e0 (by rw [ByteArray.toList_eq] at e; exact congrArg List.length e)
    rw [if_neg this, if_pos (by omega)]
    rw [if_neg (by omega)] at h
    split at h
    · rename_i h10; rw [if_pos h10]; cases h; rfl
    · rename_i h10; rw [if_neg h10]
      split at h
      · rename_i h13; rw [if_pos h13]
        split at h
        · rw [if_pos (by omega)]; cases h; rfl
        · rw [if_neg (by omega), if_pos (by omega)]
          split at h
          · rename_i h11; rw [if_pos h11]; cases h; rfl
          · rename_i h11; rw [if_neg h11]; cases h; rfl
      · rename_i h13; rw [if_neg h13]; cases h; rfl
theorem law_calls (w0 : World) (s : ByteArray) (Az : Option Addr) (zs : List Int) (cz : Nat) (hC : (Kd.int .i64).C w0 Az zs.length zs) (hzc : zs.length ≤ cz) (ae : Addr) (hE : w0.cell? ⟨2, 0, none⟩ = some (.iface 89 (.pointer (some ae)))) (hlt : 2 < w0.heap.size) : Calls Tryd.prog 3 #[.string s, .slice Az zs.length cz] w0 fun e w' => e = .returned (.bool true) ∧ Below w0.heap.size w0 w' := by
  have H := HH.start w0
  refine c_enter (args := [.string s, .slice Az zs.length cz]) (k := 47) Tryd.func3 rfl rfl rfl (fun a S => ?_)
  refine wp_seq ?_
  refine c_region ?_
  refine l_pure S (p_assign rfl) rfl rfl rfl ?_; clear S a; intro a S
  refine l_nil ?_
  refine e_then ?_
  refine wp_seq ?_
  refine wp_seq ?_
  refine c_region ?_
  refine l_pure S (p_move rfl) rfl rfl rfl ?_; clear S a; intro a S
  refine l_pure S (p_lens Tryd.underlying9 rfl) rfl rfl rfl ?_; clear S a; intro a S
  refine l_pure S (p_gtr rfl rfl) rfl rfl rfl ?_; clear S a; intro a S
  refine l_pure S (p_move rfl) rfl rfl rfl ?_; clear S a; intro a S
  refine l_split (S.of 13 rfl) (fun bc3 => ?_) (fun bc3 => ?_)
  · skip
    have c3 := bc3
    have c3 := of_decide_eq_true c3
    refine l_off S rfl rfl rfl rfl bc3 rfl rfl ?_; clear S a; intro a S
    refine l_off S rfl rfl rfl rfl bc3 rfl rfl ?_; clear S a; intro a S
    refine l_off S rfl rfl rfl rfl bc3 rfl rfl ?_; clear S a; intro a S
    refine l_pure S (p_pick_t rfl bc3 rfl) rfl rfl rfl ?_; clear S a; intro a S
    refine l_nil ?_
    refine e_then ?_
    refine c_cond (b := true) S rfl (fun _ => ?_) (fun h => by cases h)
    refine wp_seq ?_
    refine c_region ?_
    refine l_pure S (p_assign rfl) rfl rfl rfl ?_; clear S a; intro a S
    refine l_nil ?_
    refine e_then ?_
    refine wp_ret ?_
    refine e_then_ret ?_
    first | exact r_ret1 S rfl rfl ⟨rfl, H.below⟩ | exact r_ret1 S rfl rfl ⟨by rw [beq_self_eq_true], H.below⟩ | exact r_ret1 S rfl rfl ⟨by simp, H.below⟩
  · skip
    have c3 := bc3
    have c3 := of_decide_eq_false c3
    refine l_on S rfl rfl rfl rfl bc3 ?_
    refine l_pure S (p_move rfl) rfl rfl rfl ?_; clear S a; intro a S
    refine l_on S rfl rfl rfl rfl bc3 ?_
    refine l_pure S (p_len Tryd.underlying22 rfl) rfl rfl rfl ?_; clear S a; intro a S
    refine l_on S rfl rfl rfl rfl bc3 ?_
    refine l_pure S (p_gtr rfl rfl) rfl rfl rfl ?_; clear S a; intro a S
    refine l_pure S (p_pick_f rfl bc3 rfl) rfl rfl rfl ?_; clear S a; intro a S
    refine l_nil ?_
    refine e_then ?_
    refine c_cond S rfl (fun c8 => ?_) (fun c8 => ?_)
    · skip
      have c8 := of_decide_eq_true c8
      refine wp_seq ?_
      refine c_region ?_
      refine l_pure S (p_assign rfl) rfl rfl rfl ?_; clear S a; intro a S
      refine l_nil ?_
      refine e_then ?_
      refine wp_ret ?_
      refine e_then_ret ?_
      first | exact r_ret1 S rfl rfl ⟨rfl, H.below⟩ | exact r_ret1 S rfl rfl ⟨by rw [beq_self_eq_true], H.below⟩ | exact r_ret1 S rfl rfl ⟨by simp, H.below⟩
    · skip
      have c8 := of_decide_eq_false c8
      refine wp_skip ?_
      refine e_then ?_
      refine wp_seq ?_
      refine wp_seq ?_
      refine c_region ?_
      refine l_pure S (p_move rfl) rfl rfl rfl ?_; clear S a; intro a S
      refine l_pure S (p_lens Tryd.underlying9 rfl) rfl rfl rfl ?_; clear S a; intro a S
      refine l_pure S (p_gtr rfl rfl) rfl rfl rfl ?_; clear S a; intro a S
      refine l_pure S (p_move rfl) rfl rfl rfl ?_; clear S a; intro a S
      refine l_split (S.of 21 rfl) (fun bc11 => ?_) (fun bc11 => ?_)
      · skip
        have c11 := bc11
        have c11 := of_decide_eq_true c11
        refine l_off S rfl rfl rfl rfl bc11 rfl rfl ?_; clear S a; intro a S
        refine l_off S rfl rfl rfl rfl bc11 rfl rfl ?_; clear S a; intro a S
        refine l_off S rfl rfl rfl rfl bc11 rfl rfl ?_; clear S a; intro a S
        refine l_pure S (p_pick_t rfl bc11 rfl) rfl rfl rfl ?_; clear S a; intro a S
        refine l_nil ?_
        refine e_then ?_
        refine c_cond (b := true) S rfl (fun _ => ?_) (fun h => by cases h)
        refine wp_seq ?_
        refine c_region ?_
        refine l_pure S (p_assign rfl) rfl rfl rfl ?_; clear S a; intro a S
        refine l_nil ?_
        refine e_then ?_
        refine wp_ret ?_
        refine e_then_ret ?_
        first | exact r_ret1 S rfl rfl ⟨rfl, H.below⟩ | exact r_ret1 S rfl rfl ⟨by rw [beq_self_eq_true], H.below⟩ | exact r_ret1 S rfl rfl ⟨by simp, H.below⟩
      · skip
        have c11 := bc11
        have c11 := of_decide_eq_false c11
        refine l_on S rfl rfl rfl rfl bc11 ?_
        refine l_pure S (p_move rfl) rfl rfl rfl ?_; clear S a; intro a S
        refine l_on S rfl rfl rfl rfl bc11 ?_
        refine l_pure S (p_len Tryd.underlying22 rfl) rfl rfl rfl ?_; clear S a; intro a S
        refine l_on S rfl rfl rfl rfl bc11 ?_
        refine l_pure S (p_gtr rfl rfl) rfl rfl rfl ?_; clear S a; intro a S
        refine l_pure S (p_pick_f rfl bc11 rfl) rfl rfl rfl ?_; clear S a; intro a S
        refine l_nil ?_
        refine e_then ?_
        refine c_cond S rfl (fun c16 => ?_) (fun c16 => ?_)
        · skip
          have c16 := of_decide_eq_true c16
          refine wp_seq ?_
          refine c_region ?_
          refine l_pure S (p_assign rfl) rfl rfl rfl ?_; clear S a; intro a S
          refine l_nil ?_
          refine e_then ?_
          refine wp_ret ?_
          refine e_then_ret ?_
          first | exact r_ret1 S rfl rfl ⟨rfl, H.below⟩ | exact r_ret1 S rfl rfl ⟨by rw [beq_self_eq_true], H.below⟩ | exact r_ret1 S rfl rfl ⟨by simp, H.below⟩
        · skip
          have c16 := of_decide_eq_false c16
          refine wp_skip ?_
          refine e_then ?_
          refine wp_seq ?_
          refine c_region ?_
          refine l_pure S (p_move rfl) rfl rfl rfl ?_; clear S a; intro a S
          obtain ⟨⟨b, k, n⟩, he⟩ : ∃ r, dc.eol (ints s) 0 = r := ⟨_, rfl⟩
          refine l_call S rfl rfl Tryd.func5 rfl rfl (PFnEndOfLine.spec_LineEnd.calls s (k : Int) b _ (spec_eq he)) rfl rfl rfl ?_
          rintro e w ⟨rfl, hd⟩
          refine ⟨_, rfl, ?_⟩; clear S a; intro a S
          replace H := H.later hd.below; clear hd
          refine l_pure S (p_move rfl) rfl rfl rfl ?_; clear S a; intro a S
          refine l_pure S (p_extract rfl rfl) rfl rfl rfl ?_; clear S a; intro a S
          refine l_pure S (p_extract rfl rfl) rfl rfl rfl ?_; clear S a; intro a S
          refine l_pure S (p_assign rfl) rfl rfl rfl ?_; clear S a; intro a S
          refine l_pure S (p_assign rfl) rfl rfl rfl ?_; clear S a; intro a S
          refine l_nil ?_
          refine e_then ?_
          refine wp_seq ?_
          refine c_region ?_
          refine l_pure S (p_move rfl) rfl rfl rfl ?_; clear S a; intro a S
          refine l_pure S (p_move rfl) rfl rfl rfl ?_; clear S a; intro a S
          have hcon := impl_eol w s Az zs cz (C_old hC H) hzc (by omega) (by omega) ae ((H.old hlt).trans hE) (Nat.lt_of_lt_of_le hlt H.below.size)
          refine l_call S rfl rfl Tryd.func6 rfl rfl (hcon) rfl rfl rfl ?_
          rintro e w ⟨b', k', n', he', rfl, hb⟩
          refine ⟨_, rfl, ?_⟩; clear S a; intro a S
          replace H := H.later hb; clear hb hcon
          rw [he] at he'; cases he'
          refine l_pure S (p_move rfl) rfl rfl rfl ?_; clear S a; intro a S
          refine l_pure S (p_extract rfl rfl) rfl rfl rfl ?_; clear S a; intro a S
          refine l_pure S (p_extract rfl rfl) rfl rfl rfl ?_; clear S a; intro a S
          refine l_pure S (p_extract rfl rfl) rfl rfl rfl ?_; clear S a; intro a S
          refine l_pure S (p_assign rfl) rfl rfl rfl ?_; clear S a; intro a S
          refine l_pure S (p_assign rfl) rfl rfl rfl ?_; clear S a; intro a S
          refine l_pure S (p_assign rfl) rfl rfl rfl ?_; clear S a; intro a S
          refine l_nil ?_
          refine e_then ?_
          refine wp_seq ?_
          refine c_region ?_
          refine l_pure S (p_move rfl) rfl rfl rfl ?_; clear S a; intro a S
          refine l_pure S (p_move rfl) rfl rfl rfl ?_; clear S a; intro a S
          refine l_on S rfl rfl rfl rfl rfl ?_
          refine l_pure S (p_move rfl) rfl rfl rfl ?_; clear S a; intro a S
          refine l_on S rfl rfl rfl rfl rfl ?_
          refine l_pure S (p_move rfl) rfl rfl rfl ?_; clear S a; intro a S
          refine l_on S rfl rfl rfl rfl rfl ?_
          refine l_pure S (p_beql Tryd.underlying4 rfl rfl) rfl rfl rfl ?_; clear S a; intro a S
          refine l_pure S (p_pick_t rfl rfl rfl) rfl rfl rfl ?_; clear S a; intro a S
          refine l_pure S (p_move rfl) rfl rfl rfl ?_; clear S a; intro a S
          refine l_on S rfl rfl rfl rfl (beq_self_eq_true _) ?_
          refine l_pure S (p_move rfl) rfl rfl rfl ?_; clear S a; intro a S
          refine l_on S rfl rfl rfl rfl (beq_self_eq_true _) ?_
          refine l_pure S (p_move rfl) rfl rfl rfl ?_; clear S a; intro a S
          refine l_on S rfl rfl rfl rfl (beq_self_eq_true _) ?_
          refine l_pure S (p_eql rfl rfl) rfl rfl rfl ?_; clear S a; intro a S
          refine l_pure S (p_pick_t rfl (beq_self_eq_true _) rfl) rfl rfl rfl ?_; clear S a; intro a S
          refine l_pure S (p_assign rfl) rfl rfl rfl ?_; clear S a; intro a S
          refine l_nil ?_
          refine e_then ?_
          refine wp_ret ?_
          first | exact r_ret1 S rfl rfl ⟨rfl, H.below⟩ | exact r_ret1 S rfl rfl ⟨by rw [beq_self_eq_true], H.below⟩ | exact r_ret1 S rfl rfl ⟨by simp, H.below⟩
end el
end Go.Proofs.YtbahngfpadjbhaaDoor.dec
