/- The decoder: enough bytes; the end of a line. -/
import Derived.Test.YtbahngfpadjbhaaDoorGn
namespace Go.Proofs.YtbahngfpadjbhaaDoor.dec
open Go.RowKit Go.Proofs.HHW Go.Proofs.YtbahngfpadjbhaaDoorW.PrintWords
set_option linter.unusedVariables false
set_option linter.unusedSimpArgs false
namespace ge
theorem ag2 : aggB Tryd.prog 2 = some false := by kernel_rfl
theorem ag3 : aggB Tryd.prog 3 = some false := by kernel_rfl
theorem ag32 : aggB Tryd.prog 32 = some false := by kernel_rfl
theorem ag4 : aggB Tryd.prog 4 = some false := by kernel_rfl
theorem fa54_1 (w : World) (g o : Nat) : (Instr.fieldAt 54 (.pointer (some ⟨g, o, none⟩)) 1).run Tryd.prog w = .ok (.pointer (some ⟨g, o + 1, none⟩)) w := by kernel_rfl
theorem fa54_3 (w : World) (g o : Nat) : (Instr.fieldAt 54 (.pointer (some ⟨g, o, none⟩)) 3).run Tryd.prog w = .ok (.pointer (some ⟨g, o + 3, none⟩)) w := by kernel_rfl
theorem fa54_4 (w : World) (g o : Nat) : (Instr.fieldAt 54 (.pointer (some ⟨g, o, none⟩)) 4).run Tryd.prog w = .ok (.pointer (some ⟨g, o + 4, none⟩)) w := by kernel_rfl
theorem fa54_8 (w : World) (g o : Nat) : (Instr.fieldAt 54 (.pointer (some ⟨g, o, none⟩)) 8).run Tryd.prog w = .ok (.pointer (some ⟨g, o + 8, none⟩)) w := by kernel_rfl
theorem sz2 : szB Tryd.prog 2 = some 1 := by kernel_rfl
theorem ensure1_ (wb w0 : World) (D0 L0 : dc.Bk) (g : Nat) (X : List Int) (p v : Nat) (cm : Bool) (M : Nat) (sec : Int) (sk : Bool) (eb : Value) (line : Nat) (er : Value) (hD0 : dc.Dec TY wb g X p v cm M sec sk eb line er D0) (H : HH wb.heap.size wb w0 (D0 ++ L0)) (i : Nat) (hi : i ≤ 1000000) (hv : v < p + i) (ae : Addr) (hE : wb.cell? ⟨2, 0, none⟩ = some (.iface 89 (.pointer (some ae)))) (hlt : 2 < wb.heap.size) : Calls Tryd.prog 56 #[.pointer (some ⟨g, 0, none⟩), .int .i64 (i : Int)] w0 fun e w' => e = .returned (.bool (decide (p + i ≤ X.length))) ∧ ∃ v' cm' M' D', dc.Dec TY wb g X p v' cm' M' sec sk eb line er D' ∧ ∃ G, HH wb.heap.size wb w' (D' ++ (G ++ L0)) ∧ dc.Keeps D0 D' G ∧ (p + i ≤ X.length → p + i ≤ v') ∧ (X.length < p + i → v' = X.length) := by
  refine c_enter (args := [.pointer (some ⟨g, 0, none⟩), .int .i64 (i : Int)]) (k := 21) Tryd.func56 rfl rfl rfl (fun a S => ?_)
  refine wp_seq ?_
  refine c_region ?_
  refine l_pure S (p_assign rfl) rfl rfl rfl ?_; clear S a; intro a S
  refine l_nil ?_
  refine e_then ?_
  refine wp_block ?_
  refine c_loop (σ := Nat × Bool × Nat × dc.Bk × dc.Bk) (fun s_ a w => match s_ with | ⟨v, cm, M, D, G⟩ => SL a 23 [] [(0, .pointer (some ⟨g, 0, none⟩)), (1, .int .i64 (i : Int))] ∧ HH (wb.heap.size) wb w (D ++ (G ++ L0)) ∧ (dc.Dec TY wb g X p v cm M sec sk eb line er D ∧ dc.Keeps D0 D G ∧ v < p + i)) (fun s_ => match s_ with | ⟨v, cm, M, D, G⟩ => (if cm then 0 else M + 1)) ⟨v, cm, M, D0, []⟩ ⟨S.only ⟨rfl, rfl, trivial⟩, H, ⟨hD0, dc.Keeps.refl _, hv⟩⟩ ?_
  clear S a H; rintro ⟨v, cm, M, D, G⟩ a w ⟨S, H, hinv⟩
  obtain ⟨hD, hKe, hv⟩ := hinv
  obtain ⟨rd, A, l, c, r0, mb, mr, hDe, hbuf, hrd, hr0, hvX, hdr, hsz, hpX⟩ := id hD
  subst hDe
  replace H := dc.open_.1 H
  refine wp_block ?_
  refine wp_seq ?_
  refine wp_seq ?_
  refine c_region ?_
  refine l_pure S (p_move rfl) rfl rfl rfl ?_; clear S a; intro a S
  refine l_pure S (p_nilCheck rfl) rfl rfl rfl ?_; clear S a; intro a S
  refine l_pure S (p_fieldAddr rfl (fun w => fa54_4 w _ _)) rfl rfl rfl ?_; clear S a; intro a S
  refine l_read S H (r_load rfl List.mem_cons_self rfl (fun w hc => ld1 ag4 hc)) rfl rfl rfl ?_; clear S a; intro a S
  refine l_nil ?_
  refine e_then ?_
  refine c_cond S rfl (fun c3 => ?_) (fun c3 => ?_)
  · skip
    subst c3
    refine wp_seq ?_
    refine c_region ?_
    refine l_pure S (p_assign rfl) rfl rfl rfl ?_; clear S a; intro a S
    refine l_nil ?_
    refine e_then ?_
    refine wp_ret ?_
    refine e_then_ret ?_
    refine e_in_ret ?_
    refine e_then_ret ?_
    refine e_in_ret ?_
    have hall := hD.all
    exact r_ret1 S rfl rfl ⟨by rw [decide_eq_false (show ¬ p + i ≤ X.length by omega)], v, true, M, _, hD, _, dc.open_.2 H, hKe, fun h => absurd h (by omega), fun _ => hall⟩
  · skip
    subst c3
    refine wp_skip ?_
    refine e_then ?_
    refine wp_seq ?_
    refine c_region ?_
    refine l_pure S (p_move rfl) rfl rfl rfl ?_; clear S a; intro a S
    replace H := dc.open_.2 H
    have hcon := gm.readMore_ wb _ _ (G ++ L0) g X p v M sec sk eb line er hD H ae hE hlt
    refine l_call S rfl rfl Tryd.func66 rfl rfl (hcon) rfl rfl rfl ?_
    rintro e w ⟨rfl, v', cm', M', D', hD', G', hH, hK', hvv, hpr⟩
    refine ⟨_, rfl, ?_⟩; clear S a; intro a S
    clear H hcon; have H := hH; rw [← List.append_assoc G' G L0] at H; clear hH
    obtain ⟨rd', A', l', c', r0', mb', mr', hDe, hbuf', hrd', hr0', hvX', hdr', hsz', hpX'⟩ := id hD'
    subst hDe
    replace H := dc.open_.1 H
    refine l_nil ?_
    refine e_then ?_
    refine wp_seq ?_
    refine d_start (id := 4) [] 12 #[false, false, false, false, false, false, false, false, false, false, false, false] H rfl rfl rfl (fun w H => ?_)
    refine d_pure (i := 0) #[true, false, false, false, false, false, false, false, false, false, false, false] S rfl (p_move rfl) (wanted_none rfl) rfl rfl (by kernel_rfl) (fun _ _ _ h => h) ?_; clear S a; intro a S
    refine d_pure (i := 1) #[true, true, false, false, false, false, false, false, false, false, false, false] S rfl (p_nilCheck rfl) (wanted_none rfl) rfl rfl (by kernel_rfl) (fun _ _ _ h => h) ?_; clear S a; intro a S
    refine d_pure (i := 2) #[true, true, true, false, false, false, false, false, false, false, false, false] S rfl (p_fieldAddr rfl (fun w => fa54_3 w _ _)) (wanted_none rfl) rfl rfl (by kernel_rfl) (fun _ _ _ h => h) ?_; clear S a; intro a S
    refine d_read (i := 3) #[true, true, true, true, false, false, false, false, false, false, false, false] S H rfl (r_load rfl List.mem_cons_self rfl (fun w hc => ld1 ag3 hc)) (wanted_none rfl) rfl rfl (by kernel_rfl) (fun _ _ _ h => h) ?_; clear S a; intro a S
    refine d_pure (i := 4) #[true, true, true, true, true, false, false, false, false, false, false, false] S rfl (p_move rfl) (wanted_none rfl) rfl rfl (by kernel_rfl) (fun _ _ _ h => h) ?_; clear S a; intro a S
    refine d_pure (i := 5) #[true, true, true, true, true, true, false, false, false, false, false, false] S rfl (p_add rfl rfl (nat_add (x := (r0' + p)) (y := i) (by omega))) (wanted_none rfl) rfl rfl (by kernel_rfl) (fun _ _ _ h => h) ?_; clear S a; intro a S
    refine d_pure (i := 6) #[true, true, true, true, true, true, true, false, false, false, false, false] S rfl (p_move rfl) (wanted_none rfl) rfl rfl (by kernel_rfl) (fun _ _ _ h => h) ?_; clear S a; intro a S
    refine d_pure (i := 7) #[true, true, true, true, true, true, true, true, false, false, false, false] S rfl (p_nilCheck rfl) (wanted_none rfl) rfl rfl (by kernel_rfl) (fun _ _ _ h => h) ?_; clear S a; intro a S
    refine d_pure (i := 8) #[true, true, true, true, true, true, true, true, true, false, false, false] S rfl (p_fieldAddr rfl (fun w => fa54_1 w _ _)) (wanted_none rfl) rfl rfl (by kernel_rfl) (fun _ _ _ h => h) ?_; clear S a; intro a S
    refine d_read (i := 9) #[true, true, true, true, true, true, true, true, true, true, false, false] S H rfl (r_load rfl List.mem_cons_self rfl (fun w hc => ld1 ag32 hc)) (wanted_none rfl) rfl rfl (by kernel_rfl) (fun _ _ _ h => h) ?_; clear S a; intro a S
    refine d_pure (i := 10) #[true, true, true, true, true, true, true, true, true, true, true, false] S rfl (p_len Tryd.underlying32 rfl) (wanted_none rfl) rfl rfl (by kernel_rfl) (fun _ _ _ h => h) ?_; clear S a; intro a S
    refine d_pure (i := 11) #[true, true, true, true, true, true, true, true, true, true, true, true] S rfl (p_leq rfl rfl) (wanted_none rfl) rfl rfl (by kernel_rfl) (fun _ _ _ h => h) ?_; clear S a; intro a S
    refine d_done (by kernel_rfl) ?_
    refine e_then ?_
    refine c_cond S rfl (fun c6 => ?_) (fun c6 => ?_)
    · skip
      have c6 := of_decide_eq_true c6
      refine wp_seq ?_
      refine c_region ?_
      refine l_pure S (p_assign rfl) rfl rfl rfl ?_; clear S a; intro a S
      refine l_nil ?_
      refine e_then ?_
      refine wp_ret ?_
      refine e_in_ret ?_
      refine e_then_ret ?_
      refine e_in_ret ?_
      exact r_ret1 S rfl rfl ⟨by rw [decide_eq_true (show p + i ≤ X.length by omega)], v', cm', M', _, hD', _, dc.open_.2 H, hKe.trans hK', fun _ => by omega, fun h => absurd h (by omega)⟩
    · skip
      have c6 := of_decide_eq_false c6
      refine wp_skip ?_
      refine e_in 1 ?_
      replace H := dc.open_.2 H
      refine e_then ?_
      exact ⟨⟨v', cm', M', _, G' ++ G⟩, ⟨S.only ⟨rfl, rfl, trivial⟩, H, ⟨hD', hKe.trans hK', by omega⟩⟩, (show (if cm' then 0 else M' + 1) < (if false then 0 else M + 1) from by rcases hpr with h | h <;> simp [h] <;> (try split) <;> omega)⟩
theorem ensure_ (wb w0 : World) (D0 L0 : dc.Bk) (g : Nat) (X : List Int) (p v : Nat) (cm : Bool) (M : Nat) (sec : Int) (sk : Bool) (eb : Value) (line : Nat) (er : Value) (hD0 : dc.Dec TY wb g X p v cm M sec sk eb line er D0) (H : HH wb.heap.size wb w0 (D0 ++ L0)) (i : Nat) (hi : i ≤ 1000000) (ae : Addr) (hE : wb.cell? ⟨2, 0, none⟩ = some (.iface 89 (.pointer (some ae)))) (hlt : 2 < wb.heap.size) : Calls Tryd.prog 27 #[.pointer (some ⟨g, 0, none⟩), .int .i64 (i : Int)] w0 fun e w' => e = .returned (.bool (decide (p + i ≤ X.length))) ∧ ∃ v' cm' M' D', dc.Dec TY wb g X p v' cm' M' sec sk eb line er D' ∧ ∃ G, HH wb.heap.size wb w' (D' ++ (G ++ L0)) ∧ dc.Keeps D0 D' G ∧ (p + i ≤ X.length → p + i ≤ v') ∧ (X.length < p + i → v' = X.length) := by
  obtain ⟨rd, A, l, c, r0, mb, mr, hDe, hbuf, hrd, hr0, hvX, hdr, hsz, hpX⟩ := id hD0
  subst hDe
  replace H := dc.open_.1 H
  refine c_enter (args := [.pointer (some ⟨g, 0, none⟩), .int .i64 (i : Int)]) (k := 18) Tryd.func27 rfl rfl rfl (fun a S => ?_)
  refine wp_seq ?_
  refine c_region ?_
  refine l_pure S (p_assign rfl) rfl rfl rfl ?_; clear S a; intro a S
  refine l_nil ?_
  refine e_then ?_
  refine wp_seq ?_
  refine wp_seq ?_
  refine d_start (id := 1) [] 12 #[false, false, false, false, false, false, false, false, false, false, false, false] H rfl rfl rfl (fun w H => ?_)
  refine d_pure (i := 0) #[true, false, false, false, false, false, false, false, false, false, false, false] S rfl (p_move rfl) (wanted_none rfl) rfl rfl (by kernel_rfl) (fun _ _ _ h => h) ?_; clear S a; intro a S
  refine d_pure (i := 1) #[true, true, false, false, false, false, false, false, false, false, false, false] S rfl (p_nilCheck rfl) (wanted_none rfl) rfl rfl (by kernel_rfl) (fun _ _ _ h => h) ?_; clear S a; intro a S
  refine d_pure (i := 2) #[true, true, true, false, false, false, false, false, false, false, false, false] S rfl (p_fieldAddr rfl (fun w => fa54_3 w _ _)) (wanted_none rfl) rfl rfl (by kernel_rfl) (fun _ _ _ h => h) ?_; clear S a; intro a S
  refine d_read (i := 3) #[true, true, true, true, false, false, false, false, false, false, false, false] S H rfl (r_load rfl List.mem_cons_self rfl (fun w hc => ld1 ag3 hc)) (wanted_none rfl) rfl rfl (by kernel_rfl) (fun _ _ _ h => h) ?_; clear S a; intro a S
  refine d_pure (i := 4) #[true, true, true, true, true, false, false, false, false, false, false, false] S rfl (p_move rfl) (wanted_none rfl) rfl rfl (by kernel_rfl) (fun _ _ _ h => h) ?_; clear S a; intro a S
  refine d_pure (i := 5) #[true, true, true, true, true, true, false, false, false, false, false, false] S rfl (p_add rfl rfl (nat_add (x := (r0 + p)) (y := i) (by omega))) (wanted_none rfl) rfl rfl (by kernel_rfl) (fun _ _ _ h => h) ?_; clear S a; intro a S
  refine d_pure (i := 6) #[true, true, true, true, true, true, true, false, false, false, false, false] S rfl (p_move rfl) (wanted_none rfl) rfl rfl (by kernel_rfl) (fun _ _ _ h => h) ?_; clear S a; intro a S
  refine d_pure (i := 7) #[true, true, true, true, true, true, true, true, false, false, false, false] S rfl (p_nilCheck rfl) (wanted_none rfl) rfl rfl (by kernel_rfl) (fun _ _ _ h => h) ?_; clear S a; intro a S
  refine d_pure (i := 8) #[true, true, true, true, true, true, true, true, true, false, false, false] S rfl (p_fieldAddr rfl (fun w => fa54_1 w _ _)) (wanted_none rfl) rfl rfl (by kernel_rfl) (fun _ _ _ h => h) ?_; clear S a; intro a S
  refine d_read (i := 9) #[true, true, true, true, true, true, true, true, true, true, false, false] S H rfl (r_load rfl List.mem_cons_self rfl (fun w hc => ld1 ag32 hc)) (wanted_none rfl) rfl rfl (by kernel_rfl) (fun _ _ _ h => h) ?_; clear S a; intro a S
  refine d_pure (i := 10) #[true, true, true, true, true, true, true, true, true, true, true, false] S rfl (p_len Tryd.underlying32 rfl) (wanted_none rfl) rfl rfl (by kernel_rfl) (fun _ _ _ h => h) ?_; clear S a; intro a S
  refine d_pure (i := 11) #[true, true, true, true, true, true, true, true, true, true, true, true] S rfl (p_leq rfl rfl) (wanted_none rfl) rfl rfl (by kernel_rfl) (fun _ _ _ h => h) ?_; clear S a; intro a S
  refine d_done (by kernel_rfl) ?_
  refine e_then ?_
  refine c_cond S rfl (fun c3 => ?_) (fun c3 => ?_)
  · skip
    have c3 := of_decide_eq_true c3
    refine wp_seq ?_
    refine c_region ?_
    refine l_pure S (p_assign rfl) rfl rfl rfl ?_; clear S a; intro a S
    refine l_nil ?_
    refine e_then ?_
    refine wp_ret ?_
    refine e_then_ret ?_
    exact r_ret1 S rfl rfl ⟨by rw [decide_eq_true (show p + i ≤ X.length by omega)], v, cm, M, _, hD0, [], dc.open_.2 H, dc.Keeps.refl _, fun _ => by omega, fun h => by omega⟩
  · skip
    have c3 := of_decide_eq_false c3
    refine wp_skip ?_
    refine e_then ?_
    refine wp_seq ?_
    refine c_region ?_
    refine l_pure S (p_move rfl) rfl rfl rfl ?_; clear S a; intro a S
    refine l_pure S (p_move rfl) rfl rfl rfl ?_; clear S a; intro a S
    replace H := dc.open_.2 H
    have hcon := ensure1_ wb _ _ L0 g X p v cm M sec sk eb line er hD0 H i hi (by omega) ae hE hlt
    refine l_call S rfl rfl Tryd.func56 rfl rfl (hcon) rfl rfl rfl ?_
    rintro e w ⟨rfl, hgive⟩
    refine ⟨_, rfl, ?_⟩; clear S a; intro a S
    clear H hcon
    refine l_pure S (p_assign rfl) rfl rfl rfl ?_; clear S a; intro a S
    refine l_nil ?_
    refine e_then ?_
    refine wp_ret ?_
    exact r_ret1 S rfl rfl ⟨rfl, hgive⟩
theorem takeEOL_ (wb w0 : World) (D L0 : dc.Bk) (g : Nat) (X : List Int) (p v : Nat) (cm : Bool) (M : Nat) (sec : Int) (sk : Bool) (eb : Value) (line : Nat) (er : Value) (hD : dc.Dec TY wb g X p v cm M sec sk eb line er D) (H : HH wb.heap.size wb w0 (D ++ L0)) (hl : line ≤ 1000000000000) (ae : Addr) (hE : wb.cell? ⟨2, 0, none⟩ = some (.iface 89 (.pointer (some ae)))) (hlt : 2 < wb.heap.size) : Calls Tryd.prog 22 #[.pointer (some ⟨g, 0, none⟩)] w0 fun e w' => ∃ b k n v' cm' M' D', e = .returned (.bool b) ∧ dc.eol X p = (b, k, n) ∧ dc.Dec TY wb g X (p + k) v' cm' M' sec sk eb (line + n) er D' ∧ ∃ G, HH wb.heap.size wb w' (D' ++ (G ++ L0)) ∧ dc.Keeps D D' G := by
  refine c_enter (args := [.pointer (some ⟨g, 0, none⟩)]) (k := 37) Tryd.func22 rfl rfl rfl (fun a S => ?_)
  refine wp_seq ?_
  refine c_region ?_
  refine l_pure S (p_assign rfl) rfl rfl rfl ?_; clear S a; intro a S
  refine l_nil ?_
  refine e_then ?_
  refine wp_seq ?_
  refine wp_seq ?_
  refine c_region ?_
  refine l_pure S (p_move rfl) rfl rfl rfl ?_; clear S a; intro a S
  have hcon := ensure_ wb _ _ L0 g X p v cm M sec sk eb line er hD H 1 (by omega) ae hE hlt
  refine l_call S rfl rfl Tryd.func27 rfl rfl (hcon) rfl rfl rfl ?_
  rintro e w ⟨rfl, v1, cm1, M1, D1, hD1, G1, hH, hK1, hv1, hw1⟩
  refine ⟨_, rfl, ?_⟩; clear S a; intro a S
  clear H hcon hD; have H := hH; have hD := hD1; clear hH hD1
  refine l_pure S (p_not rfl) rfl rfl rfl ?_; clear S a; intro a S
  refine l_nil ?_
  refine e_then ?_
  refine c_cond S rfl (fun c4 => ?_) (fun c4 => ?_)
  · skip
    replace c4 := not_eq_true_ c4
    have c4 := of_decide_eq_false c4
    refine wp_seq ?_
    refine c_region ?_
    refine l_pure S (p_assign rfl) rfl rfl rfl ?_; clear S a; intro a S
    refine l_nil ?_
    refine e_then ?_
    refine wp_ret ?_
    refine e_then_ret ?_
    refine r_ret1 S rfl rfl ⟨_, 0, 0, v1, cm1, M1, _, rfl, ?_, hD, _, H, hK1⟩
    unfold dc.eol
    repeat' split
    all_goals first | rfl | (exfalso; omega)
  · skip
    replace c4 := not_eq_false_ c4
    have c4 := of_decide_eq_true c4
    refine wp_skip ?_
    refine e_then ?_
    refine wp_seq ?_
    refine wp_seq ?_
    refine c_region ?_
    refine l_pure S (p_move rfl) rfl rfl rfl ?_; clear S a; intro a S
    have hcon := at_ wb _ _ (G1 ++ L0) g X p v1 cm1 M1 sec sk eb line er hD H 0 (by omega)
    rw [if_pos (show p + 0 < v1 by omega)] at hcon
    simp only [Nat.add_zero] at hcon
    refine l_call S rfl rfl Tryd.func28 rfl rfl (hcon) rfl rfl rfl ?_
    rintro e w ⟨rfl, hH⟩
    refine ⟨_, rfl, ?_⟩; clear S a; intro a S
    clear H hcon; have H := hH; clear hH
    refine l_nil ?_
    refine e_then ?_
    refine wp_block ?_
    refine wp_seq ?_
    refine c_region ?_
    refine l_pure S (p_eql rfl rfl) rfl rfl rfl ?_; clear S a; intro a S
    refine l_pure S (p_assign rfl) rfl rfl rfl ?_; clear S a; intro a S
    refine l_nil ?_
    refine e_then ?_
    refine c_cond S rfl (fun c7 => ?_) (fun c7 => ?_)
    · skip
      have c7 := eq_of_beq c7
      refine wp_seq ?_
      refine c_region ?_
      refine l_pure S (p_move rfl) rfl rfl rfl ?_; clear S a; intro a S
      have hcon := advance_ wb _ _ (G1 ++ L0) g X p v1 cm1 M1 sec sk eb line er hD H 1 (by omega)
      refine l_call S rfl rfl Tryd.func29 rfl rfl (hcon) rfl rfl rfl ?_
      rintro e w ⟨rfl, D9, hD9, hH, hK9⟩
      refine ⟨_, rfl, ?_⟩; clear S a; intro a S
      clear H hcon hD; have H := hH; clear hH
      obtain ⟨rd, A, l, c, r0, mb, mr, hDe, hbuf, hrd, hr0, hvX, hdr, hsz, hpX⟩ := id hD9
      replace hK9 := hK1.trans hK9
      subst hDe
      replace H := dc.open_.1 H
      refine l_nil ?_
      refine e_then ?_
      refine wp_seq ?_
      refine c_region ?_
      refine l_pure S (p_move rfl) rfl rfl rfl ?_; clear S a; intro a S
      refine l_pure S (p_nilCheck rfl) rfl rfl rfl ?_; clear S a; intro a S
      refine l_pure S (p_fieldAddr rfl (fun w => fa54_8 w _ _)) rfl rfl rfl ?_; clear S a; intro a S
      refine l_read S H (r_load rfl List.mem_cons_self rfl (fun w hc => ld1 ag2 hc)) rfl rfl rfl ?_; clear S a; intro a S
      refine l_pure S (p_add rfl rfl (nat_add (x := line) (y := 1) (by omega))) rfl rfl rfl ?_; clear S a; intro a S
      refine l_pure S (p_nilCheck rfl) rfl rfl rfl ?_; clear S a; intro a S
      refine l_pure S (p_fieldAddr rfl (fun w => fa54_8 w _ _)) rfl rfl rfl ?_; clear S a; intro a S
      refine l_store S H rfl rfl rfl .here (by first | decide | simp [Value.cells]) (fun w u hc hz => st1 sz2 rfl hc hz) rfl rfl ?_; clear S a H; intro w a H S
      refine l_nil ?_
      refine e_then ?_
      refine wp_seq ?_
      refine c_region ?_
      refine l_pure S (p_assign rfl) rfl rfl rfl ?_; clear S a; intro a S
      refine l_nil ?_
      refine e_then ?_
      refine wp_ret ?_
      refine e_in_ret ?_
      refine e_then_ret ?_
      refine r_ret1 S rfl rfl ⟨_, 1, 1, v1, cm1, M1, _, rfl, ?_, ⟨rd, A, l, c, r0, mb, mr, rfl, hbuf, hrd, hr0, hvX, hdr, hsz, hpX⟩, _, dc.open_.2 H, hK9.then_head rfl⟩
      unfold dc.eol
      repeat' split
      all_goals first | rfl | (exfalso; omega)
    · skip
      have c7 := ne_of_beq_false c7
      refine wp_seq ?_
      refine c_region ?_
      refine l_pure S (p_eql rfl rfl) rfl rfl rfl ?_; clear S a; intro a S
      refine l_pure S (p_assign rfl) rfl rfl rfl ?_; clear S a; intro a S
      refine l_nil ?_
      refine e_then ?_
      refine c_cond S rfl (fun c10 => ?_) (fun c10 => ?_)
      · skip
        have c10 := eq_of_beq c10
        refine wp_seq ?_
        refine wp_seq ?_
        refine c_region ?_
        refine l_pure S (p_move rfl) rfl rfl rfl ?_; clear S a; intro a S
        have hcon := ensure_ wb _ _ (G1 ++ L0) g X p v1 cm1 M1 sec sk eb line er hD H 2 (by omega) ae hE hlt
        refine l_call S rfl rfl Tryd.func27 rfl rfl (hcon) rfl rfl rfl ?_
        rintro e w ⟨rfl, v2, cm2, M2, D2, hD2, G2, hH, hK2, hv2, hw2⟩
        refine ⟨_, rfl, ?_⟩; clear S a; intro a S
        clear H hcon hD; have H := hH; have hD := hD2; clear hH hD2
        replace hK2 := hK1.trans hK2; rw [← List.append_assoc G2 G1 L0] at H
        refine l_pure S (p_not rfl) rfl rfl rfl ?_; clear S a; intro a S
        refine l_nil ?_
        refine e_then ?_
        refine c_cond S rfl (fun c13 => ?_) (fun c13 => ?_)
        · skip
          replace c13 := not_eq_true_ c13
          have c13 := of_decide_eq_false c13
          refine wp_seq ?_
          refine c_region ?_
          refine l_pure S (p_move rfl) rfl rfl rfl ?_; clear S a; intro a S
          have hcon := advance_ wb _ _ ((G2 ++ G1) ++ L0) g X p v2 cm2 M2 sec sk eb line er hD H 1 (by omega)
          refine l_call S rfl rfl Tryd.func29 rfl rfl (hcon) rfl rfl rfl ?_
          rintro e w ⟨rfl, D9, hD9, hH, hK9⟩
          refine ⟨_, rfl, ?_⟩; clear S a; intro a S
          clear H hcon hD; have H := hH; clear hH
          obtain ⟨rd, A, l, c, r0, mb, mr, hDe, hbuf, hrd, hr0, hvX, hdr, hsz, hpX⟩ := id hD9
          replace hK9 := hK2.trans hK9
          subst hDe
          replace H := dc.open_.1 H
          refine l_nil ?_
          refine e_then ?_
          refine wp_seq ?_
          refine c_region ?_
          refine l_pure S (p_assign rfl) rfl rfl rfl ?_; clear S a; intro a S
          refine l_nil ?_
          refine e_then ?_
          refine wp_ret ?_
          refine e_then_ret ?_
          refine e_in_ret ?_
          refine e_then_ret ?_
          refine r_ret1 S rfl rfl ⟨_, 1, 0, v2, cm2, M2, _, rfl, ?_, ⟨rd, A, l, c, r0, mb, mr, rfl, hbuf, hrd, hr0, hvX, hdr, hsz, hpX⟩, _, dc.open_.2 H, hK9⟩
          unfold dc.eol
          repeat' split
          all_goals first | rfl | (exfalso; omega)
        · skip
          replace c13 := not_eq_false_ c13
          have c13 := of_decide_eq_true c13
          refine wp_skip ?_
          refine e_then ?_
          refine wp_seq ?_
          refine c_region ?_
          refine l_pure S (p_move rfl) rfl rfl rfl ?_; clear S a; intro a S
          have hcon := at_ wb _ _ ((G2 ++ G1) ++ L0) g X p v2 cm2 M2 sec sk eb line er hD H 1 (by omega)
          rw [if_pos (show p + 1 < v2 by omega)] at hcon
          refine l_call S rfl rfl Tryd.func28 rfl rfl (hcon) rfl rfl rfl ?_
          rintro e w ⟨rfl, hH⟩
          refine ⟨_, rfl, ?_⟩; clear S a; intro a S
          clear H hcon; have H := hH; clear hH
          refine l_pure S (p_eql rfl rfl) rfl rfl rfl ?_; clear S a; intro a S
          refine l_nil ?_
          refine e_then ?_
          refine c_cond S rfl (fun c16 => ?_) (fun c16 => ?_)
          · skip
            have c16 := eq_of_beq c16
            refine wp_seq ?_
            refine c_region ?_
            refine l_pure S (p_move rfl) rfl rfl rfl ?_; clear S a; intro a S
            have hcon := advance_ wb _ _ ((G2 ++ G1) ++ L0) g X p v2 cm2 M2 sec sk eb line er hD H 2 (by omega)
            refine l_call S rfl rfl Tryd.func29 rfl rfl (hcon) rfl rfl rfl ?_
            rintro e w ⟨rfl, D9, hD9, hH, hK9⟩
            refine ⟨_, rfl, ?_⟩; clear S a; intro a S
            clear H hcon hD; have H := hH; clear hH
            obtain ⟨rd, A, l, c, r0, mb, mr, hDe, hbuf, hrd, hr0, hvX, hdr, hsz, hpX⟩ := id hD9
            replace hK9 := hK2.trans hK9
            subst hDe
            replace H := dc.open_.1 H
            refine l_nil ?_
            refine e_then ?_
            refine wp_seq ?_
            refine c_region ?_
            refine l_pure S (p_move rfl) rfl rfl rfl ?_; clear S a; intro a S
            refine l_pure S (p_nilCheck rfl) rfl rfl rfl ?_; clear S a; intro a S
            refine l_pure S (p_fieldAddr rfl (fun w => fa54_8 w _ _)) rfl rfl rfl ?_; clear S a; intro a S
            refine l_read S H (r_load rfl List.mem_cons_self rfl (fun w hc => ld1 ag2 hc)) rfl rfl rfl ?_; clear S a; intro a S
            refine l_pure S (p_add rfl rfl (nat_add (x := line) (y := 1) (by omega))) rfl rfl rfl ?_; clear S a; intro a S
            refine l_pure S (p_nilCheck rfl) rfl rfl rfl ?_; clear S a; intro a S
            refine l_pure S (p_fieldAddr rfl (fun w => fa54_8 w _ _)) rfl rfl rfl ?_; clear S a; intro a S
            refine l_store S H rfl rfl rfl .here (by first | decide | simp [Value.cells]) (fun w u hc hz => st1 sz2 rfl hc hz) rfl rfl ?_; clear S a H; intro w a H S
            refine l_nil ?_
            refine e_then ?_
            refine wp_seq ?_
            refine c_region ?_
            refine l_pure S (p_assign rfl) rfl rfl rfl ?_; clear S a; intro a S
            refine l_nil ?_
            refine e_then ?_
            refine wp_ret ?_
            refine e_in_ret ?_
            refine e_then_ret ?_
            refine r_ret1 S rfl rfl ⟨_, 2, 1, v2, cm2, M2, _, rfl, ?_, ⟨rd, A, l, c, r0, mb, mr, rfl, hbuf, hrd, hr0, hvX, hdr, hsz, hpX⟩, _, dc.open_.2 H, hK9.then_head rfl⟩
            unfold dc.eol
            repeat' split
            all_goals first | rfl | (exfalso; omega)
          · skip
            have c16 := ne_of_beq_false c16
            refine wp_skip ?_
            refine e_in 0 ?_
            refine e_then ?_
            refine wp_seq ?_
            refine c_region ?_
            refine l_pure S (p_assign rfl) rfl rfl rfl ?_; clear S a; intro a S
            refine l_nil ?_
            refine e_then ?_
            refine wp_ret ?_
            refine r_ret1 S rfl rfl ⟨_, 0, 0, v2, cm2, M2, _, rfl, ?_, hD, _, H, hK2⟩
            unfold dc.eol
            repeat' split
            all_goals first | rfl | (exfalso; omega)
      · skip
        have c10 := ne_of_beq_false c10
        refine wp_skip ?_
        refine e_in 0 ?_
        refine e_then ?_
        refine wp_seq ?_
        refine c_region ?_
        refine l_pure S (p_assign rfl) rfl rfl rfl ?_; clear S a; intro a S
        refine l_nil ?_
        refine e_then ?_
        refine wp_ret ?_
        refine r_ret1 S rfl rfl ⟨_, 0, 0, v1, cm1, M1, _, rfl, ?_, hD, _, H, hK1⟩
        unfold dc.eol
        repeat' split
        all_goals first | rfl | (exfalso; omega)
end ge
end Go.Proofs.YtbahngfpadjbhaaDoor.dec
