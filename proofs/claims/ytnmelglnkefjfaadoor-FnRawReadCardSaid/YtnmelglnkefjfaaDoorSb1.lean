/- Raw messages: the reference's sizes and bodies. -/
import Derived.Test.YtnmelglnkefjfaaDoorSa1
namespace Go.Proofs.YtnmelglnkefjfaaDoor.rr
open Go.RowKit Go.Proofs.HHW Go.Proofs.YtnmelglnkefjfaaDoorW.PrintWords
set_option linter.unusedVariables false
set_option linter.unusedSimpArgs false
namespace sq
theorem ag3 : aggB Tryd.prog 3 = some false := by kernel_rfl
theorem ag9 : aggB Tryd.prog 9 = some false := by kernel_rfl
theorem fa31_0 (w : World) (g o : Nat) : (Instr.fieldAt 31 (.pointer (some ⟨g, o, none⟩)) 0).run Tryd.prog w = .ok (.pointer (some ⟨g, o + 0, none⟩)) w := by kernel_rfl
theorem fa31_1 (w : World) (g o : Nat) : (Instr.fieldAt 31 (.pointer (some ⟨g, o, none⟩)) 1).run Tryd.prog w = .ok (.pointer (some ⟨g, o + 1, none⟩)) w := by kernel_rfl
theorem fa31_2 (w : World) (g o : Nat) : (Instr.fieldAt 31 (.pointer (some ⟨g, o, none⟩)) 2).run Tryd.prog w = .ok (.pointer (some ⟨g, o + 2, none⟩)) w := by kernel_rfl
theorem sz3 : szB Tryd.prog 3 = some 1 := by kernel_rfl
theorem sz4 : szB Tryd.prog 4 = some 1 := by kernel_rfl


theorem size_ (wb w0 : World) (B : Nat) (L0 : dc.Bk) (gt : Nat) (tx : ByteArray) (p D : Nat) (b : ByteArray) (H : HH B wb w0 ((gt, .cells #[.string tx, .int .i64 (p : Int), .bool false, .int .i64 (D : Int)] 31 (0, 0)) :: L0)) (hb : b.size ≤ 1000000) : Calls Tryd.prog 26 #[.pointer (some ⟨gt, 0, none⟩), .string b] w0 fun e w' => ∃ n ok od', e = .returned (.tuple #[.int .i64 n, .bool ok]) ∧ HH B wb w' ((gt, .cells #[.string tx, .int .i64 (p : Int), .bool od', .int .i64 (D : Int)] 31 (0, 0)) :: L0) ∧ ((rp.size (ints b) = none ∧ ok = false ∧ od' = true) ∨ (rp.size (ints b) = some none ∧ ok = false ∧ od' = false) ∨ (rp.size (ints b) = some (some n) ∧ ok = true ∧ od' = false)) := by
  refine c_enter (args := [.pointer (some ⟨gt, 0, none⟩), .string b]) (k := 29) Tryd.func26 rfl rfl rfl (fun a S => ?_)
  refine wp_seq ?_
  refine c_region ?_
  refine l_pure S (p_assign rfl) rfl rfl rfl ?_; clear S a; intro a S
  refine l_pure S (p_assign rfl) rfl rfl rfl ?_; clear S a; intro a S
  refine l_nil ?_
  refine e_then ?_
  refine wp_seq ?_
  refine c_region ?_
  refine l_pure S (p_move rfl) rfl rfl rfl ?_; clear S a; intro a S
  have hcon := sp.parsed_ wb _ _ _ b H hb
  refine l_call S rfl rfl Tryd.func38 rfl rfl (hcon) rfl rfl rfl ?_
  rintro e w ⟨n, ok, great, rfl, hok, hgr, hH⟩
  refine ⟨_, rfl, ?_⟩; clear S a; intro a S
  clear H hcon; have H := hH; clear hH
  refine l_pure S (p_move rfl) rfl rfl rfl ?_; clear S a; intro a S
  refine l_pure S (p_extract rfl rfl) rfl rfl rfl ?_; clear S a; intro a S
  refine l_pure S (p_extract rfl rfl) rfl rfl rfl ?_; clear S a; intro a S
  refine l_pure S (p_extract rfl rfl) rfl rfl rfl ?_; clear S a; intro a S
  refine l_pure S (p_assign rfl) rfl rfl rfl ?_; clear S a; intro a S
  refine l_pure S (p_assign rfl) rfl rfl rfl ?_; clear S a; intro a S
  refine l_pure S (p_assign rfl) rfl rfl rfl ?_; clear S a; intro a S
  refine l_nil ?_
  refine e_then ?_
  refine wp_seq ?_
  refine wp_seq ?_
  refine c_region ?_
  refine l_pure S (p_move rfl) rfl rfl rfl ?_; clear S a; intro a S
  refine l_pure S (p_move rfl) rfl rfl rfl ?_; clear S a; intro a S
  refine l_split (S.of 15 rfl) (fun bc4 => ?_) (fun bc4 => ?_)
  · skip
    refine l_on S rfl rfl rfl rfl bc4 ?_
    refine l_pure S (p_move rfl) rfl rfl rfl ?_; clear S a; intro a S
    refine l_on S rfl rfl rfl rfl bc4 ?_
    refine l_pure S (p_move rfl) rfl rfl rfl ?_; clear S a; intro a S
    refine l_split (S.of 17 rfl) (fun bc5 => ?_) (fun bc5 => ?_)
    · skip
      refine l_off S rfl rfl rfl rfl bc5 rfl rfl ?_; clear S a; intro a S
      refine l_off S rfl rfl rfl rfl bc5 rfl rfl ?_; clear S a; intro a S
      refine l_on S rfl rfl rfl rfl bc4 ?_
      refine l_pure S (p_pick_t rfl bc5 rfl) rfl rfl rfl ?_; clear S a; intro a S
      refine l_on S rfl rfl rfl rfl bc4 ?_
      refine l_pure S (p_move rfl) rfl rfl rfl ?_; clear S a; intro a S
      refine l_off S rfl rfl rfl rfl rfl rfl rfl ?_; clear S a; intro a S
      refine l_off S rfl rfl rfl rfl rfl rfl rfl ?_; clear S a; intro a S
      refine l_on S rfl rfl rfl rfl bc4 ?_
      refine l_pure S (p_pick_t rfl rfl rfl) rfl rfl rfl ?_; clear S a; intro a S
      refine l_pure S (p_pick_t rfl bc4 rfl) rfl rfl rfl ?_; clear S a; intro a S
      refine l_nil ?_
      refine e_then ?_
      refine c_cond (b := true) S rfl (fun _ => ?_) (fun h => by cases h)
      refine wp_seq ?_
      refine c_region ?_
      refine l_pure S (p_move rfl) rfl rfl rfl ?_; clear S a; intro a S
      refine l_pure S (p_nilCheck rfl) rfl rfl rfl ?_; clear S a; intro a S
      refine l_pure S (p_fieldAddr rfl (fun w => fa31_2 w _ _)) rfl rfl rfl ?_; clear S a; intro a S
      refine l_store S H rfl rfl rfl .here (by first | decide | simp [Value.cells]) (fun w u hc hz => st1 sz4 rfl hc hz) rfl rfl ?_; clear S a H; intro w a H S
      refine l_nil ?_
      refine e_then ?_
      refine wp_seq ?_
      refine c_region ?_
      refine l_pure S (p_assign rfl) rfl rfl rfl ?_; clear S a; intro a S
      refine l_pure S (p_assign rfl) rfl rfl rfl ?_; clear S a; intro a S
      refine l_nil ?_
      refine e_then ?_
      refine wp_ret ?_
      refine e_then_ret ?_
      exact r_ret2 S rfl rfl rfl ⟨0, false, true, rfl, H, .inl ⟨rp.size_odd hok hgr (by assumption) (by first | exact .inl (by assumption) | exact .inr (by omega)), rfl, rfl⟩⟩
    · skip
      refine l_on S rfl rfl rfl rfl bc5 ?_
      refine l_pure S (p_move rfl) rfl rfl rfl ?_; clear S a; intro a S
      refine l_on S rfl rfl rfl rfl bc5 ?_
      refine l_pure S (p_gtr rfl rfl) rfl rfl rfl ?_; clear S a; intro a S
      refine l_on S rfl rfl rfl rfl bc4 ?_
      refine l_pure S (p_pick_f rfl bc5 rfl) rfl rfl rfl ?_; clear S a; intro a S
      refine l_on S rfl rfl rfl rfl bc4 ?_
      refine l_pure S (p_move rfl) rfl rfl rfl ?_; clear S a; intro a S
      refine l_split (S.of 21 rfl) (fun bc11 => ?_) (fun bc11 => ?_)
      · skip
        have c11 := bc11
        have c11 := of_decide_eq_true c11
        refine l_off S rfl rfl rfl rfl bc11 rfl rfl ?_; clear S a; intro a S
        refine l_off S rfl rfl rfl rfl bc11 rfl rfl ?_; clear S a; intro a S
        refine l_on S rfl rfl rfl rfl bc4 ?_
        refine l_pure S (p_pick_t rfl bc11 rfl) rfl rfl rfl ?_; clear S a; intro a S
        refine l_pure S (p_pick_t rfl bc4 rfl) rfl rfl rfl ?_; clear S a; intro a S
        refine l_nil ?_
        refine e_then ?_
        refine c_cond (b := true) S rfl (fun _ => ?_) (fun h => by cases h)
        refine wp_seq ?_
        refine c_region ?_
        refine l_pure S (p_move rfl) rfl rfl rfl ?_; clear S a; intro a S
        refine l_pure S (p_nilCheck rfl) rfl rfl rfl ?_; clear S a; intro a S
        refine l_pure S (p_fieldAddr rfl (fun w => fa31_2 w _ _)) rfl rfl rfl ?_; clear S a; intro a S
        refine l_store S H rfl rfl rfl .here (by first | decide | simp [Value.cells]) (fun w u hc hz => st1 sz4 rfl hc hz) rfl rfl ?_; clear S a H; intro w a H S
        refine l_nil ?_
        refine e_then ?_
        refine wp_seq ?_
        refine c_region ?_
        refine l_pure S (p_assign rfl) rfl rfl rfl ?_; clear S a; intro a S
        refine l_pure S (p_assign rfl) rfl rfl rfl ?_; clear S a; intro a S
        refine l_nil ?_
        refine e_then ?_
        refine wp_ret ?_
        refine e_then_ret ?_
        exact r_ret2 S rfl rfl rfl ⟨0, false, true, rfl, H, .inl ⟨rp.size_odd hok hgr (by assumption) (by first | exact .inl (by assumption) | exact .inr (by omega)), rfl, rfl⟩⟩
      · skip
        have c11 := bc11
        have c11 := of_decide_eq_false c11
        refine l_on S rfl rfl rfl rfl bc11 ?_
        refine l_pure S (p_move rfl) rfl rfl rfl ?_; clear S a; intro a S
        refine l_on S rfl rfl rfl rfl bc11 ?_
        refine l_pure S (p_lss rfl rfl) rfl rfl rfl ?_; clear S a; intro a S
        refine l_on S rfl rfl rfl rfl bc4 ?_
        refine l_pure S (p_pick_f rfl bc11 rfl) rfl rfl rfl ?_; clear S a; intro a S
        refine l_pure S (p_pick_t rfl bc4 rfl) rfl rfl rfl ?_; clear S a; intro a S
        refine l_nil ?_
        refine e_then ?_
        refine c_cond S rfl (fun bc16 => ?_) (fun bc16 => ?_)
        · skip
          have c16 := bc16
          have c16 := of_decide_eq_true c16
          refine wp_seq ?_
          refine c_region ?_
          refine l_pure S (p_move rfl) rfl rfl rfl ?_; clear S a; intro a S
          refine l_pure S (p_nilCheck rfl) rfl rfl rfl ?_; clear S a; intro a S
          refine l_pure S (p_fieldAddr rfl (fun w => fa31_2 w _ _)) rfl rfl rfl ?_; clear S a; intro a S
          refine l_store S H rfl rfl rfl .here (by first | decide | simp [Value.cells]) (fun w u hc hz => st1 sz4 rfl hc hz) rfl rfl ?_; clear S a H; intro w a H S
          refine l_nil ?_
          refine e_then ?_
          refine wp_seq ?_
          refine c_region ?_
          refine l_pure S (p_assign rfl) rfl rfl rfl ?_; clear S a; intro a S
          refine l_pure S (p_assign rfl) rfl rfl rfl ?_; clear S a; intro a S
          refine l_nil ?_
          refine e_then ?_
          refine wp_ret ?_
          refine e_then_ret ?_
          exact r_ret2 S rfl rfl rfl ⟨0, false, true, rfl, H, .inl ⟨rp.size_odd hok hgr (by assumption) (by first | exact .inl (by assumption) | exact .inr (by omega)), rfl, rfl⟩⟩
        · skip
          have c16 := bc16
          have c16 := of_decide_eq_false c16
          refine wp_skip ?_
          refine e_then ?_
          refine wp_seq ?_
          refine c_region ?_
          refine l_pure S (p_move rfl) rfl rfl rfl ?_; clear S a; intro a S
          refine l_pure S (p_move rfl) rfl rfl rfl ?_; clear S a; intro a S
          refine l_pure S (p_assign rfl) rfl rfl rfl ?_; clear S a; intro a S
          refine l_pure S (p_assign rfl) rfl rfl rfl ?_; clear S a; intro a S
          refine l_nil ?_
          refine e_then ?_
          refine wp_ret ?_
          first | exact r_ret2 S rfl rfl rfl ⟨n, _, false, rfl, H, .inr (.inl ⟨rp.size_bad hok (by assumption), by assumption, rfl⟩)⟩ | exact r_ret2 S rfl rfl rfl ⟨n, _, false, rfl, H, .inr (.inr ⟨rp.size_num hok hgr (by assumption) (by assumption) (by omega), by assumption, rfl⟩)⟩
  · skip
    refine l_off S rfl rfl rfl rfl bc4 rfl rfl ?_; clear S a; intro a S
    refine l_off S rfl rfl rfl rfl bc4 rfl rfl ?_; clear S a; intro a S
    refine l_offU S rfl rfl rfl rfl rfl rfl ?_; clear S a; intro a S
    refine l_offU S rfl rfl rfl rfl rfl rfl ?_; clear S a; intro a S
    refine l_off S rfl rfl rfl rfl bc4 rfl rfl ?_; clear S a; intro a S
    refine l_off S rfl rfl rfl rfl bc4 rfl rfl ?_; clear S a; intro a S
    refine l_offU S rfl rfl rfl rfl rfl rfl ?_; clear S a; intro a S
    refine l_offU S rfl rfl rfl rfl rfl rfl ?_; clear S a; intro a S
    refine l_off S rfl rfl rfl rfl bc4 rfl rfl ?_; clear S a; intro a S
    refine l_pure S (p_pick_f rfl bc4 rfl) rfl rfl rfl ?_; clear S a; intro a S
    refine l_nil ?_
    refine e_then ?_
    refine c_cond (b := false) S rfl (fun h => by cases h) (fun _ => ?_)
    refine wp_skip ?_
    refine e_then ?_
    refine wp_seq ?_
    refine c_region ?_
    refine l_pure S (p_move rfl) rfl rfl rfl ?_; clear S a; intro a S
    refine l_pure S (p_move rfl) rfl rfl rfl ?_; clear S a; intro a S
    refine l_pure S (p_assign rfl) rfl rfl rfl ?_; clear S a; intro a S
    refine l_pure S (p_assign rfl) rfl rfl rfl ?_; clear S a; intro a S
    refine l_nil ?_
    refine e_then ?_
    refine wp_ret ?_
    first | exact r_ret2 S rfl rfl rfl ⟨n, _, false, rfl, H, .inr (.inl ⟨rp.size_bad hok (by assumption), by assumption, rfl⟩)⟩ | exact r_ret2 S rfl rfl rfl ⟨n, _, false, rfl, H, .inr (.inr ⟨rp.size_num hok hgr (by assumption) (by assumption) (by omega), by assumption, rfl⟩)⟩
set_option maxHeartbeats 1000000 in
theorem body_ (wb w0 : World) (B : Nat) (L0 : dc.Bk) (gt : Nat) (tx : ByteArray) (p D n : Nat) (H : HH B wb w0 ((gt, .cells #[.string tx, .int .i64 (p : Int), .bool false, .int .i64 (D : Int)] 31 (0, 0)) :: L0)) (hp : p ≤ tx.size) (hS : tx.size ≤ 1000000) (hn : n ≤ 2000000) : Calls Tryd.prog 27 #[.pointer (some ⟨gt, 0, none⟩), .int .i64 (n : Int)] w0 fun e w' => ∃ str ok od' p', e = .returned (.tuple #[.string str, .bool ok]) ∧ HH B wb w' ((gt, .cells #[.string tx, .int .i64 ((p' : Nat) : Int), .bool od', .int .i64 (D : Int)] 31 (0, 0)) :: L0) ∧ ((rp.bodyR n ((ints tx).drop p) = none ∧ ok = false ∧ od' = true) ∨ (rp.bodyR n ((ints tx).drop p) = some none ∧ ok = false ∧ od' = false) ∨ ∃ c, rp.bodyR n ((ints tx).drop p) = some (some c) ∧ ok = true ∧ od' = false ∧ p' = p + c) := by
  refine c_enter (args := [.pointer (some ⟨gt, 0, none⟩), .int .i64 (n : Int)]) (k := 73) Tryd.func27 rfl rfl rfl (fun a S => ?_)
  refine wp_seq ?_
  refine c_region ?_
  refine l_pure S (p_assign rfl) rfl rfl rfl ?_; clear S a; intro a S
  refine l_pure S (p_assign rfl) rfl rfl rfl ?_; clear S a; intro a S
  refine l_nil ?_
  refine e_then ?_
  refine wp_seq ?_
  refine wp_seq ?_
  refine c_region ?_
  refine l_pure S (p_move rfl) rfl rfl rfl ?_; clear S a; intro a S
  refine l_pure S (p_move rfl) rfl rfl rfl ?_; clear S a; intro a S
  refine l_call S rfl rfl Tryd.func11 rfl rfl (sp.left_ wb _ _ _ gt tx p D false H (by omega) (by omega)) rfl rfl rfl ?_
  rintro e w ⟨rfl, hH⟩
  refine ⟨_, rfl, ?_⟩; clear S a; intro a S
  clear H; have H := hH; clear hH
  refine l_pure S (p_gtr rfl rfl) rfl rfl rfl ?_; clear S a; intro a S
  refine l_nil ?_
  refine e_then ?_
  refine c_cond S rfl (fun bc3 => ?_) (fun bc3 => ?_)
  · skip
    have c3 := bc3
    have c3 := of_decide_eq_true c3
    refine wp_seq ?_
    refine c_region ?_
    refine l_pure S (p_assign rfl) rfl rfl rfl ?_; clear S a; intro a S
    refine l_pure S (p_assign rfl) rfl rfl rfl ?_; clear S a; intro a S
    refine l_nil ?_
    refine e_then ?_
    refine wp_ret ?_
    refine e_then_ret ?_
    have hl := ints_len tx
    have b1 := rp.bti tx (p + n)
    have b2 := rp.bti tx (p + n + 1)
    exact r_ret2 S rfl rfl rfl ⟨_, false, false, _, rfl, H, .inr (.inl ⟨(by unfold rp.bodyR; simp only [List.length_drop, List.drop_drop, rp.drop_getD, Nat.add_zero, hl]; rw [if_pos (by omega)]), rfl, rfl⟩)⟩
  · skip
    have c3 := bc3
    have c3 := of_decide_eq_false c3
    refine wp_skip ?_
    refine e_then ?_
    refine wp_seq ?_
    refine d_start (id := 3) [] 16 #[false, false, false, false, false, false, false, false, false, false, false, false, false, false, false, false] H rfl rfl rfl (fun w H => ?_)
    refine d_pure (i := 0) #[true, false, false, false, false, false, false, false, false, false, false, false, false, false, false, false] S rfl (p_move rfl) (wanted_none rfl) rfl rfl (by kernel_rfl) (fun _ _ _ h => h) ?_; clear S a; intro a S
    refine d_pure (i := 1) #[true, true, false, false, false, false, false, false, false, false, false, false, false, false, false, false] S rfl (p_nilCheck rfl) (wanted_none rfl) rfl rfl (by kernel_rfl) (fun _ _ _ h => h) ?_; clear S a; intro a S
    refine d_pure (i := 2) #[true, true, true, false, false, false, false, false, false, false, false, false, false, false, false, false] S rfl (p_fieldAddr rfl (fun w => fa31_0 w _ _)) (wanted_none rfl) rfl rfl (by kernel_rfl) (fun _ _ _ h => h) ?_; clear S a; intro a S
    refine d_read (i := 3) #[true, true, true, true, false, false, false, false, false, false, false, false, false, false, false, false] S H rfl (r_load rfl List.mem_cons_self rfl (fun w hc => ld1 ag9 hc)) (wanted_none rfl) rfl rfl (by kernel_rfl) (fun _ _ _ h => h) ?_; clear S a; intro a S
    refine d_pure (i := 4) #[true, true, true, true, true, false, false, false, false, false, false, false, false, false, false, false] S rfl (p_move rfl) (wanted_none rfl) rfl rfl (by kernel_rfl) (fun _ _ _ h => h) ?_; clear S a; intro a S
    refine d_pure (i := 5) #[true, true, true, true, true, true, false, false, false, false, false, false, false, false, false, false] S rfl (p_nilCheck rfl) (wanted_none rfl) rfl rfl (by kernel_rfl) (fun _ _ _ h => h) ?_; clear S a; intro a S
    refine d_pure (i := 6) #[true, true, true, true, true, true, true, false, false, false, false, false, false, false, false, false] S rfl (p_fieldAddr rfl (fun w => fa31_1 w _ _)) (wanted_none rfl) rfl rfl (by kernel_rfl) (fun _ _ _ h => h) ?_; clear S a; intro a S
    refine d_read (i := 7) #[true, true, true, true, true, true, true, true, false, false, false, false, false, false, false, false] S H rfl (r_load rfl List.mem_cons_self rfl (fun w hc => ld1 ag3 hc)) (wanted_none rfl) rfl rfl (by kernel_rfl) (fun _ _ _ h => h) ?_; clear S a; intro a S
    refine d_pure (i := 8) #[true, true, true, true, true, true, true, true, true, false, false, false, false, false, false, false] S rfl (p_move rfl) (wanted_none rfl) rfl rfl (by kernel_rfl) (fun _ _ _ h => h) ?_; clear S a; intro a S
    refine d_pure (i := 9) #[true, true, true, true, true, true, true, true, true, true, false, false, false, false, false, false] S rfl (p_nilCheck rfl) (wanted_none rfl) rfl rfl (by kernel_rfl) (fun _ _ _ h => h) ?_; clear S a; intro a S
    refine d_pure (i := 10) #[true, true, true, true, true, true, true, true, true, true, true, false, false, false, false, false] S rfl (p_fieldAddr rfl (fun w => fa31_1 w _ _)) (wanted_none rfl) rfl rfl (by kernel_rfl) (fun _ _ _ h => h) ?_; clear S a; intro a S
    refine d_read (i := 11) #[true, true, true, true, true, true, true, true, true, true, true, true, false, false, false, false] S H rfl (r_load rfl List.mem_cons_self rfl (fun w hc => ld1 ag3 hc)) (wanted_none rfl) rfl rfl (by kernel_rfl) (fun _ _ _ h => h) ?_; clear S a; intro a S
    refine d_pure (i := 12) #[true, true, true, true, true, true, true, true, true, true, true, true, true, false, false, false] S rfl (p_move rfl) (wanted_none rfl) rfl rfl (by kernel_rfl) (fun _ _ _ h => h) ?_; clear S a; intro a S
    refine d_pure (i := 13) #[true, true, true, true, true, true, true, true, true, true, true, true, true, true, false, false] S rfl (p_add rfl rfl (nat_add (x := p) (y := n) (by omega))) (wanted_none rfl) rfl rfl (by kernel_rfl) (fun _ _ _ h => h) ?_; clear S a; intro a S
    refine d_pure (i := 14) #[true, true, true, true, true, true, true, true, true, true, true, true, true, true, true, false] S rfl (p_slice rfl (o_some rfl) (o_some rfl) (fun _ _ => o_none) (fun w => sl_string Tryd.underlying9 (by omega) (by omega) (by omega))) (wanted_none rfl) rfl rfl (by kernel_rfl) (fun _ _ _ h => h) ?_; clear S a; intro a S
    refine d_pure (i := 15) #[true, true, true, true, true, true, true, true, true, true, true, true, true, true, true, true] S rfl (p_assign rfl) (wanted_none rfl) rfl rfl (by kernel_rfl) (fun _ _ _ h => h) ?_; clear S a; intro a S
    refine d_done (by kernel_rfl) ?_
    refine e_then ?_
    refine wp_seq ?_
    refine c_region ?_
    refine l_pure S (p_move rfl) rfl rfl rfl ?_; clear S a; intro a S
    refine l_pure S (p_nilCheck rfl) rfl rfl rfl ?_; clear S a; intro a S
    refine l_pure S (p_fieldAddr rfl (fun w => fa31_1 w _ _)) rfl rfl rfl ?_; clear S a; intro a S
    refine l_read S H (r_load rfl List.mem_cons_self rfl (fun w hc => ld1 ag3 hc)) rfl rfl rfl ?_; clear S a; intro a S
    refine l_pure S (p_move rfl) rfl rfl rfl ?_; clear S a; intro a S
    refine l_pure S (p_add rfl rfl (nat_add (x := p) (y := n) (by omega))) rfl rfl rfl ?_; clear S a; intro a S
    refine l_pure S (p_nilCheck rfl) rfl rfl rfl ?_; clear S a; intro a S
    refine l_pure S (p_fieldAddr rfl (fun w => fa31_1 w _ _)) rfl rfl rfl ?_; clear S a; intro a S
    refine l_store S H rfl rfl rfl .here (by first | decide | simp [Value.cells]) (fun w u hc hz => st1 sz3 rfl hc hz) rfl rfl ?_; clear S a H; intro w a H S
    refine l_nil ?_
    refine e_then ?_
    refine wp_seq ?_
    refine wp_seq ?_
    refine d_start (id := 5) [] 28 #[false, false, false, false, false, false, false, false, false, false, false, false, false, false, false, false, false, false, false, false, false, false, false, false, false, false, false, false] H rfl rfl rfl (fun w H => ?_)
    refine d_pure (i := 0) #[true, false, false, false, false, false, false, false, false, false, false, false, false, false, false, false, false, false, false, false, false, false, false, false, false, false, false, false] S rfl (p_move rfl) (wanted_none rfl) rfl rfl (by kernel_rfl) (fun _ _ _ h => h) ?_; clear S a; intro a S
    refine d_call (i := 1) #[true, true, false, false, false, false, false, false, false, false, false, false, false, false, false, false, false, false, false, false, false, false, false, false, false, false, false, false] S rfl rfl rfl Tryd.func11 rfl rfl (sp.left_ wb _ _ _ gt tx (p + n) D false H (by omega) (by omega)) (wanted_none rfl) rfl rfl (by kernel_rfl) rfl ?_
    rintro e w ⟨rfl, hH⟩
    refine ⟨_, rfl, hH, ?_⟩; clear H; have H := hH; clear hH; clear S a; intro a S
    refine d_pure (i := 2) #[true, true, true, false, false, false, false, false, false, false, false, false, false, false, false, false, false, false, false, false, false, false, false, false, false, false, false, false] S rfl (p_geq rfl rfl) (wanted_none rfl) rfl rfl (by kernel_rfl) (fun _ _ _ h => h) ?_; clear S a; intro a S
    refine d_pure (i := 3) #[true, true, true, true, false, false, false, false, false, false, false, false, false, false, false, false, false, false, false, false, false, false, false, false, false, false, false, false] S rfl (p_move rfl) (wanted_none rfl) rfl rfl (by kernel_rfl) (fun _ _ _ h => h) ?_; clear S a; intro a S
    refine d_split (S.of 36 rfl) (fun bc6 => ?_) (fun bc6 => ?_)
    · skip
      have c6 := bc6
      have c6 := of_decide_eq_true c6
      refine d_pure (i := 4) #[true, true, true, true, true, false, false, false, false, false, false, false, false, false, false, false, false, false, false, false, false, false, false, false, false, false, false, false] S rfl (p_move rfl) (wanted_on S rfl rfl rfl rfl bc6) rfl rfl (by kernel_rfl) (fun _ _ _ h => h) ?_; clear S a; intro a S
      refine d_pure (i := 5) #[true, true, true, true, true, true, false, false, false, false, false, false, false, false, false, false, false, false, false, false, false, false, false, false, false, false, false, false] S rfl (p_nilCheck rfl) (wanted_on S rfl rfl rfl rfl bc6) rfl rfl (by kernel_rfl) (fun _ _ _ h => h) ?_; clear S a; intro a S
      refine d_pure (i := 6) #[true, true, true, true, true, true, true, false, false, false, false, false, false, false, false, false, false, false, false, false, false, false, false, false, false, false, false, false] S rfl (p_fieldAddr rfl (fun w => fa31_0 w _ _)) (wanted_on S rfl rfl rfl rfl bc6) rfl rfl (by kernel_rfl) (fun _ _ _ h => h) ?_; clear S a; intro a S
      refine d_read (i := 7) #[true, true, true, true, true, true, true, true, false, false, false, false, false, false, false, false, false, false, false, false, false, false, false, false, false, false, false, false] S H rfl (r_load rfl List.mem_cons_self rfl (fun w hc => ld1 ag9 hc)) (wanted_on S rfl rfl rfl rfl bc6) rfl rfl (by kernel_rfl) (fun _ _ _ h => h) ?_; clear S a; intro a S
      refine d_pure (i := 8) #[true, true, true, true, true, true, true, true, true, false, false, false, false, false, false, false, false, false, false, false, false, false, false, false, false, false, false, false] S rfl (p_move rfl) (wanted_on S rfl rfl rfl rfl bc6) rfl rfl (by kernel_rfl) (fun _ _ _ h => h) ?_; clear S a; intro a S
      refine d_pure (i := 9) #[true, true, true, true, true, true, true, true, true, true, false, false, false, false, false, false, false, false, false, false, false, false, false, false, false, false, false, false] S rfl (p_nilCheck rfl) (wanted_on S rfl rfl rfl rfl bc6) rfl rfl (by kernel_rfl) (fun _ _ _ h => h) ?_; clear S a; intro a S
      refine d_pure (i := 10) #[true, true, true, true, true, true, true, true, true, true, true, false, false, false, false, false, false, false, false, false, false, false, false, false, false, false, false, false] S rfl (p_fieldAddr rfl (fun w => fa31_1 w _ _)) (wanted_on S rfl rfl rfl rfl bc6) rfl rfl (by kernel_rfl) (fun _ _ _ h => h) ?_; clear S a; intro a S
      refine d_read (i := 11) #[true, true, true, true, true, true, true, true, true, true, true, true, false, false, false, false, false, false, false, false, false, false, false, false, false, false, false, false] S H rfl (r_load rfl List.mem_cons_self rfl (fun w hc => ld1 ag3 hc)) (wanted_on S rfl rfl rfl rfl bc6) rfl rfl (by kernel_rfl) (fun _ _ _ h => h) ?_; clear S a; intro a S
      refine d_pure (i := 12) #[true, true, true, true, true, true, true, true, true, true, true, true, true, false, false, false, false, false, false, false, false, false, false, false, false, false, false, false] S rfl (p_index rfl rfl (fun w => ix_string Tryd.underlying9 (by omega) (by omega))) (wanted_on S rfl rfl rfl rfl bc6) rfl rfl (by kernel_rfl) (fun _ _ _ h => h) ?_; clear S a; intro a S
      refine d_pure (i := 13) #[true, true, true, true, true, true, true, true, true, true, true, true, true, true, false, false, false, false, false, false, false, false, false, false, false, false, false, false] S rfl (p_eql rfl rfl) (wanted_on S rfl rfl rfl rfl bc6) rfl rfl (by kernel_rfl) (fun _ _ _ h => h) ?_; clear S a; intro a S
      refine d_pure (i := 14) #[true, true, true, true, true, true, true, true, true, true, true, true, true, true, true, false, false, false, false, false, false, false, false, false, false, false, false, false] S rfl (p_pick_t rfl bc6 rfl) (wanted_none rfl) rfl rfl (by kernel_rfl) (fun _ _ _ h => h) ?_; clear S a; intro a S
      refine d_pure (i := 15) #[true, true, true, true, true, true, true, true, true, true, true, true, true, true, true, true, false, false, false, false, false, false, false, false, false, false, false, false] S rfl (p_move rfl) (wanted_none rfl) rfl rfl (by kernel_rfl) (fun _ _ _ h => h) ?_; clear S a; intro a S
      refine d_split (S.of 48 rfl) (fun bc8 => ?_) (fun bc8 => ?_)
      · skip
        have c8 := bc8
        have c8 := eq_of_beq c8
        refine d_pure (i := 16) #[true, true, true, true, true, true, true, true, true, true, true, true, true, true, true, true, true, false, false, false, false, false, false, false, false, false, false, false] S rfl (p_move rfl) (wanted_on S rfl rfl rfl rfl bc8) rfl rfl (by kernel_rfl) (fun _ _ _ h => h) ?_; clear S a; intro a S
        refine d_pure (i := 17) #[true, true, true, true, true, true, true, true, true, true, true, true, true, true, true, true, true, true, false, false, false, false, false, false, false, false, false, false] S rfl (p_nilCheck rfl) (wanted_on S rfl rfl rfl rfl bc8) rfl rfl (by kernel_rfl) (fun _ _ _ h => h) ?_; clear S a; intro a S
        refine d_pure (i := 18) #[true, true, true, true, true, true, true, true, true, true, true, true, true, true, true, true, true, true, true, false, false, false, false, false, false, false, false, false] S rfl (p_fieldAddr rfl (fun w => fa31_0 w _ _)) (wanted_on S rfl rfl rfl rfl bc8) rfl rfl (by kernel_rfl) (fun _ _ _ h => h) ?_; clear S a; intro a S
        refine d_read (i := 19) #[true, true, true, true, true, true, true, true, true, true, true, true, true, true, true, true, true, true, true, true, false, false, false, false, false, false, false, false] S H rfl (r_load rfl List.mem_cons_self rfl (fun w hc => ld1 ag9 hc)) (wanted_on S rfl rfl rfl rfl bc8) rfl rfl (by kernel_rfl) (fun _ _ _ h => h) ?_; clear S a; intro a S
        refine d_pure (i := 20) #[true, true, true, true, true, true, true, true, true, true, true, true, true, true, true, true, true, true, true, true, true, false, false, false, false, false, false, false] S rfl (p_move rfl) (wanted_on S rfl rfl rfl rfl bc8) rfl rfl (by kernel_rfl) (fun _ _ _ h => h) ?_; clear S a; intro a S
        refine d_pure (i := 21) #[true, true, true, true, true, true, true, true, true, true, true, true, true, true, true, true, true, true, true, true, true, true, false, false, false, false, false, false] S rfl (p_nilCheck rfl) (wanted_on S rfl rfl rfl rfl bc8) rfl rfl (by kernel_rfl) (fun _ _ _ h => h) ?_; clear S a; intro a S
        refine d_pure (i := 22) #[true, true, true, true, true, true, true, true, true, true, true, true, true, true, true, true, true, true, true, true, true, true, true, false, false, false, false, false] S rfl (p_fieldAddr rfl (fun w => fa31_1 w _ _)) (wanted_on S rfl rfl rfl rfl bc8) rfl rfl (by kernel_rfl) (fun _ _ _ h => h) ?_; clear S a; intro a S
        refine d_read (i := 23) #[true, true, true, true, true, true, true, true, true, true, true, true, true, true, true, true, true, true, true, true, true, true, true, true, false, false, false, false] S H rfl (r_load rfl List.mem_cons_self rfl (fun w hc => ld1 ag3 hc)) (wanted_on S rfl rfl rfl rfl bc8) rfl rfl (by kernel_rfl) (fun _ _ _ h => h) ?_; clear S a; intro a S
        refine d_pure (i := 24) #[true, true, true, true, true, true, true, true, true, true, true, true, true, true, true, true, true, true, true, true, true, true, true, true, true, false, false, false] S rfl (p_add rfl rfl (nat_add (x := (p + n)) (y := 1) (by omega))) (wanted_on S rfl rfl rfl rfl bc8) rfl rfl (by kernel_rfl) (fun _ _ _ h => h) ?_; clear S a; intro a S
        refine d_pure (i := 25) #[true, true, true, true, true, true, true, true, true, true, true, true, true, true, true, true, true, true, true, true, true, true, true, true, true, true, false, false] S rfl (p_index rfl rfl (fun w => ix_string Tryd.underlying9 (by omega) (by omega))) (wanted_on S rfl rfl rfl rfl bc8) rfl rfl (by kernel_rfl) (fun _ _ _ h => h) ?_; clear S a; intro a S
        refine d_pure (i := 26) #[true, true, true, true, true, true, true, true, true, true, true, true, true, true, true, true, true, true, true, true, true, true, true, true, true, true, true, false] S rfl (p_eql rfl rfl) (wanted_on S rfl rfl rfl rfl bc8) rfl rfl (by kernel_rfl) (fun _ _ _ h => h) ?_; clear S a; intro a S
        refine d_pure (i := 27) #[true, true, true, true, true, true, true, true, true, true, true, true, true, true, true, true, true, true, true, true, true, true, true, true, true, true, true, true] S rfl (p_pick_t rfl bc8 rfl) (wanted_none rfl) rfl rfl (by kernel_rfl) (fun _ _ _ h => h) ?_; clear S a; intro a S
        refine d_done (by kernel_rfl) ?_
        refine e_then ?_
        refine c_cond S rfl (fun bc10 => ?_) (fun bc10 => ?_)
        · skip
          have c10 := bc10
          have c10 := eq_of_beq c10
          refine wp_seq ?_
          refine c_region ?_
          refine l_pure S (p_move rfl) rfl rfl rfl ?_; clear S a; intro a S
          refine l_pure S (p_nilCheck rfl) rfl rfl rfl ?_; clear S a; intro a S
          refine l_pure S (p_fieldAddr rfl (fun w => fa31_1 w _ _)) rfl rfl rfl ?_; clear S a; intro a S
          refine l_read S H (r_load rfl List.mem_cons_self rfl (fun w hc => ld1 ag3 hc)) rfl rfl rfl ?_; clear S a; intro a S
          refine l_pure S (p_add rfl rfl (nat_add (x := (p + n)) (y := 2) (by omega))) rfl rfl rfl ?_; clear S a; intro a S
          refine l_pure S (p_nilCheck rfl) rfl rfl rfl ?_; clear S a; intro a S
          refine l_pure S (p_fieldAddr rfl (fun w => fa31_1 w _ _)) rfl rfl rfl ?_; clear S a; intro a S
          refine l_store S H rfl rfl rfl .here (by first | decide | simp [Value.cells]) (fun w u hc hz => st1 sz3 rfl hc hz) rfl rfl ?_; clear S a H; intro w a H S
          refine l_nil ?_
          refine e_then ?_
          refine wp_seq ?_
          refine c_region ?_
          refine l_pure S (p_move rfl) rfl rfl rfl ?_; clear S a; intro a S
          refine l_pure S (p_assign rfl) rfl rfl rfl ?_; clear S a; intro a S
          refine l_pure S (p_assign rfl) rfl rfl rfl ?_; clear S a; intro a S
          refine l_nil ?_
          refine e_then ?_
          refine wp_ret ?_
          refine e_then_ret ?_
          have hl := ints_len tx
          have b1 := rp.bti tx (p + n)
          have b2 := rp.bti tx (p + n + 1)
          exact r_ret2 S rfl rfl rfl ⟨_, true, false, _, rfl, H, .inr (.inr ⟨n + 2, (by unfold rp.bodyR; simp only [List.length_drop, List.drop_drop, rp.drop_getD, Nat.add_zero, hl]; rw [if_neg (by omega), if_pos (by omega), if_pos (by omega)]), rfl, rfl, by omega⟩)⟩
        · skip
          have c10 := bc10
          have c10 := ne_of_beq_false c10
          refine wp_skip ?_
          refine e_then ?_
          refine wp_seq ?_
          refine wp_seq ?_
          refine c_region ?_
          refine l_pure S (p_move rfl) rfl rfl rfl ?_; clear S a; intro a S
          refine l_call S rfl rfl Tryd.func11 rfl rfl (sp.left_ wb _ _ _ gt tx (p + n) D false H (by omega) (by omega)) rfl rfl rfl ?_
          rintro e w ⟨rfl, hH⟩
          refine ⟨_, rfl, ?_⟩; clear S a; intro a S
          clear H; have H := hH; clear hH
          refine l_pure S (p_geq rfl rfl) rfl rfl rfl ?_; clear S a; intro a S
          refine l_nil ?_
          refine e_then ?_
          refine c_cond S rfl (fun bc13 => ?_) (fun bc13 => ?_)
          · skip
            have c13 := bc13
            have c13 := of_decide_eq_true c13
            refine c_region ?_
            refine l_pure S (p_move rfl) rfl rfl rfl ?_; clear S a; intro a S
            refine l_pure S (p_nilCheck rfl) rfl rfl rfl ?_; clear S a; intro a S
            refine l_pure S (p_fieldAddr rfl (fun w => fa31_2 w _ _)) rfl rfl rfl ?_; clear S a; intro a S
            refine l_store S H rfl rfl rfl .here (by first | decide | simp [Value.cells]) (fun w u hc hz => st1 sz4 rfl hc hz) rfl rfl ?_; clear S a H; intro w a H S
            refine l_nil ?_
            refine e_then ?_
            refine wp_seq ?_
            refine c_region ?_
            refine l_pure S (p_assign rfl) rfl rfl rfl ?_; clear S a; intro a S
            refine l_pure S (p_assign rfl) rfl rfl rfl ?_; clear S a; intro a S
            refine l_nil ?_
            refine e_then ?_
            refine wp_ret ?_
            have hl := ints_len tx
            have b1 := rp.bti tx (p + n)
            have b2 := rp.bti tx (p + n + 1)
            exact r_ret2 S rfl rfl rfl ⟨_, false, true, _, rfl, H, .inl ⟨(by unfold rp.bodyR; simp only [List.length_drop, List.drop_drop, rp.drop_getD, Nat.add_zero, hl]; rw [if_neg (by omega), if_pos (by omega), if_neg (by omega)]), rfl, rfl⟩⟩
          · skip
            have c13 := bc13
            have c13 := of_decide_eq_false c13
            refine wp_skip ?_
            refine e_then ?_
            refine wp_seq ?_
            refine c_region ?_
            refine l_pure S (p_assign rfl) rfl rfl rfl ?_; clear S a; intro a S
            refine l_pure S (p_assign rfl) rfl rfl rfl ?_; clear S a; intro a S
            refine l_nil ?_
            refine e_then ?_
            refine wp_ret ?_
            have hl := ints_len tx
            have b1 := rp.bti tx (p + n)
            have b2 := rp.bti tx (p + n + 1)
            exact r_ret2 S rfl rfl rfl ⟨_, false, false, _, rfl, H, .inr (.inl ⟨(by unfold rp.bodyR; simp only [List.length_drop, List.drop_drop, rp.drop_getD, Nat.add_zero, hl]; rw [if_neg (by omega), if_neg (by omega)]), rfl, rfl⟩)⟩
      · skip
        have c8 := bc8
        have c8 := ne_of_beq_false c8
        refine d_off (i := 16) #[true, true, true, true, true, true, true, true, true, true, true, true, true, true, true, true, true, false, false, false, false, false, false, false, false, false, false, false] S rfl (wanted_off S rfl rfl rfl rfl bc8) rfl rfl (by kernel_rfl) (fun _ _ _ h => h) ?_; clear S a; intro a S
        refine d_off (i := 17) #[true, true, true, true, true, true, true, true, true, true, true, true, true, true, true, true, true, true, false, false, false, false, false, false, false, false, false, false] S rfl (wanted_off S rfl rfl rfl rfl bc8) rfl rfl (by kernel_rfl) (fun _ _ _ h => h) ?_; clear S a; intro a S
        refine d_off (i := 18) #[true, true, true, true, true, true, true, true, true, true, true, true, true, true, true, true, true, true, true, false, false, false, false, false, false, false, false, false] S rfl (wanted_off S rfl rfl rfl rfl bc8) rfl rfl (by kernel_rfl) (fun _ _ _ h => h) ?_; clear S a; intro a S
        refine d_off (i := 19) #[true, true, true, true, true, true, true, true, true, true, true, true, true, true, true, true, true, true, true, true, false, false, false, false, false, false, false, false] S rfl (wanted_off S rfl rfl rfl rfl bc8) rfl rfl (by kernel_rfl) (fun _ _ _ h => h) ?_; clear S a; intro a S
        refine d_off (i := 20) #[true, true, true, true, true, true, true, true, true, true, true, true, true, true, true, true, true, true, true, true, true, false, false, false, false, false, false, false] S rfl (wanted_off S rfl rfl rfl rfl bc8) rfl rfl (by kernel_rfl) (fun _ _ _ h => h) ?_; clear S a; intro a S
        refine d_off (i := 21) #[true, true, true, true, true, true, true, true, true, true, true, true, true, true, true, true, true, true, true, true, true, true, false, false, false, false, false, false] S rfl (wanted_off S rfl rfl rfl rfl bc8) rfl rfl (by kernel_rfl) (fun _ _ _ h => h) ?_; clear S a; intro a S
        refine d_off (i := 22) #[true, true, true, true, true, true, true, true, true, true, true, true, true, true, true, true, true, true, true, true, true, true, true, false, false, false, false, false] S rfl (wanted_off S rfl rfl rfl rfl bc8) rfl rfl (by kernel_rfl) (fun _ _ _ h => h) ?_; clear S a; intro a S
        refine d_off (i := 23) #[true, true, true, true, true, true, true, true, true, true, true, true, true, true, true, true, true, true, true, true, true, true, true, true, false, false, false, false] S rfl (wanted_off S rfl rfl rfl rfl bc8) rfl rfl (by kernel_rfl) (fun _ _ _ h => h) ?_; clear S a; intro a S
        refine d_off (i := 24) #[true, true, true, true, true, true, true, true, true, true, true, true, true, true, true, true, true, true, true, true, true, true, true, true, true, false, false, false] S rfl (wanted_off S rfl rfl rfl rfl bc8) rfl rfl (by kernel_rfl) (fun _ _ _ h => h) ?_; clear S a; intro a S
        refine d_off (i := 25) #[true, true, true, true, true, true, true, true, true, true, true, true, true, true, true, true, true, true, true, true, true, true, true, true, true, true, false, false] S rfl (wanted_off S rfl rfl rfl rfl bc8) rfl rfl (by kernel_rfl) (fun _ _ _ h => h) ?_; clear S a; intro a S
        refine d_off (i := 26) #[true, true, true, true, true, true, true, true, true, true, true, true, true, true, true, true, true, true, true, true, true, true, true, true, true, true, true, false] S rfl (wanted_off S rfl rfl rfl rfl bc8) rfl rfl (by kernel_rfl) (fun _ _ _ h => h) ?_; clear S a; intro a S
        refine d_pure (i := 27) #[true, true, true, true, true, true, true, true, true, true, true, true, true, true, true, true, true, true, true, true, true, true, true, true, true, true, true, true] S rfl (p_pick_f rfl bc8 rfl) (wanted_none rfl) rfl rfl (by kernel_rfl) (fun _ _ _ h => h) ?_; clear S a; intro a S
        refine d_done (by kernel_rfl) ?_
        refine e_then ?_
        refine c_cond (b := false) S rfl (fun h => by cases h) (fun _ => ?_)
        refine wp_skip ?_
        refine e_then ?_
        refine wp_seq ?_
        refine wp_seq ?_
        refine c_region ?_
        refine l_pure S (p_move rfl) rfl rfl rfl ?_; clear S a; intro a S
        refine l_call S rfl rfl Tryd.func11 rfl rfl (sp.left_ wb _ _ _ gt tx (p + n) D false H (by omega) (by omega)) rfl rfl rfl ?_
        rintro e w ⟨rfl, hH⟩
        refine ⟨_, rfl, ?_⟩; clear S a; intro a S
        clear H; have H := hH; clear hH
        refine l_pure S (p_geq rfl rfl) rfl rfl rfl ?_; clear S a; intro a S
        refine l_nil ?_
        refine e_then ?_
        refine c_cond S rfl (fun bc19 => ?_) (fun bc19 => ?_)
        · skip
          have c19 := bc19
          have c19 := of_decide_eq_true c19
          refine c_region ?_
          refine l_pure S (p_move rfl) rfl rfl rfl ?_; clear S a; intro a S
          refine l_pure S (p_nilCheck rfl) rfl rfl rfl ?_; clear S a; intro a S
          refine l_pure S (p_fieldAddr rfl (fun w => fa31_2 w _ _)) rfl rfl rfl ?_; clear S a; intro a S
          refine l_store S H rfl rfl rfl .here (by first | decide | simp [Value.cells]) (fun w u hc hz => st1 sz4 rfl hc hz) rfl rfl ?_; clear S a H; intro w a H S
          refine l_nil ?_
          refine e_then ?_
          refine wp_seq ?_
          refine c_region ?_
          refine l_pure S (p_assign rfl) rfl rfl rfl ?_; clear S a; intro a S
          refine l_pure S (p_assign rfl) rfl rfl rfl ?_; clear S a; intro a S
          refine l_nil ?_
          refine e_then ?_
          refine wp_ret ?_
          have hl := ints_len tx
          have b1 := rp.bti tx (p + n)
          have b2 := rp.bti tx (p + n + 1)
          exact r_ret2 S rfl rfl rfl ⟨_, false, true, _, rfl, H, .inl ⟨(by unfold rp.bodyR; simp only [List.length_drop, List.drop_drop, rp.drop_getD, Nat.add_zero, hl]; rw [if_neg (by omega), if_pos (by omega), if_neg (by omega)]), rfl, rfl⟩⟩
        · skip
          have c19 := bc19
          have c19 := of_decide_eq_false c19
          refine wp_skip ?_
          refine e_then ?_
          refine wp_seq ?_
          refine c_region ?_
          refine l_pure S (p_assign rfl) rfl rfl rfl ?_; clear S a; intro a S
          refine l_pure S (p_assign rfl) rfl rfl rfl ?_; clear S a; intro a S
          refine l_nil ?_
          refine e_then ?_
          refine wp_ret ?_
          have hl := ints_len tx
          have b1 := rp.bti tx (p + n)
          have b2 := rp.bti tx (p + n + 1)
          exact r_ret2 S rfl rfl rfl ⟨_, false, false, _, rfl, H, .inr (.inl ⟨(by unfold rp.bodyR; simp only [List.length_drop, List.drop_drop, rp.drop_getD, Nat.add_zero, hl]; rw [if_neg (by omega), if_neg (by omega)]), rfl, rfl⟩)⟩
    · skip
      have c6 := bc6
      have c6 := of_decide_eq_false c6
      refine d_off (i := 4) #[true, true, true, true, true, false, false, false, false, false, false, false, false, false, false, false, false, false, false, false, false, false, false, false, false, false, false, false] S rfl (wanted_off S rfl rfl rfl rfl bc6) rfl rfl (by kernel_rfl) (fun _ _ _ h => h) ?_; clear S a; intro a S
      refine d_off (i := 5) #[true, true, true, true, true, true, false, false, false, false, false, false, false, false, false, false, false, false, false, false, false, false, false, false, false, false, false, false] S rfl (wanted_off S rfl rfl rfl rfl bc6) rfl rfl (by kernel_rfl) (fun _ _ _ h => h) ?_; clear S a; intro a S
      refine d_off (i := 6) #[true, true, true, true, true, true, true, false, false, false, false, false, false, false, false, false, false, false, false, false, false, false, false, false, false, false, false, false] S rfl (wanted_off S rfl rfl rfl rfl bc6) rfl rfl (by kernel_rfl) (fun _ _ _ h => h) ?_; clear S a; intro a S
      refine d_off (i := 7) #[true, true, true, true, true, true, true, true, false, false, false, false, false, false, false, false, false, false, false, false, false, false, false, false, false, false, false, false] S rfl (wanted_off S rfl rfl rfl rfl bc6) rfl rfl (by kernel_rfl) (fun _ _ _ h => h) ?_; clear S a; intro a S
      refine d_off (i := 8) #[true, true, true, true, true, true, true, true, true, false, false, false, false, false, false, false, false, false, false, false, false, false, false, false, false, false, false, false] S rfl (wanted_off S rfl rfl rfl rfl bc6) rfl rfl (by kernel_rfl) (fun _ _ _ h => h) ?_; clear S a; intro a S
      refine d_off (i := 9) #[true, true, true, true, true, true, true, true, true, true, false, false, false, false, false, false, false, false, false, false, false, false, false, false, false, false, false, false] S rfl (wanted_off S rfl rfl rfl rfl bc6) rfl rfl (by kernel_rfl) (fun _ _ _ h => h) ?_; clear S a; intro a S
      refine d_off (i := 10) #[true, true, true, true, true, true, true, true, true, true, true, false, false, false, false, false, false, false, false, false, false, false, false, false, false, false, false, false] S rfl (wanted_off S rfl rfl rfl rfl bc6) rfl rfl (by kernel_rfl) (fun _ _ _ h => h) ?_; clear S a; intro a S
      refine d_off (i := 11) #[true, true, true, true, true, true, true, true, true, true, true, true, false, false, false, false, false, false, false, false, false, false, false, false, false, false, false, false] S rfl (wanted_off S rfl rfl rfl rfl bc6) rfl rfl (by kernel_rfl) (fun _ _ _ h => h) ?_; clear S a; intro a S
      refine d_off (i := 12) #[true, true, true, true, true, true, true, true, true, true, true, true, true, false, false, false, false, false, false, false, false, false, false, false, false, false, false, false] S rfl (wanted_off S rfl rfl rfl rfl bc6) rfl rfl (by kernel_rfl) (fun _ _ _ h => h) ?_; clear S a; intro a S
      refine d_off (i := 13) #[true, true, true, true, true, true, true, true, true, true, true, true, true, true, false, false, false, false, false, false, false, false, false, false, false, false, false, false] S rfl (wanted_off S rfl rfl rfl rfl bc6) rfl rfl (by kernel_rfl) (fun _ _ _ h => h) ?_; clear S a; intro a S
      refine d_pure (i := 14) #[true, true, true, true, true, true, true, true, true, true, true, true, true, true, true, false, false, false, false, false, false, false, false, false, false, false, false, false] S rfl (p_pick_f rfl bc6 rfl) (wanted_none rfl) rfl rfl (by kernel_rfl) (fun _ _ _ h => h) ?_; clear S a; intro a S
      refine d_pure (i := 15) #[true, true, true, true, true, true, true, true, true, true, true, true, true, true, true, true, false, false, false, false, false, false, false, false, false, false, false, false] S rfl (p_move rfl) (wanted_none rfl) rfl rfl (by kernel_rfl) (fun _ _ _ h => h) ?_; clear S a; intro a S
      refine d_off (i := 16) #[true, true, true, true, true, true, true, true, true, true, true, true, true, true, true, true, true, false, false, false, false, false, false, false, false, false, false, false] S rfl (wanted_off S rfl rfl rfl rfl rfl) rfl rfl (by kernel_rfl) (fun _ _ _ h => h) ?_; clear S a; intro a S
      refine d_off (i := 17) #[true, true, true, true, true, true, true, true, true, true, true, true, true, true, true, true, true, true, false, false, false, false, false, false, false, false, false, false] S rfl (wanted_off S rfl rfl rfl rfl rfl) rfl rfl (by kernel_rfl) (fun _ _ _ h => h) ?_; clear S a; intro a S
      refine d_off (i := 18) #[true, true, true, true, true, true, true, true, true, true, true, true, true, true, true, true, true, true, true, false, false, false, false, false, false, false, false, false] S rfl (wanted_off S rfl rfl rfl rfl rfl) rfl rfl (by kernel_rfl) (fun _ _ _ h => h) ?_; clear S a; intro a S
      refine d_off (i := 19) #[true, true, true, true, true, true, true, true, true, true, true, true, true, true, true, true, true, true, true, true, false, false, false, false, false, false, false, false] S rfl (wanted_off S rfl rfl rfl rfl rfl) rfl rfl (by kernel_rfl) (fun _ _ _ h => h) ?_; clear S a; intro a S
      refine d_off (i := 20) #[true, true, true, true, true, true, true, true, true, true, true, true, true, true, true, true, true, true, true, true, true, false, false, false, false, false, false, false] S rfl (wanted_off S rfl rfl rfl rfl rfl) rfl rfl (by kernel_rfl) (fun _ _ _ h => h) ?_; clear S a; intro a S
      refine d_off (i := 21) #[true, true, true, true, true, true, true, true, true, true, true, true, true, true, true, true, true, true, true, true, true, true, false, false, false, false, false, false] S rfl (wanted_off S rfl rfl rfl rfl rfl) rfl rfl (by kernel_rfl) (fun _ _ _ h => h) ?_; clear S a; intro a S
      refine d_off (i := 22) #[true, true, true, true, true, true, true, true, true, true, true, true, true, true, true, true, true, true, true, true, true, true, true, false, false, false, false, false] S rfl (wanted_off S rfl rfl rfl rfl rfl) rfl rfl (by kernel_rfl) (fun _ _ _ h => h) ?_; clear S a; intro a S
      refine d_off (i := 23) #[true, true, true, true, true, true, true, true, true, true, true, true, true, true, true, true, true, true, true, true, true, true, true, true, false, false, false, false] S rfl (wanted_off S rfl rfl rfl rfl rfl) rfl rfl (by kernel_rfl) (fun _ _ _ h => h) ?_; clear S a; intro a S
      refine d_off (i := 24) #[true, true, true, true, true, true, true, true, true, true, true, true, true, true, true, true, true, true, true, true, true, true, true, true, true, false, false, false] S rfl (wanted_off S rfl rfl rfl rfl rfl) rfl rfl (by kernel_rfl) (fun _ _ _ h => h) ?_; clear S a; intro a S
      refine d_off (i := 25) #[true, true, true, true, true, true, true, true, true, true, true, true, true, true, true, true, true, true, true, true, true, true, true, true, true, true, false, false] S rfl (wanted_off S rfl rfl rfl rfl rfl) rfl rfl (by kernel_rfl) (fun _ _ _ h => h) ?_; clear S a; intro a S
      refine d_off (i := 26) #[true, true, true, true, true, true, true, true, true, true, true, true, true, true, true, true, true, true, true, true, true, true, true, true, true, true, true, false] S rfl (wanted_off S rfl rfl rfl rfl rfl) rfl rfl (by kernel_rfl) (fun _ _ _ h => h) ?_; clear S a; intro a S
      refine d_pure (i := 27) #[true, true, true, true, true, true, true, true, true, true, true, true, true, true, true, true, true, true, true, true, true, true, true, true, true, true, true, true] S rfl (p_pick_f rfl rfl rfl) (wanted_none rfl) rfl rfl (by kernel_rfl) (fun _ _ _ h => h) ?_; clear S a; intro a S
      refine d_done (by kernel_rfl) ?_
      refine e_then ?_
      refine c_cond (b := false) S rfl (fun h => by cases h) (fun _ => ?_)
      refine wp_skip ?_
      refine e_then ?_
      refine wp_seq ?_
      refine wp_seq ?_
      refine c_region ?_
      refine l_pure S (p_move rfl) rfl rfl rfl ?_; clear S a; intro a S
      refine l_call S rfl rfl Tryd.func11 rfl rfl (sp.left_ wb _ _ _ gt tx (p + n) D false H (by omega) (by omega)) rfl rfl rfl ?_
      rintro e w ⟨rfl, hH⟩
      refine ⟨_, rfl, ?_⟩; clear S a; intro a S
      clear H; have H := hH; clear hH
      refine l_pure S (p_geq rfl rfl) rfl rfl rfl ?_; clear S a; intro a S
      refine l_nil ?_
      refine e_then ?_
      refine c_cond S rfl (fun bc26 => ?_) (fun bc26 => ?_)
      · skip
        have c26 := bc26
        have c26 := of_decide_eq_true c26
        refine c_region ?_
        refine l_pure S (p_move rfl) rfl rfl rfl ?_; clear S a; intro a S
        refine l_pure S (p_nilCheck rfl) rfl rfl rfl ?_; clear S a; intro a S
        refine l_pure S (p_fieldAddr rfl (fun w => fa31_2 w _ _)) rfl rfl rfl ?_; clear S a; intro a S
        refine l_store S H rfl rfl rfl .here (by first | decide | simp [Value.cells]) (fun w u hc hz => st1 sz4 rfl hc hz) rfl rfl ?_; clear S a H; intro w a H S
        refine l_nil ?_
        refine e_then ?_
        refine wp_seq ?_
        refine c_region ?_
        refine l_pure S (p_assign rfl) rfl rfl rfl ?_; clear S a; intro a S
        refine l_pure S (p_assign rfl) rfl rfl rfl ?_; clear S a; intro a S
        refine l_nil ?_
        refine e_then ?_
        refine wp_ret ?_
        have hl := ints_len tx
        have b1 := rp.bti tx (p + n)
        have b2 := rp.bti tx (p + n + 1)
        exact r_ret2 S rfl rfl rfl ⟨_, false, true, _, rfl, H, .inl ⟨(by unfold rp.bodyR; simp only [List.length_drop, List.drop_drop, rp.drop_getD, Nat.add_zero, hl]; rw [if_neg (by omega), if_pos (by omega), if_neg (by omega)]), rfl, rfl⟩⟩
      · skip
        have c26 := bc26
        have c26 := of_decide_eq_false c26
        refine wp_skip ?_
        refine e_then ?_
        refine wp_seq ?_
        refine c_region ?_
        refine l_pure S (p_assign rfl) rfl rfl rfl ?_; clear S a; intro a S
        refine l_pure S (p_assign rfl) rfl rfl rfl ?_; clear S a; intro a S
        refine l_nil ?_
        refine e_then ?_
        refine wp_ret ?_
        have hl := ints_len tx
        have b1 := rp.bti tx (p + n)
        have b2 := rp.bti tx (p + n + 1)
        exact r_ret2 S rfl rfl rfl ⟨_, false, false, _, rfl, H, .inr (.inl ⟨(by unfold rp.bodyR; simp only [List.length_drop, List.drop_drop, rp.drop_getD, Nat.add_zero, hl]; rw [if_neg (by omega), if_neg (by omega)]), rfl, rfl⟩)⟩
end sq
end Go.Proofs.YtnmelglnkefjfaaDoor.rr
