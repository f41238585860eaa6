/- Raw messages: the reference's small functions. -/
import Derived.Test.YtnmelglnkefjfaaDoorRp
import Derived.Test.YtnmelglnkefjfaaDoorDg
import Derived.Test.YtnmelglnkefjfaaDoorProg
namespace Go.Proofs.YtnmelglnkefjfaaDoor.rr
open Go.RowKit Go.Proofs.HHW Go.Proofs.YtnmelglnkefjfaaDoorW.PrintWords
set_option linter.unusedVariables false
set_option linter.unusedSimpArgs false
namespace sp
theorem ag3 : aggB Tryd.prog 3 = some false := by kernel_rfl
theorem ag9 : aggB Tryd.prog 9 = some false := by kernel_rfl
theorem fa31_0 (w : World) (g o : Nat) : (Instr.fieldAt 31 (.pointer (some ⟨g, o, none⟩)) 0).run Tryd.prog w = .ok (.pointer (some ⟨g, o + 0, none⟩)) w := by kernel_rfl
theorem fa31_1 (w : World) (g o : Nat) : (Instr.fieldAt 31 (.pointer (some ⟨g, o, none⟩)) 1).run Tryd.prog w = .ok (.pointer (some ⟨g, o + 1, none⟩)) w := by kernel_rfl


theorem left_ (wb w0 : World) (B : Nat) (L0 : dc.Bk) (gt : Nat) (tx : ByteArray) (p D : Nat) (od : Bool) (H : HH B wb w0 ((gt, .cells #[.string tx, .int .i64 (p : Int), .bool od, .int .i64 (D : Int)] 31 (0, 0)) :: L0)) (hp : p ≤ tx.size) (hS : tx.size ≤ 1000000) : Calls Tryd.prog 11 #[.pointer (some ⟨gt, 0, none⟩)] w0 fun e w' => e = .returned (.int .i64 ((tx.size - p : Nat) : Int)) ∧ HH B wb w' ((gt, .cells #[.string tx, .int .i64 (p : Int), .bool od, .int .i64 (D : Int)] 31 (0, 0)) :: L0) := by
  refine c_enter (args := [.pointer (some ⟨gt, 0, none⟩)]) (k := 12) Tryd.func11 rfl rfl rfl (fun a S => ?_)
  refine wp_seq ?_
  refine c_region ?_
  refine l_pure S (p_assign rfl) rfl rfl rfl ?_; clear S a; intro a S
  refine l_nil ?_
  refine e_then ?_
  refine wp_seq ?_
  refine d_start (id := 1) [] 11 #[false, false, false, false, false, false, false, false, false, false, false] H rfl rfl rfl (fun w H => ?_)
  refine d_pure (i := 0) #[true, false, false, false, false, false, false, false, false, false, false] S rfl (p_move rfl) (wanted_none rfl) rfl rfl (by kernel_rfl) (fun _ _ _ h => h) ?_; clear S a; intro a S
  refine d_pure (i := 1) #[true, true, false, false, false, false, false, false, false, false, false] S rfl (p_nilCheck rfl) (wanted_none rfl) rfl rfl (by kernel_rfl) (fun _ _ _ h => h) ?_; clear S a; intro a S
  refine d_pure (i := 2) #[true, true, true, false, false, false, false, false, false, false, false] S rfl (p_fieldAddr rfl (fun w => fa31_0 w _ _)) (wanted_none rfl) rfl rfl (by kernel_rfl) (fun _ _ _ h => h) ?_; clear S a; intro a S
  refine d_read (i := 3) #[true, true, true, true, false, false, false, false, false, false, false] S H rfl (r_load rfl List.mem_cons_self rfl (fun w hc => ld1 ag9 hc)) (wanted_none rfl) rfl rfl (by kernel_rfl) (fun _ _ _ h => h) ?_; clear S a; intro a S
  refine d_pure (i := 4) #[true, true, true, true, true, false, false, false, false, false, false] S rfl (p_lens Tryd.underlying9 rfl) (wanted_none rfl) rfl rfl (by kernel_rfl) (fun _ _ _ h => h) ?_; clear S a; intro a S
  refine d_pure (i := 5) #[true, true, true, true, true, true, false, false, false, false, false] S rfl (p_move rfl) (wanted_none rfl) rfl rfl (by kernel_rfl) (fun _ _ _ h => h) ?_; clear S a; intro a S
  refine d_pure (i := 6) #[true, true, true, true, true, true, true, false, false, false, false] S rfl (p_nilCheck rfl) (wanted_none rfl) rfl rfl (by kernel_rfl) (fun _ _ _ h => h) ?_; clear S a; intro a S
  refine d_pure (i := 7) #[true, true, true, true, true, true, true, true, false, false, false] S rfl (p_fieldAddr rfl (fun w => fa31_1 w _ _)) (wanted_none rfl) rfl rfl (by kernel_rfl) (fun _ _ _ h => h) ?_; clear S a; intro a S
  refine d_read (i := 8) #[true, true, true, true, true, true, true, true, true, false, false] S H rfl (r_load rfl List.mem_cons_self rfl (fun w hc => ld1 ag3 hc)) (wanted_none rfl) rfl rfl (by kernel_rfl) (fun _ _ _ h => h) ?_; clear S a; intro a S
  refine d_pure (i := 9) #[true, true, true, true, true, true, true, true, true, true, false] S rfl (p_sub rfl rfl (nat_sub (x := tx.size) (y := p) (by omega) (by omega))) (wanted_none rfl) rfl rfl (by kernel_rfl) (fun _ _ _ h => h) ?_; clear S a; intro a S
  refine d_pure (i := 10) #[true, true, true, true, true, true, true, true, true, true, true] S rfl (p_assign rfl) (wanted_none rfl) rfl rfl (by kernel_rfl) (fun _ _ _ h => h) ?_; clear S a; intro a S
  refine d_done (by kernel_rfl) ?_
  refine e_then ?_
  refine wp_ret ?_
  exact r_ret1 S rfl rfl ⟨rfl, H⟩
theorem many_ (wb w0 : World) (B : Nat) (L0 : dc.Bk) (x : Int) (H : HH B wb w0 L0) : Calls Tryd.prog 23 #[.int .u8 x] w0 fun e w' => e = .returned (.tuple #[.int .i64 (rp.many x : Int), .bool (decide (rp.many x ≠ 0))]) ∧ HH B wb w' L0 := by
  refine c_enter (args := [.int .u8 x]) (k := 11) Tryd.func23 rfl rfl rfl (fun a S => ?_)
  refine wp_seq ?_
  refine c_region ?_
  refine l_pure S (p_assign rfl) rfl rfl rfl ?_; clear S a; intro a S
  refine l_pure S (p_assign rfl) rfl rfl rfl ?_; clear S a; intro a S
  refine l_nil ?_
  refine e_then ?_
  refine wp_seq ?_
  refine wp_seq ?_
  refine c_region ?_
  refine l_pure S (p_move rfl) rfl rfl rfl ?_; clear S a; intro a S
  refine l_nil ?_
  refine e_then ?_
  refine wp_block ?_
  refine wp_seq ?_
  refine wp_seq ?_
  refine c_region ?_
  refine l_pure S (p_eql rfl rfl) rfl rfl rfl ?_; clear S a; intro a S
  refine l_pure S (p_assign rfl) rfl rfl rfl ?_; clear S a; intro a S
  refine l_nil ?_
  refine e_then ?_
  refine c_cond S rfl (fun bc3 => ?_) (fun bc3 => ?_)
  · skip
    have c3 := bc3
    have c3 := eq_of_beq c3
    refine wp_skip ?_
    refine e_then ?_
    refine c_cond S rfl (fun _ => ?_) (fun h => by rw [bc3] at h; cases h)
    refine wp_seq ?_
    refine c_region ?_
    refine l_pure S (p_assign rfl) rfl rfl rfl ?_; clear S a; intro a S
    refine l_pure S (p_assign rfl) rfl rfl rfl ?_; clear S a; intro a S
    refine l_nil ?_
    refine e_then ?_
    refine wp_ret ?_
    refine e_in_ret ?_
    refine e_then_ret ?_
    exact r_ret2 S rfl rfl rfl ⟨by simp [rp.many, *], H⟩
  · skip
    have c3 := bc3
    have c3 := ne_of_beq_false c3
    refine wp_seq ?_
    refine c_region ?_
    refine l_pure S (p_eql rfl rfl) rfl rfl rfl ?_; clear S a; intro a S
    refine l_pure S (p_assign rfl) rfl rfl rfl ?_; clear S a; intro a S
    refine l_nil ?_
    refine e_then ?_
    refine c_cond S rfl (fun bc7 => ?_) (fun bc7 => ?_)
    · skip
      have c7 := bc7
      have c7 := eq_of_beq c7
      refine wp_skip ?_
      refine e_then ?_
      refine c_cond S rfl (fun _ => ?_) (fun h => by rw [bc7] at h; cases h)
      refine wp_seq ?_
      refine c_region ?_
      refine l_pure S (p_assign rfl) rfl rfl rfl ?_; clear S a; intro a S
      refine l_pure S (p_assign rfl) rfl rfl rfl ?_; clear S a; intro a S
      refine l_nil ?_
      refine e_then ?_
      refine wp_ret ?_
      refine e_in_ret ?_
      refine e_then_ret ?_
      exact r_ret2 S rfl rfl rfl ⟨by simp [rp.many, *], H⟩
    · skip
      have c7 := bc7
      have c7 := ne_of_beq_false c7
      refine c_region ?_
      refine l_pure S (p_eql rfl rfl) rfl rfl rfl ?_; clear S a; intro a S
      refine l_pure S (p_assign rfl) rfl rfl rfl ?_; clear S a; intro a S
      refine l_nil ?_
      refine e_then ?_
      refine c_cond S rfl (fun bc11 => ?_) (fun bc11 => ?_)
      · skip
        have c11 := bc11
        have c11 := eq_of_beq c11
        refine wp_seq ?_
        refine c_region ?_
        refine l_pure S (p_assign rfl) rfl rfl rfl ?_; clear S a; intro a S
        refine l_pure S (p_assign rfl) rfl rfl rfl ?_; clear S a; intro a S
        refine l_nil ?_
        refine e_then ?_
        refine wp_ret ?_
        refine e_in_ret ?_
        refine e_then_ret ?_
        exact r_ret2 S rfl rfl rfl ⟨by simp [rp.many, *], H⟩
      · skip
        have c11 := bc11
        have c11 := ne_of_beq_false c11
        refine wp_seq ?_
        refine wp_seq ?_
        refine c_region ?_
        refine l_pure S (p_eql rfl rfl) rfl rfl rfl ?_; clear S a; intro a S
        refine l_pure S (p_assign rfl) rfl rfl rfl ?_; clear S a; intro a S
        refine l_nil ?_
        refine e_then ?_
        refine c_cond S rfl (fun bc14 => ?_) (fun bc14 => ?_)
        · skip
          have c14 := bc14
          have c14 := eq_of_beq c14
          refine wp_skip ?_
          refine e_then ?_
          refine c_cond S rfl (fun _ => ?_) (fun h => by rw [bc14] at h; cases h)
          refine wp_seq ?_
          refine c_region ?_
          refine l_pure S (p_assign rfl) rfl rfl rfl ?_; clear S a; intro a S
          refine l_pure S (p_assign rfl) rfl rfl rfl ?_; clear S a; intro a S
          refine l_nil ?_
          refine e_then ?_
          refine wp_ret ?_
          refine e_in_ret ?_
          refine e_then_ret ?_
          exact r_ret2 S rfl rfl rfl ⟨by simp [rp.many, *], H⟩
        · skip
          have c14 := bc14
          have c14 := ne_of_beq_false c14
          refine c_region ?_
          refine l_pure S (p_eql rfl rfl) rfl rfl rfl ?_; clear S a; intro a S
          refine l_pure S (p_assign rfl) rfl rfl rfl ?_; clear S a; intro a S
          refine l_nil ?_
          refine e_then ?_
          refine c_cond S rfl (fun bc18 => ?_) (fun bc18 => ?_)
          · skip
            have c18 := bc18
            have c18 := eq_of_beq c18
            refine wp_seq ?_
            refine c_region ?_
            refine l_pure S (p_assign rfl) rfl rfl rfl ?_; clear S a; intro a S
            refine l_pure S (p_assign rfl) rfl rfl rfl ?_; clear S a; intro a S
            refine l_nil ?_
            refine e_then ?_
            refine wp_ret ?_
            refine e_in_ret ?_
            refine e_then_ret ?_
            exact r_ret2 S rfl rfl rfl ⟨by simp [rp.many, *], H⟩
          · skip
            have c18 := bc18
            have c18 := ne_of_beq_false c18
            refine wp_skip ?_
            refine e_in 0 ?_
            refine e_then ?_
            refine wp_seq ?_
            refine c_region ?_
            refine l_pure S (p_assign rfl) rfl rfl rfl ?_; clear S a; intro a S
            refine l_pure S (p_assign rfl) rfl rfl rfl ?_; clear S a; intro a S
            refine l_nil ?_
            refine e_then ?_
            refine wp_ret ?_
            exact r_ret2 S rfl rfl rfl ⟨by simp [rp.many, *], H⟩
theorem isLine_ (wb w0 : World) (B : Nat) (L0 : dc.Bk) (x : Int) (H : HH B wb w0 L0) : Calls Tryd.prog 24 #[.int .u8 x] w0 fun e w' => e = .returned (.bool (rp.isLine x)) ∧ HH B wb w' L0 := by
  refine c_enter (args := [.int .u8 x]) (k := 11) Tryd.func24 rfl rfl rfl (fun a S => ?_)
  refine wp_seq ?_
  refine c_region ?_
  refine l_pure S (p_assign rfl) rfl rfl rfl ?_; clear S a; intro a S
  refine l_nil ?_
  refine e_then ?_
  refine wp_seq ?_
  refine wp_seq ?_
  refine c_region ?_
  refine l_pure S (p_move rfl) rfl rfl rfl ?_; clear S a; intro a S
  refine l_nil ?_
  refine e_then ?_
  refine wp_block ?_
  refine wp_seq ?_
  refine wp_seq ?_
  refine c_region ?_
  refine l_pure S (p_eql rfl rfl) rfl rfl rfl ?_; clear S a; intro a S
  refine l_pure S (p_assign rfl) rfl rfl rfl ?_; clear S a; intro a S
  refine l_nil ?_
  refine e_then ?_
  refine c_cond S rfl (fun bc3 => ?_) (fun bc3 => ?_)
  · skip
    have c3 := bc3
    have c3 := eq_of_beq c3
    refine wp_skip ?_
    refine e_then ?_
    refine c_cond S rfl (fun _ => ?_) (fun h => by rw [bc3] at h; cases h)
    refine wp_seq ?_
    refine c_region ?_
    refine l_pure S (p_assign rfl) rfl rfl rfl ?_; clear S a; intro a S
    refine l_nil ?_
    refine e_then ?_
    refine wp_ret ?_
    refine e_in_ret ?_
    refine e_then_ret ?_
    exact r_ret1 S rfl rfl ⟨by simp [rp.isLine, *], H⟩
  · skip
    have c3 := bc3
    have c3 := ne_of_beq_false c3
    refine wp_seq ?_
    refine c_region ?_
    refine l_pure S (p_eql rfl rfl) rfl rfl rfl ?_; clear S a; intro a S
    refine l_pure S (p_assign rfl) rfl rfl rfl ?_; clear S a; intro a S
    refine l_nil ?_
    refine e_then ?_
    refine c_cond S rfl (fun bc7 => ?_) (fun bc7 => ?_)
    · skip
      have c7 := bc7
      have c7 := eq_of_beq c7
      refine wp_skip ?_
      refine e_then ?_
      refine c_cond S rfl (fun _ => ?_) (fun h => by rw [bc7] at h; cases h)
      refine wp_seq ?_
      refine c_region ?_
      refine l_pure S (p_assign rfl) rfl rfl rfl ?_; clear S a; intro a S
      refine l_nil ?_
      refine e_then ?_
      refine wp_ret ?_
      refine e_in_ret ?_
      refine e_then_ret ?_
      exact r_ret1 S rfl rfl ⟨by simp [rp.isLine, *], H⟩
    · skip
      have c7 := bc7
      have c7 := ne_of_beq_false c7
      refine wp_seq ?_
      refine c_region ?_
      refine l_pure S (p_eql rfl rfl) rfl rfl rfl ?_; clear S a; intro a S
      refine l_pure S (p_assign rfl) rfl rfl rfl ?_; clear S a; intro a S
      refine l_nil ?_
      refine e_then ?_
      refine c_cond S rfl (fun bc11 => ?_) (fun bc11 => ?_)
      · skip
        have c11 := bc11
        have c11 := eq_of_beq c11
        refine wp_skip ?_
        refine e_then ?_
        refine c_cond S rfl (fun _ => ?_) (fun h => by rw [bc11] at h; cases h)
        refine wp_seq ?_
        refine c_region ?_
        refine l_pure S (p_assign rfl) rfl rfl rfl ?_; clear S a; intro a S
        refine l_nil ?_
        refine e_then ?_
        refine wp_ret ?_
        refine e_in_ret ?_
        refine e_then_ret ?_
        exact r_ret1 S rfl rfl ⟨by simp [rp.isLine, *], H⟩
      · skip
        have c11 := bc11
        have c11 := ne_of_beq_false c11
        refine wp_seq ?_
        refine c_region ?_
        refine l_pure S (p_eql rfl rfl) rfl rfl rfl ?_; clear S a; intro a S
        refine l_pure S (p_assign rfl) rfl rfl rfl ?_; clear S a; intro a S
        refine l_nil ?_
        refine e_then ?_
        refine c_cond S rfl (fun bc15 => ?_) (fun bc15 => ?_)
        · skip
          have c15 := bc15
          have c15 := eq_of_beq c15
          refine wp_skip ?_
          refine e_then ?_
          refine c_cond S rfl (fun _ => ?_) (fun h => by rw [bc15] at h; cases h)
          refine wp_seq ?_
          refine c_region ?_
          refine l_pure S (p_assign rfl) rfl rfl rfl ?_; clear S a; intro a S
          refine l_nil ?_
          refine e_then ?_
          refine wp_ret ?_
          refine e_in_ret ?_
          refine e_then_ret ?_
          exact r_ret1 S rfl rfl ⟨by simp [rp.isLine, *], H⟩
        · skip
          have c15 := bc15
          have c15 := ne_of_beq_false c15
          refine wp_seq ?_
          refine c_region ?_
          refine l_pure S (p_eql rfl rfl) rfl rfl rfl ?_; clear S a; intro a S
          refine l_pure S (p_assign rfl) rfl rfl rfl ?_; clear S a; intro a S
          refine l_nil ?_
          refine e_then ?_
          refine c_cond S rfl (fun bc19 => ?_) (fun bc19 => ?_)
          · skip
            have c19 := bc19
            have c19 := eq_of_beq c19
            refine wp_skip ?_
            refine e_then ?_
            refine c_cond S rfl (fun _ => ?_) (fun h => by rw [bc19] at h; cases h)
            refine wp_seq ?_
            refine c_region ?_
            refine l_pure S (p_assign rfl) rfl rfl rfl ?_; clear S a; intro a S
            refine l_nil ?_
            refine e_then ?_
            refine wp_ret ?_
            refine e_in_ret ?_
            refine e_then_ret ?_
            exact r_ret1 S rfl rfl ⟨by simp [rp.isLine, *], H⟩
          · skip
            have c19 := bc19
            have c19 := ne_of_beq_false c19
            refine wp_seq ?_
            refine c_region ?_
            refine l_pure S (p_eql rfl rfl) rfl rfl rfl ?_; clear S a; intro a S
            refine l_pure S (p_assign rfl) rfl rfl rfl ?_; clear S a; intro a S
            refine l_nil ?_
            refine e_then ?_
            refine c_cond S rfl (fun bc23 => ?_) (fun bc23 => ?_)
            · skip
              have c23 := bc23
              have c23 := eq_of_beq c23
              refine wp_skip ?_
              refine e_then ?_
              refine c_cond S rfl (fun _ => ?_) (fun h => by rw [bc23] at h; cases h)
              refine wp_seq ?_
              refine c_region ?_
              refine l_pure S (p_assign rfl) rfl rfl rfl ?_; clear S a; intro a S
              refine l_nil ?_
              refine e_then ?_
              refine wp_ret ?_
              refine e_in_ret ?_
              refine e_then_ret ?_
              exact r_ret1 S rfl rfl ⟨by simp [rp.isLine, *], H⟩
            · skip
              have c23 := bc23
              have c23 := ne_of_beq_false c23
              refine c_region ?_
              refine l_pure S (p_eql rfl rfl) rfl rfl rfl ?_; clear S a; intro a S
              refine l_pure S (p_assign rfl) rfl rfl rfl ?_; clear S a; intro a S
              refine l_nil ?_
              refine e_then ?_
              refine c_cond S rfl (fun bc27 => ?_) (fun bc27 => ?_)
              · skip
                have c27 := bc27
                have c27 := eq_of_beq c27
                refine wp_seq ?_
                refine c_region ?_
                refine l_pure S (p_assign rfl) rfl rfl rfl ?_; clear S a; intro a S
                refine l_nil ?_
                refine e_then ?_
                refine wp_ret ?_
                refine e_in_ret ?_
                refine e_then_ret ?_
                exact r_ret1 S rfl rfl ⟨by simp [rp.isLine, *], H⟩
              · skip
                have c27 := bc27
                have c27 := ne_of_beq_false c27
                refine wp_skip ?_
                refine e_in 0 ?_
                refine e_then ?_
                refine wp_seq ?_
                refine c_region ?_
                refine l_pure S (p_assign rfl) rfl rfl rfl ?_; clear S a; intro a S
                refine l_nil ?_
                refine e_then ?_
                refine wp_ret ?_
                exact r_ret1 S rfl rfl ⟨by simp [rp.isLine, *], H⟩
theorem isBlob_ (wb w0 : World) (B : Nat) (L0 : dc.Bk) (x : Int) (H : HH B wb w0 L0) : Calls Tryd.prog 25 #[.int .u8 x] w0 fun e w' => e = .returned (.bool (rp.isBlob x)) ∧ HH B wb w' L0 := by
  refine c_enter (args := [.int .u8 x]) (k := 16) Tryd.func25 rfl rfl rfl (fun a S => ?_)
  refine wp_seq ?_
  refine c_region ?_
  refine l_pure S (p_assign rfl) rfl rfl rfl ?_; clear S a; intro a S
  refine l_nil ?_
  refine e_then ?_
  refine wp_seq ?_
  refine c_region ?_
  refine l_pure S (p_move rfl) rfl rfl rfl ?_; clear S a; intro a S
  refine l_pure S (p_eql rfl rfl) rfl rfl rfl ?_; clear S a; intro a S
  refine l_pure S (p_move rfl) rfl rfl rfl ?_; clear S a; intro a S
  refine l_split (S.of 5 rfl) (fun bc3 => ?_) (fun bc3 => ?_)
  · skip
    have c3 := bc3
    have c3 := eq_of_beq c3
    refine l_off S rfl rfl rfl rfl bc3 rfl rfl ?_; clear S a; intro a S
    refine l_off S rfl rfl rfl rfl bc3 rfl rfl ?_; clear S a; intro a S
    refine l_pure S (p_pick_t rfl bc3 rfl) rfl rfl rfl ?_; clear S a; intro a S
    refine l_pure S (p_move rfl) rfl rfl rfl ?_; clear S a; intro a S
    refine l_off S rfl rfl rfl rfl rfl rfl rfl ?_; clear S a; intro a S
    refine l_off S rfl rfl rfl rfl rfl rfl rfl ?_; clear S a; intro a S
    refine l_pure S (p_pick_t rfl rfl rfl) rfl rfl rfl ?_; clear S a; intro a S
    refine l_pure S (p_move rfl) rfl rfl rfl ?_; clear S a; intro a S
    refine l_off S rfl rfl rfl rfl rfl rfl rfl ?_; clear S a; intro a S
    refine l_off S rfl rfl rfl rfl rfl rfl rfl ?_; clear S a; intro a S
    refine l_pure S (p_pick_t rfl rfl rfl) rfl rfl rfl ?_; clear S a; intro a S
    refine l_pure S (p_assign rfl) rfl rfl rfl ?_; clear S a; intro a S
    refine l_nil ?_
    refine e_then ?_
    refine wp_ret ?_
    exact r_ret1 S rfl rfl ⟨by simp [rp.isBlob, *], H⟩
  · skip
    have c3 := bc3
    have c3 := ne_of_beq_false c3
    refine l_on S rfl rfl rfl rfl bc3 ?_
    refine l_pure S (p_move rfl) rfl rfl rfl ?_; clear S a; intro a S
    refine l_on S rfl rfl rfl rfl bc3 ?_
    refine l_pure S (p_eql rfl rfl) rfl rfl rfl ?_; clear S a; intro a S
    refine l_pure S (p_pick_f rfl bc3 rfl) rfl rfl rfl ?_; clear S a; intro a S
    refine l_pure S (p_move rfl) rfl rfl rfl ?_; clear S a; intro a S
    refine l_split (S.of 9 rfl) (fun bc8 => ?_) (fun bc8 => ?_)
    · skip
      have c8 := bc8
      have c8 := eq_of_beq c8
      refine l_off S rfl rfl rfl rfl bc8 rfl rfl ?_; clear S a; intro a S
      refine l_off S rfl rfl rfl rfl bc8 rfl rfl ?_; clear S a; intro a S
      refine l_pure S (p_pick_t rfl bc8 rfl) rfl rfl rfl ?_; clear S a; intro a S
      refine l_pure S (p_move rfl) rfl rfl rfl ?_; clear S a; intro a S
      refine l_off S rfl rfl rfl rfl rfl rfl rfl ?_; clear S a; intro a S
      refine l_off S rfl rfl rfl rfl rfl rfl rfl ?_; clear S a; intro a S
      refine l_pure S (p_pick_t rfl rfl rfl) rfl rfl rfl ?_; clear S a; intro a S
      refine l_pure S (p_assign rfl) rfl rfl rfl ?_; clear S a; intro a S
      refine l_nil ?_
      refine e_then ?_
      refine wp_ret ?_
      exact r_ret1 S rfl rfl ⟨by simp [rp.isBlob, *], H⟩
    · skip
      have c8 := bc8
      have c8 := ne_of_beq_false c8
      refine l_on S rfl rfl rfl rfl bc8 ?_
      refine l_pure S (p_move rfl) rfl rfl rfl ?_; clear S a; intro a S
      refine l_on S rfl rfl rfl rfl bc8 ?_
      refine l_pure S (p_eql rfl rfl) rfl rfl rfl ?_; clear S a; intro a S
      refine l_pure S (p_pick_f rfl bc8 rfl) rfl rfl rfl ?_; clear S a; intro a S
      refine l_pure S (p_move rfl) rfl rfl rfl ?_; clear S a; intro a S
      refine l_split (S.of 13 rfl) (fun bc12 => ?_) (fun bc12 => ?_)
      · skip
        have c12 := bc12
        have c12 := eq_of_beq c12
        refine l_off S rfl rfl rfl rfl bc12 rfl rfl ?_; clear S a; intro a S
        refine l_off S rfl rfl rfl rfl bc12 rfl rfl ?_; clear S a; intro a S
        refine l_pure S (p_pick_t rfl bc12 rfl) rfl rfl rfl ?_; clear S a; intro a S
        refine l_pure S (p_assign rfl) rfl rfl rfl ?_; clear S a; intro a S
        refine l_nil ?_
        refine e_then ?_
        refine wp_ret ?_
        exact r_ret1 S rfl rfl ⟨by simp [rp.isBlob, *], H⟩
      · skip
        have c12 := bc12
        have c12 := ne_of_beq_false c12
        refine l_on S rfl rfl rfl rfl bc12 ?_
        refine l_pure S (p_move rfl) rfl rfl rfl ?_; clear S a; intro a S
        refine l_on S rfl rfl rfl rfl bc12 ?_
        refine l_pure S (p_eql rfl rfl) rfl rfl rfl ?_; clear S a; intro a S
        refine l_pure S (p_pick_f rfl bc12 rfl) rfl rfl rfl ?_; clear S a; intro a S
        refine l_pure S (p_assign rfl) rfl rfl rfl ?_; clear S a; intro a S
        refine l_nil ?_
        refine e_then ?_
        refine wp_ret ?_
        exact r_ret1 S rfl rfl ⟨by simp [rp.isBlob, *], H⟩
set_option maxHeartbeats 1000000 in
theorem parsed_ (wb w0 : World) (B : Nat) (L0 : dc.Bk) (b : ByteArray) (H : HH B wb w0 L0) (hb : b.size ≤ 1000000) : Calls Tryd.prog 38 #[.string b] w0 fun e w' => ∃ n ok great, e = .returned (.tuple #[.int .i64 n, .bool ok, .bool great]) ∧ ok = ((rp.digs (ints b)).all rp.dig && decide (rp.digs (ints b) ≠ [])) ∧ (ok = true → great = decide (18 < (rp.digs (ints b)).length) ∧ ((rp.digs (ints b)).length ≤ 18 → n = rp.num (ints b))) ∧ HH B wb w' L0 := by
  refine c_enter (args := [.string b]) (k := 65) Tryd.func38 rfl rfl rfl (fun a S => ?_)
  refine wp_seq ?_
  refine c_region ?_
  refine l_pure S (p_assign rfl) rfl rfl rfl ?_; clear S a; intro a S
  refine l_pure S (p_assign rfl) rfl rfl rfl ?_; clear S a; intro a S
  refine l_pure S (p_assign rfl) rfl rfl rfl ?_; clear S a; intro a S
  refine l_nil ?_
  refine e_then ?_
  refine wp_seq ?_
  refine c_region ?_
  refine l_pure S (p_move rfl) rfl rfl rfl ?_; clear S a; intro a S
  refine l_pure S (p_assign rfl) rfl rfl rfl ?_; clear S a; intro a S
  refine l_nil ?_
  refine e_then ?_
  refine c_cut (fun a w => ∃ dS : ByteArray, SL a 66 [] [(0, .string b), (2, .int .i64 0), (5, .string dS)] ∧ HH (B) wb w L0 ∧ ints dS = rp.digs (ints b)) ?_ ?_
  · clear S a H; rintro a w ⟨dS, S, H, hinv⟩
    have hdl : dS.size = (rp.digs (ints b)).length := by rw [← hinv, ints_len]
    have hdb : (rp.digs (ints b)).length ≤ b.size := by rw [← ints_len b, rp.digs]; split <;> simp
    refine wp_seq ?_
    refine wp_seq ?_
    refine c_region ?_
    refine l_pure S (p_assign rfl) rfl rfl rfl ?_; clear S a; intro a S
    refine l_nil ?_
    refine e_then ?_
    refine wp_block ?_
    refine c_loop (σ := Nat × Int) (fun s_ a w => match s_ with | ⟨i, n⟩ => SL a 66 [] [(0, .string b), (2, .int .i64 n), (5, .string dS), (6, .int .i64 (i : Int))] ∧ HH (B) wb w L0 ∧ (i ≤ dS.size ∧ ((rp.digs (ints b)).take i).all rp.dig = true ∧ n = rp.val 0 ((rp.digs (ints b)).take (min i 18)))) (fun s_ => match s_ with | ⟨i, n⟩ => dS.size - i) ⟨0, 0⟩ ⟨S.only ⟨rfl, rfl, rfl, rfl, trivial⟩, H, ⟨Nat.zero_le _, by simp, by simp [rp.val]⟩⟩ ?_
    clear S a H; rintro ⟨i, n⟩ a w ⟨S, H, hinv2⟩
    obtain ⟨hi, hd1, hn1⟩ := hinv2
    have hbi := rp.bti dS i
    rw [hinv] at hbi
    have hbr := HHW.bt_range dS i
    refine wp_seq ?_
    refine wp_seq ?_
    refine c_region ?_
    refine l_pure S (p_move rfl) rfl rfl rfl ?_; clear S a; intro a S
    refine l_pure S (p_move rfl) rfl rfl rfl ?_; clear S a; intro a S
    refine l_pure S (p_lens Tryd.underlying9 rfl) rfl rfl rfl ?_; clear S a; intro a S
    refine l_pure S (p_lss rfl rfl) rfl rfl rfl ?_; clear S a; intro a S
    refine l_nil ?_
    refine e_then ?_
    refine c_cond S rfl (fun bc4 => ?_) (fun bc4 => ?_)
    · skip
      have c4 := bc4
      have c4 := of_decide_eq_true c4
      refine wp_skip ?_
      refine e_then ?_
      refine wp_seq ?_
      refine wp_block ?_
      refine wp_seq ?_
      refine wp_seq ?_
      refine c_region ?_
      refine l_pure S (p_move rfl) rfl rfl rfl ?_; clear S a; intro a S
      refine l_pure S (p_move rfl) rfl rfl rfl ?_; clear S a; intro a S
      refine l_pure S (p_index rfl rfl (fun w => ix_string Tryd.underlying9 (by omega) (by omega))) rfl rfl rfl ?_; clear S a; intro a S
      refine l_pure S (p_lss rfl rfl) rfl rfl rfl ?_; clear S a; intro a S
      refine l_pure S (p_move rfl) rfl rfl rfl ?_; clear S a; intro a S
      refine l_split (S.of 33 rfl) (fun bc6 => ?_) (fun bc6 => ?_)
      · skip
        have c6 := bc6
        have c6 := of_decide_eq_true c6
        have hna : (rp.digs (ints b)).all rp.dig = false := rp.not_all (i := i) (by omega) (by omega)
        refine l_off S rfl rfl rfl rfl bc6 rfl rfl ?_; clear S a; intro a S
        refine l_off S rfl rfl rfl rfl bc6 rfl rfl ?_; clear S a; intro a S
        refine l_off S rfl rfl rfl rfl bc6 rfl rfl ?_; clear S a; intro a S
        refine l_off S rfl rfl rfl rfl bc6 rfl rfl ?_; clear S a; intro a S
        refine l_pure S (p_pick_t rfl bc6 rfl) rfl rfl rfl ?_; clear S a; intro a S
        refine l_nil ?_
        refine e_then ?_
        refine c_cond (b := true) S rfl (fun _ => ?_) (fun h => by cases h)
        refine wp_seq ?_
        refine c_region ?_
        refine l_pure S (p_assign rfl) rfl rfl rfl ?_; clear S a; intro a S
        refine l_pure S (p_assign rfl) rfl rfl rfl ?_; clear S a; intro a S
        refine l_pure S (p_assign rfl) rfl rfl rfl ?_; clear S a; intro a S
        refine l_nil ?_
        refine e_then ?_
        refine wp_ret ?_
        refine e_then_ret ?_
        refine e_in_ret ?_
        refine e_then_ret ?_
        refine e_then_ret ?_
        refine e_in_ret ?_
        refine e_then_ret ?_
        exact r_ret3 S rfl rfl rfl rfl ⟨_, _, _, rfl, by rw [hna]; rfl, (fun h => by cases h), H⟩
      · skip
        have c6 := bc6
        have c6 := of_decide_eq_false c6
        refine l_on S rfl rfl rfl rfl bc6 ?_
        refine l_pure S (p_move rfl) rfl rfl rfl ?_; clear S a; intro a S
        refine l_on S rfl rfl rfl rfl bc6 ?_
        refine l_pure S (p_move rfl) rfl rfl rfl ?_; clear S a; intro a S
        refine l_on S rfl rfl rfl rfl bc6 ?_
        refine l_pure S (p_index rfl rfl (fun w => ix_string Tryd.underlying9 (by omega) (by omega))) rfl rfl rfl ?_; clear S a; intro a S
        refine l_on S rfl rfl rfl rfl bc6 ?_
        refine l_pure S (p_gtr rfl rfl) rfl rfl rfl ?_; clear S a; intro a S
        refine l_pure S (p_pick_f rfl bc6 rfl) rfl rfl rfl ?_; clear S a; intro a S
        refine l_nil ?_
        refine e_then ?_
        refine c_cond S rfl (fun bc12 => ?_) (fun bc12 => ?_)
        · skip
          have c12 := bc12
          have c12 := of_decide_eq_true c12
          have hna : (rp.digs (ints b)).all rp.dig = false := rp.not_all (i := i) (by omega) (by omega)
          refine wp_seq ?_
          refine c_region ?_
          refine l_pure S (p_assign rfl) rfl rfl rfl ?_; clear S a; intro a S
          refine l_pure S (p_assign rfl) rfl rfl rfl ?_; clear S a; intro a S
          refine l_pure S (p_assign rfl) rfl rfl rfl ?_; clear S a; intro a S
          refine l_nil ?_
          refine e_then ?_
          refine wp_ret ?_
          refine e_then_ret ?_
          refine e_in_ret ?_
          refine e_then_ret ?_
          refine e_then_ret ?_
          refine e_in_ret ?_
          refine e_then_ret ?_
          exact r_ret3 S rfl rfl rfl rfl ⟨_, _, _, rfl, by rw [hna]; rfl, (fun h => by cases h), H⟩
        · skip
          have c12 := bc12
          have c12 := of_decide_eq_false c12
          refine wp_skip ?_
          refine e_then ?_
          refine wp_seq ?_
          refine c_region ?_
          refine l_pure S (p_move rfl) rfl rfl rfl ?_; clear S a; intro a S
          refine l_pure S (p_lss rfl rfl) rfl rfl rfl ?_; clear S a; intro a S
          refine l_nil ?_
          refine e_then ?_
          refine c_cond S rfl (fun bc16 => ?_) (fun bc16 => ?_)
          · skip
            have c16 := bc16
            have c16 := of_decide_eq_true c16
            refine c_region ?_
            refine l_pure S (p_move rfl) rfl rfl rfl ?_; clear S a; intro a S
            refine l_pure S (p_mul rfl rfl rfl) rfl rfl rfl ?_; clear S a; intro a S
            refine l_pure S (p_move rfl) rfl rfl rfl ?_; clear S a; intro a S
            refine l_pure S (p_move rfl) rfl rfl rfl ?_; clear S a; intro a S
            refine l_pure S (p_index rfl rfl (fun w => ix_string Tryd.underlying9 (by omega) (by omega))) rfl rfl rfl ?_; clear S a; intro a S
            refine l_pure S (p_sub rfl rfl rfl) rfl rfl rfl ?_; clear S a; intro a S
            refine l_pure S (p_conv rfl (fun w => cv_int (Tryd.underlying5) (Tryd.underlying2) rfl)) rfl rfl rfl ?_; clear S a; intro a S
            refine l_pure S (p_add rfl rfl rfl) rfl rfl rfl ?_; clear S a; intro a S
            refine l_pure S (p_assign rfl) rfl rfl rfl ?_; clear S a; intro a S
            refine l_nil ?_
            refine e_in 1 ?_
            refine e_then ?_
            refine c_region ?_
            refine l_pure S (p_move rfl) rfl rfl rfl ?_; clear S a; intro a S
            refine l_pure S (p_add rfl rfl (nat_add (x := i) (y := 1) (by omega))) rfl rfl rfl ?_; clear S a; intro a S
            refine l_pure S (p_assign rfl) rfl rfl rfl ?_; clear S a; intro a S
            refine l_nil ?_
            have hv := rp.val17 (l := (rp.digs (ints b)).take i) hd1 (by rw [List.length_take]; omega)
            have hn2 : n = rp.val 0 ((rp.digs (ints b)).take i) := by rw [hn1, Nat.min_eq_left (by omega)]
            have hnext : rp.val 0 ((rp.digs (ints b)).take (min (i + 1) 18)) = 10 * n + (HHW.bt dS (i : Int) - 48) := by rw [Nat.min_eq_left (by omega), rp.take_succ_getD (by omega), rp.val_snoc, ← hn2, ← hbi]
            refine e_then ?_
            exact ⟨⟨i + 1, _⟩, ⟨S.only ⟨rfl, rfl, rfl, rfl, trivial⟩, H, ⟨by omega, rp.all_take_succ (by omega) hd1 (by omega), by rw [hnext]; rw [IntWalk.i64_in (10 * n) (by omega), IntWalk.u8_in _ (by omega), IntWalk.i64_in (HHW.bt dS (i : Int) - 48) (by omega), IntWalk.i64_in _ (by omega)]⟩⟩, (show dS.size - (i + 1) < dS.size - i by omega)⟩
          · skip
            have c16 := bc16
            have c16 := of_decide_eq_false c16
            refine wp_skip ?_
            refine e_in 1 ?_
            refine e_then ?_
            refine c_region ?_
            refine l_pure S (p_move rfl) rfl rfl rfl ?_; clear S a; intro a S
            refine l_pure S (p_add rfl rfl (nat_add (x := i) (y := 1) (by omega))) rfl rfl rfl ?_; clear S a; intro a S
            refine l_pure S (p_assign rfl) rfl rfl rfl ?_; clear S a; intro a S
            refine l_nil ?_
            refine e_then ?_
            exact ⟨⟨i + 1, _⟩, ⟨S.only ⟨rfl, rfl, rfl, rfl, trivial⟩, H, ⟨by omega, rp.all_take_succ (by omega) hd1 (by omega), by rw [hn1, Nat.min_eq_right (by omega), Nat.min_eq_right (by omega)]⟩⟩, (show dS.size - (i + 1) < dS.size - i by omega)⟩
    · skip
      have c4 := bc4
      have c4 := of_decide_eq_false c4
      have hall : (rp.digs (ints b)).all rp.dig = true := by rw [List.take_of_length_le (by omega)] at hd1; exact hd1
      have hn18 : (rp.digs (ints b)).length ≤ 18 → n = rp.val 0 (rp.digs (ints b)) := fun h18 => by rw [hn1, List.take_of_length_le (by omega)]
      refine wp_exit ?_
      refine e_then_exit ?_
      refine e_then_exit ?_
      refine e_in_exit ?_
      refine e_then ?_
      refine c_cut (fun a w => ∃ n2 : Int, SL a 66 [] [(2, .int .i64 n2), (5, .string dS)] ∧ HH (B) wb w L0 ∧ ((rp.digs (ints b)).length ≤ 18 → n2 = rp.num (ints b))) ?_ ?_
      · clear S a H; rintro a w ⟨n2, S, H, hinv3⟩
        refine wp_seq ?_
        refine c_region ?_
        refine l_pure S (p_move rfl) rfl rfl rfl ?_; clear S a; intro a S
        refine l_pure S (p_move rfl) rfl rfl rfl ?_; clear S a; intro a S
        refine l_pure S (p_lens Tryd.underlying9 rfl) rfl rfl rfl ?_; clear S a; intro a S
        refine l_pure S (p_gtr rfl rfl) rfl rfl rfl ?_; clear S a; intro a S
        refine l_pure S (p_move rfl) rfl rfl rfl ?_; clear S a; intro a S
        refine l_pure S (p_lens Tryd.underlying9 rfl) rfl rfl rfl ?_; clear S a; intro a S
        refine l_pure S (p_gtr rfl rfl) rfl rfl rfl ?_; clear S a; intro a S
        refine l_pure S (p_assign rfl) rfl rfl rfl ?_; clear S a; intro a S
        refine l_pure S (p_assign rfl) rfl rfl rfl ?_; clear S a; intro a S
        refine l_pure S (p_assign rfl) rfl rfl rfl ?_; clear S a; intro a S
        refine l_nil ?_
        refine e_then ?_
        refine wp_ret ?_
        exact r_ret3 S rfl rfl rfl rfl ⟨_, _, _, rfl, by rw [hall, Bool.true_and]; congr 1; exact propext (by rw [hdl, Ne, ← List.length_eq_zero_iff]; omega), (fun _ => ⟨by congr 1; exact propext (by rw [hdl]; omega), hinv3⟩), H⟩
      · skip
        refine wp_seq ?_
        refine c_region ?_
        refine l_pure S (p_move rfl) rfl rfl rfl ?_; clear S a; intro a S
        refine l_pure S (p_lens Tryd.underlying9 rfl) rfl rfl rfl ?_; clear S a; intro a S
        refine l_pure S (p_gtr rfl rfl) rfl rfl rfl ?_; clear S a; intro a S
        refine l_pure S (p_move rfl) rfl rfl rfl ?_; clear S a; intro a S
        refine l_split (S.of 52 rfl) (fun bc20 => ?_) (fun bc20 => ?_)
        · skip
          have c20 := bc20
          have c20 := of_decide_eq_true c20
          refine l_on S rfl rfl rfl rfl bc20 ?_
          refine l_pure S (p_move rfl) rfl rfl rfl ?_; clear S a; intro a S
          refine l_on S rfl rfl rfl rfl bc20 ?_
          refine l_pure S (p_index rfl rfl (fun w => ix_string Tryd.underlying9 (by omega) (by omega))) rfl rfl rfl ?_; clear S a; intro a S
          refine l_on S rfl rfl rfl rfl bc20 ?_
          refine l_pure S (p_eql rfl rfl) rfl rfl rfl ?_; clear S a; intro a S
          refine l_pure S (p_pick_t rfl bc20 rfl) rfl rfl rfl ?_; clear S a; intro a S
          refine l_nil ?_
          refine e_then ?_
          refine c_cond S rfl (fun bc22 => ?_) (fun bc22 => ?_)
          · skip
            have c22 := bc22
            have c22 := eq_of_beq c22
            refine c_region ?_
            refine l_pure S (p_move rfl) rfl rfl rfl ?_; clear S a; intro a S
            refine l_pure S (p_neg rfl rfl) rfl rfl rfl ?_; clear S a; intro a S
            refine l_pure S (p_assign rfl) rfl rfl rfl ?_; clear S a; intro a S
            refine l_nil ?_
            refine e_then ?_
            exact ⟨(IntKind.i64.wrap (0 - n)), S.only ⟨rfl, rfl, trivial⟩, H, (rp.num_neg (by have := rp.bt0 b; omega) hall hn18)⟩
          · skip
            have c22 := bc22
            have c22 := ne_of_beq_false c22
            refine wp_skip ?_
            refine e_then ?_
            exact ⟨n, S.only ⟨rfl, rfl, trivial⟩, H, (rp.num_else (by have := rp.bt0 b; omega) hn18)⟩
        · skip
          have c20 := bc20
          have c20 := of_decide_eq_false c20
          refine l_off S rfl rfl rfl rfl bc20 rfl rfl ?_; clear S a; intro a S
          refine l_off S rfl rfl rfl rfl bc20 rfl rfl ?_; clear S a; intro a S
          refine l_off S rfl rfl rfl rfl bc20 rfl rfl ?_; clear S a; intro a S
          refine l_pure S (p_pick_f rfl bc20 rfl) rfl rfl rfl ?_; clear S a; intro a S
          refine l_nil ?_
          refine e_then ?_
          refine c_cond (b := false) S rfl (fun h => by cases h) (fun _ => ?_)
          refine wp_skip ?_
          refine e_then ?_
          exact ⟨n, S.only ⟨rfl, rfl, trivial⟩, H, (rp.num_else (by have := rp.bt0 b; omega) hn18)⟩
  · skip
    refine wp_seq ?_
    refine c_region ?_
    refine l_pure S (p_move rfl) rfl rfl rfl ?_; clear S a; intro a S
    refine l_pure S (p_lens Tryd.underlying9 rfl) rfl rfl rfl ?_; clear S a; intro a S
    refine l_pure S (p_gtr rfl rfl) rfl rfl rfl ?_; clear S a; intro a S
    refine l_pure S (p_move rfl) rfl rfl rfl ?_; clear S a; intro a S
    refine l_split (S.of 11 rfl) (fun bc26 => ?_) (fun bc26 => ?_)
    · skip
      have c26 := bc26
      have c26 := of_decide_eq_true c26
      refine l_on S rfl rfl rfl rfl bc26 ?_
      refine l_pure S (p_move rfl) rfl rfl rfl ?_; clear S a; intro a S
      refine l_on S rfl rfl rfl rfl bc26 ?_
      refine l_pure S (p_index rfl rfl (fun w => ix_string Tryd.underlying9 (by omega) (by omega))) rfl rfl rfl ?_; clear S a; intro a S
      refine l_on S rfl rfl rfl rfl bc26 ?_
      refine l_pure S (p_eql rfl rfl) rfl rfl rfl ?_; clear S a; intro a S
      refine l_on S rfl rfl rfl rfl bc26 ?_
      refine l_pure S (p_move rfl) rfl rfl rfl ?_; clear S a; intro a S
      refine l_split (S.of 15 rfl) (fun bc28 => ?_) (fun bc28 => ?_)
      · skip
        have c28 := bc28
        have c28 := eq_of_beq c28
        refine l_off S rfl rfl rfl rfl bc28 rfl rfl ?_; clear S a; intro a S
        refine l_off S rfl rfl rfl rfl bc28 rfl rfl ?_; clear S a; intro a S
        refine l_off S rfl rfl rfl rfl bc28 rfl rfl ?_; clear S a; intro a S
        refine l_on S rfl rfl rfl rfl bc26 ?_
        refine l_pure S (p_pick_t rfl bc28 rfl) rfl rfl rfl ?_; clear S a; intro a S
        refine l_pure S (p_pick_t rfl bc26 rfl) rfl rfl rfl ?_; clear S a; intro a S
        refine l_nil ?_
        refine e_then ?_
        refine c_cond (b := true) S rfl (fun _ => ?_) (fun h => by cases h)
        refine c_region ?_
        refine l_pure S (p_move rfl) rfl rfl rfl ?_; clear S a; intro a S
        refine l_pure S (p_slice rfl (o_some rfl) (fun _ _ => o_none) (fun _ _ => o_none) (fun w => sl_string_lo Tryd.underlying9 (by omega) (by omega))) rfl rfl rfl ?_; clear S a; intro a S
        refine l_pure S (p_assign rfl) rfl rfl rfl ?_; clear S a; intro a S
        refine l_nil ?_
        refine e_then ?_
        exact ⟨(b.extract 1 b.size), S.only ⟨rfl, rfl, rfl, trivial⟩, H, (by rw [rp.ints_extract, List.take_of_length_le (by rw [ints_len]; exact Nat.le_refl _), rp.digs, if_pos ⟨by rw [Ne, rp.ints_nil]; omega, by have := rp.bt0 b; omega⟩])⟩
      · skip
        have c28 := bc28
        have c28 := ne_of_beq_false c28
        refine l_on S rfl rfl rfl rfl bc28 ?_
        refine l_pure S (p_move rfl) rfl rfl rfl ?_; clear S a; intro a S
        refine l_on S rfl rfl rfl rfl bc28 ?_
        refine l_pure S (p_index rfl rfl (fun w => ix_string Tryd.underlying9 (by omega) (by omega))) rfl rfl rfl ?_; clear S a; intro a S
        refine l_on S rfl rfl rfl rfl bc28 ?_
        refine l_pure S (p_eql rfl rfl) rfl rfl rfl ?_; clear S a; intro a S
        refine l_on S rfl rfl rfl rfl bc26 ?_
        refine l_pure S (p_pick_f rfl bc28 rfl) rfl rfl rfl ?_; clear S a; intro a S
        refine l_pure S (p_pick_t rfl bc26 rfl) rfl rfl rfl ?_; clear S a; intro a S
        refine l_nil ?_
        refine e_then ?_
        refine c_cond S rfl (fun bc32 => ?_) (fun bc32 => ?_)
        · skip
          have c32 := bc32
          have c32 := eq_of_beq c32
          refine c_region ?_
          refine l_pure S (p_move rfl) rfl rfl rfl ?_; clear S a; intro a S
          refine l_pure S (p_slice rfl (o_some rfl) (fun _ _ => o_none) (fun _ _ => o_none) (fun w => sl_string_lo Tryd.underlying9 (by omega) (by omega))) rfl rfl rfl ?_; clear S a; intro a S
          refine l_pure S (p_assign rfl) rfl rfl rfl ?_; clear S a; intro a S
          refine l_nil ?_
          refine e_then ?_
          exact ⟨(b.extract 1 b.size), S.only ⟨rfl, rfl, rfl, trivial⟩, H, (by rw [rp.ints_extract, List.take_of_length_le (by rw [ints_len]; exact Nat.le_refl _), rp.digs, if_pos ⟨by rw [Ne, rp.ints_nil]; omega, by have := rp.bt0 b; omega⟩])⟩
        · skip
          have c32 := bc32
          have c32 := ne_of_beq_false c32
          refine wp_skip ?_
          refine e_then ?_
          exact ⟨b, S.only ⟨rfl, rfl, rfl, trivial⟩, H, (by rw [rp.digs, if_neg (fun h => by have := rp.bt0 b; have h1 := h.1; rw [Ne, rp.ints_nil] at h1; omega)])⟩
    · skip
      have c26 := bc26
      have c26 := of_decide_eq_false c26
      refine l_off S rfl rfl rfl rfl bc26 rfl rfl ?_; clear S a; intro a S
      refine l_off S rfl rfl rfl rfl bc26 rfl rfl ?_; clear S a; intro a S
      refine l_off S rfl rfl rfl rfl bc26 rfl rfl ?_; clear S a; intro a S
      refine l_off S rfl rfl rfl rfl bc26 rfl rfl ?_; clear S a; intro a S
      refine l_offU S rfl rfl rfl rfl rfl rfl ?_; clear S a; intro a S
      refine l_offU S rfl rfl rfl rfl rfl rfl ?_; clear S a; intro a S
      refine l_offU S rfl rfl rfl rfl rfl rfl ?_; clear S a; intro a S
      refine l_off S rfl rfl rfl rfl bc26 rfl rfl ?_; clear S a; intro a S
      refine l_pure S (p_pick_f rfl bc26 rfl) rfl rfl rfl ?_; clear S a; intro a S
      refine l_nil ?_
      refine e_then ?_
      refine c_cond (b := false) S rfl (fun h => by cases h) (fun _ => ?_)
      refine wp_skip ?_
      refine e_then ?_
      exact ⟨b, S.only ⟨rfl, rfl, rfl, trivial⟩, H, (by rw [rp.digs, if_neg (fun h => by have := rp.bt0 b; have h1 := h.1; rw [Ne, rp.ints_nil] at h1; omega)])⟩
end sp
end Go.Proofs.YtnmelglnkefjfaaDoor.rr
