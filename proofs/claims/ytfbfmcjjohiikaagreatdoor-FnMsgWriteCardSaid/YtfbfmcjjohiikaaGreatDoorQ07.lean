/- the wire of a message -/
import Derived.Test.YtfbfmcjjohiikaaGreatDoorQ02
import Derived.Test.YtfbfmcjjohiikaaGreatDoorQ06
import Derived.Test.YtfbfmcjjohiikaaGreatDoorQ01
set_option linter.unusedVariables false
set_option linter.unusedSimpArgs false
section
namespace Go.Proofs.YtfbfmcjjohiikaaGreatDoor.mw
open Go.Proofs.YtfbfmcjjohiikaaGreatDoor.fx
open Go.RowKit Go.Proofs.HHW Go.Proofs.YtfbfmcjjohiikaaGreatDoorW.PrintWords
namespace wr
theorem sz2 : szB Tryz.prog 2 = some 1 := by kernel_rfl
theorem sz22 : szB Tryz.prog 22 = some 1 := by kernel_rfl
theorem sz4 : szB Tryz.prog 4 = some 1 := by kernel_rfl
theorem zv24 : zvB Tryz.prog 24 = some (.agg #[.int .i64 0, .string ⟨#[]⟩, .int .i64 0, .float .f64 0, .bool false, .string ⟨#[]⟩, .int .i64 0, .bool false]) := by kernel_rfl
theorem bld24_0 (x0_0 : Int) : Tryz.prog.built 24 [(0, (.int .i64 x0_0))] = some #[.int .i64 x0_0, .string ⟨#[]⟩, .int .i64 0, .float .f64 0, .bool false, .string ⟨#[]⟩, .int .i64 0, .bool false] := by kernel_rfl
theorem many_ (wb w0 : World) (B : Nat) (L0 : dc.Bk) (K : Int) (H : HH B wb w0 L0) : Calls Tryz.prog 8 #[.int .u8 K] w0 fun e w' => ∃ n : Int, e = .returned (.tuple #[.int .i64 n, .bool (mw.many K)]) ∧ HH B wb w' L0 := by
 refine c_enter (args := [.int .u8 K]) (k := 11) Tryz.func8 rfl rfl rfl (fun a S => ?_)
 refine wp_seq ?_
 refine c_region ?_
 refine l_mv 2 S rfl ?_; clear S a; intro a S
 refine l_nil ?_
 refine e_then ?_
 refine wp_seq ?_
 refine wp_seq ?_
 refine c_region ?_
 refine l_mv 1 S rfl ?_; clear S a; intro a S
 refine l_nil ?_
 refine e_then ?_
 refine wp_block ?_
 refine wp_seq ?_
 refine wp_seq ?_
 refine c_region ?_
 refine l_pure S (p_eql rfl rfl) rfl rfl rfl ?_; clear S a; intro a S
 refine l_mv 1 S rfl ?_; clear S a; intro a S
 refine l_nil ?_
 refine e_then ?_
 refine c_cond S rfl (fun bc3 => ?_) (fun bc3 => ?_)
 ·
  have c3 := bc3
  have c3 := eq_of_beq c3
  refine wp_skip ?_
  refine e_then ?_
  refine c_cond S rfl (fun _ => ?_) (fun h => by rw [bc3] at h; cases h)
  refine wp_seq ?_
  refine c_region ?_
  refine l_mv 2 S rfl ?_; clear S a; intro a S
  refine l_nil ?_
  refine e_then ?_
  refine wp_ret ?_
  refine e_in_ret ?_
  refine e_then_ret ?_
  exact r_ret2 S rfl rfl rfl ⟨1, by simp [mw.many, c3], H⟩
 ·
  have c3 := bc3
  have c3 := ne_of_beq_false c3
  refine wp_seq ?_
  refine c_region ?_
  refine l_pure S (p_eql rfl rfl) rfl rfl rfl ?_; clear S a; intro a S
  refine l_mv 1 S rfl ?_; clear S a; intro a S
  refine l_nil ?_
  refine e_then ?_
  refine c_cond S rfl (fun bc7 => ?_) (fun bc7 => ?_)
  ·
   have c7 := bc7
   have c7 := eq_of_beq c7
   refine wp_skip ?_
   refine e_then ?_
   refine c_cond S rfl (fun _ => ?_) (fun h => by rw [bc7] at h; cases h)
   refine wp_seq ?_
   refine c_region ?_
   refine l_mv 2 S rfl ?_; clear S a; intro a S
   refine l_nil ?_
   refine e_then ?_
   refine wp_ret ?_
   refine e_in_ret ?_
   refine e_then_ret ?_
   exact r_ret2 S rfl rfl rfl ⟨1, by simp [mw.many, c3, c7], H⟩
  ·
   have c7 := bc7
   have c7 := ne_of_beq_false c7
   refine c_region ?_
   refine l_pure S (p_eql rfl rfl) rfl rfl rfl ?_; clear S a; intro a S
   refine l_mv 1 S rfl ?_; clear S a; intro a S
   refine l_nil ?_
   refine e_then ?_
   refine c_cond S rfl (fun bc11 => ?_) (fun bc11 => ?_)
   ·
    have c11 := bc11
    have c11 := eq_of_beq c11
    refine wp_seq ?_
    refine c_region ?_
    refine l_mv 2 S rfl ?_; clear S a; intro a S
    refine l_nil ?_
    refine e_then ?_
    refine wp_ret ?_
    refine e_in_ret ?_
    refine e_then_ret ?_
    exact r_ret2 S rfl rfl rfl ⟨1, by simp [mw.many, c3, c7, c11], H⟩
   ·
    have c11 := bc11
    have c11 := ne_of_beq_false c11
    refine wp_seq ?_
    refine wp_seq ?_
    refine c_region ?_
    refine l_pure S (p_eql rfl rfl) rfl rfl rfl ?_; clear S a; intro a S
    refine l_mv 1 S rfl ?_; clear S a; intro a S
    refine l_nil ?_
    refine e_then ?_
    refine c_cond S rfl (fun bc14 => ?_) (fun bc14 => ?_)
    ·
     have c14 := bc14
     have c14 := eq_of_beq c14
     refine wp_skip ?_
     refine e_then ?_
     refine c_cond S rfl (fun _ => ?_) (fun h => by rw [bc14] at h; cases h)
     refine wp_seq ?_
     refine c_region ?_
     refine l_mv 2 S rfl ?_; clear S a; intro a S
     refine l_nil ?_
     refine e_then ?_
     refine wp_ret ?_
     refine e_in_ret ?_
     refine e_then_ret ?_
     exact r_ret2 S rfl rfl rfl ⟨2, by simp [mw.many, c3, c7, c11, c14], H⟩
    ·
     have c14 := bc14
     have c14 := ne_of_beq_false c14
     refine c_region ?_
     refine l_pure S (p_eql rfl rfl) rfl rfl rfl ?_; clear S a; intro a S
     refine l_mv 1 S rfl ?_; clear S a; intro a S
     refine l_nil ?_
     refine e_then ?_
     refine c_cond S rfl (fun bc18 => ?_) (fun bc18 => ?_)
     ·
      have c18 := bc18
      have c18 := eq_of_beq c18
      refine wp_seq ?_
      refine c_region ?_
      refine l_mv 2 S rfl ?_; clear S a; intro a S
      refine l_nil ?_
      refine e_then ?_
      refine wp_ret ?_
      refine e_in_ret ?_
      refine e_then_ret ?_
      exact r_ret2 S rfl rfl rfl ⟨2, by simp [mw.many, c3, c7, c11, c14, c18], H⟩
     ·
      have c18 := bc18
      have c18 := ne_of_beq_false c18
      refine wp_skip ?_
      refine e_in 0 ?_
      refine e_then ?_
      refine wp_seq ?_
      refine c_region ?_
      refine l_mv 2 S rfl ?_; clear S a; intro a S
      refine l_nil ?_
      refine e_then ?_
      refine wp_ret ?_
      exact r_ret2 S rfl rfl rfl ⟨0, by simp [mw.many, c3, c7, c11, c14, c18], H⟩
theorem line_ (wb w0 : World) (B : Nat) (L0 : dc.Bk) (K : Int) (H : HH B wb w0 L0) : Calls Tryz.prog 9 #[.int .u8 K] w0 fun e w' => e = .returned (.bool (mw.line K)) ∧ HH B wb w' L0 := by
 refine c_enter (args := [.int .u8 K]) (k := 11) Tryz.func9 rfl rfl rfl (fun a S => ?_)
 refine wp_seq ?_
 refine c_region ?_
 refine l_mv 1 S rfl ?_; clear S a; intro a S
 refine l_nil ?_
 refine e_then ?_
 refine wp_seq ?_
 refine wp_seq ?_
 refine c_region ?_
 refine l_mv 1 S rfl ?_; clear S a; intro a S
 refine l_nil ?_
 refine e_then ?_
 refine wp_block ?_
 refine wp_seq ?_
 refine wp_seq ?_
 refine c_region ?_
 refine l_pure S (p_eql rfl rfl) rfl rfl rfl ?_; clear S a; intro a S
 refine l_mv 1 S rfl ?_; clear S a; intro a S
 refine l_nil ?_
 refine e_then ?_
 refine c_cond S rfl (fun bc3 => ?_) (fun bc3 => ?_)
 ·
  have c3 := bc3
  have c3 := eq_of_beq c3
  refine wp_skip ?_
  refine e_then ?_
  refine c_cond S rfl (fun _ => ?_) (fun h => by rw [bc3] at h; cases h)
  refine wp_seq ?_
  refine c_region ?_
  refine l_mv 1 S rfl ?_; clear S a; intro a S
  refine l_nil ?_
  refine e_then ?_
  refine wp_ret ?_
  refine e_in_ret ?_
  refine e_then_ret ?_
  exact r_ret1 S rfl rfl ⟨by simp [mw.line, c3], H⟩
 ·
  have c3 := bc3
  have c3 := ne_of_beq_false c3
  refine wp_seq ?_
  refine c_region ?_
  refine l_pure S (p_eql rfl rfl) rfl rfl rfl ?_; clear S a; intro a S
  refine l_mv 1 S rfl ?_; clear S a; intro a S
  refine l_nil ?_
  refine e_then ?_
  refine c_cond S rfl (fun bc7 => ?_) (fun bc7 => ?_)
  ·
   have c7 := bc7
   have c7 := eq_of_beq c7
   refine wp_skip ?_
   refine e_then ?_
   refine c_cond S rfl (fun _ => ?_) (fun h => by rw [bc7] at h; cases h)
   refine wp_seq ?_
   refine c_region ?_
   refine l_mv 1 S rfl ?_; clear S a; intro a S
   refine l_nil ?_
   refine e_then ?_
   refine wp_ret ?_
   refine e_in_ret ?_
   refine e_then_ret ?_
   exact r_ret1 S rfl rfl ⟨by simp [mw.line, c3, c7], H⟩
  ·
   have c7 := bc7
   have c7 := ne_of_beq_false c7
   refine wp_seq ?_
   refine c_region ?_
   refine l_pure S (p_eql rfl rfl) rfl rfl rfl ?_; clear S a; intro a S
   refine l_mv 1 S rfl ?_; clear S a; intro a S
   refine l_nil ?_
   refine e_then ?_
   refine c_cond S rfl (fun bc11 => ?_) (fun bc11 => ?_)
   ·
    have c11 := bc11
    have c11 := eq_of_beq c11
    refine wp_skip ?_
    refine e_then ?_
    refine c_cond S rfl (fun _ => ?_) (fun h => by rw [bc11] at h; cases h)
    refine wp_seq ?_
    refine c_region ?_
    refine l_mv 1 S rfl ?_; clear S a; intro a S
    refine l_nil ?_
    refine e_then ?_
    refine wp_ret ?_
    refine e_in_ret ?_
    refine e_then_ret ?_
    exact r_ret1 S rfl rfl ⟨by simp [mw.line, c3, c7, c11], H⟩
   ·
    have c11 := bc11
    have c11 := ne_of_beq_false c11
    refine wp_seq ?_
    refine c_region ?_
    refine l_pure S (p_eql rfl rfl) rfl rfl rfl ?_; clear S a; intro a S
    refine l_mv 1 S rfl ?_; clear S a; intro a S
    refine l_nil ?_
    refine e_then ?_
    refine c_cond S rfl (fun bc15 => ?_) (fun bc15 => ?_)
    ·
     have c15 := bc15
     have c15 := eq_of_beq c15
     refine wp_skip ?_
     refine e_then ?_
     refine c_cond S rfl (fun _ => ?_) (fun h => by rw [bc15] at h; cases h)
     refine wp_seq ?_
     refine c_region ?_
     refine l_mv 1 S rfl ?_; clear S a; intro a S
     refine l_nil ?_
     refine e_then ?_
     refine wp_ret ?_
     refine e_in_ret ?_
     refine e_then_ret ?_
     exact r_ret1 S rfl rfl ⟨by simp [mw.line, c3, c7, c11, c15], H⟩
    ·
     have c15 := bc15
     have c15 := ne_of_beq_false c15
     refine wp_seq ?_
     refine c_region ?_
     refine l_pure S (p_eql rfl rfl) rfl rfl rfl ?_; clear S a; intro a S
     refine l_mv 1 S rfl ?_; clear S a; intro a S
     refine l_nil ?_
     refine e_then ?_
     refine c_cond S rfl (fun bc19 => ?_) (fun bc19 => ?_)
     ·
      have c19 := bc19
      have c19 := eq_of_beq c19
      refine wp_skip ?_
      refine e_then ?_
      refine c_cond S rfl (fun _ => ?_) (fun h => by rw [bc19] at h; cases h)
      refine wp_seq ?_
      refine c_region ?_
      refine l_mv 1 S rfl ?_; clear S a; intro a S
      refine l_nil ?_
      refine e_then ?_
      refine wp_ret ?_
      refine e_in_ret ?_
      refine e_then_ret ?_
      exact r_ret1 S rfl rfl ⟨by simp [mw.line, c3, c7, c11, c15, c19], H⟩
     ·
      have c19 := bc19
      have c19 := ne_of_beq_false c19
      refine wp_seq ?_
      refine c_region ?_
      refine l_pure S (p_eql rfl rfl) rfl rfl rfl ?_; clear S a; intro a S
      refine l_mv 1 S rfl ?_; clear S a; intro a S
      refine l_nil ?_
      refine e_then ?_
      refine c_cond S rfl (fun bc23 => ?_) (fun bc23 => ?_)
      ·
       have c23 := bc23
       have c23 := eq_of_beq c23
       refine wp_skip ?_
       refine e_then ?_
       refine c_cond S rfl (fun _ => ?_) (fun h => by rw [bc23] at h; cases h)
       refine wp_seq ?_
       refine c_region ?_
       refine l_mv 1 S rfl ?_; clear S a; intro a S
       refine l_nil ?_
       refine e_then ?_
       refine wp_ret ?_
       refine e_in_ret ?_
       refine e_then_ret ?_
       exact r_ret1 S rfl rfl ⟨by simp [mw.line, c3, c7, c11, c15, c19, c23], H⟩
      ·
       have c23 := bc23
       have c23 := ne_of_beq_false c23
       refine c_region ?_
       refine l_pure S (p_eql rfl rfl) rfl rfl rfl ?_; clear S a; intro a S
       refine l_mv 1 S rfl ?_; clear S a; intro a S
       refine l_nil ?_
       refine e_then ?_
       refine c_cond S rfl (fun bc27 => ?_) (fun bc27 => ?_)
       ·
        have c27 := bc27
        have c27 := eq_of_beq c27
        refine wp_seq ?_
        refine c_region ?_
        refine l_mv 1 S rfl ?_; clear S a; intro a S
        refine l_nil ?_
        refine e_then ?_
        refine wp_ret ?_
        refine e_in_ret ?_
        refine e_then_ret ?_
        exact r_ret1 S rfl rfl ⟨by simp [mw.line, c3, c7, c11, c15, c19, c23, c27], H⟩
       ·
        have c27 := bc27
        have c27 := ne_of_beq_false c27
        refine wp_skip ?_
        refine e_in 0 ?_
        refine e_then ?_
        refine wp_seq ?_
        refine c_region ?_
        refine l_mv 1 S rfl ?_; clear S a; intro a S
        refine l_nil ?_
        refine e_then ?_
        refine wp_ret ?_
        exact r_ret1 S rfl rfl ⟨by simp [mw.line, c3, c7, c11, c15, c19, c23, c27], H⟩
theorem blob_ (wb w0 : World) (B : Nat) (L0 : dc.Bk) (K : Int) (H : HH B wb w0 L0) : Calls Tryz.prog 10 #[.int .u8 K] w0 fun e w' => e = .returned (.bool (mw.blobK K)) ∧ HH B wb w' L0 := by
 refine c_enter (args := [.int .u8 K]) (k := 16) Tryz.func10 rfl rfl rfl (fun a S => ?_)
 refine wp_seq ?_
 refine c_region ?_
 refine l_mv 1 S rfl ?_; clear S a; intro a S
 refine l_nil ?_
 refine e_then ?_
 refine wp_seq ?_
 refine c_region ?_
 refine l_mv 1 S rfl ?_; clear S a; intro a S
 refine l_pure S (p_eql rfl rfl) rfl rfl rfl ?_; clear S a; intro a S
 refine l_mv 1 S rfl ?_; clear S a; intro a S
 refine l_split (S.of 5 rfl) (fun bc3 => ?_) (fun bc3 => ?_)
 ·
  have c3 := bc3
  have c3 := eq_of_beq c3
  refine l_off S rfl rfl rfl rfl bc3 rfl rfl ?_; clear S a; intro a S
  refine l_off S rfl rfl rfl rfl bc3 rfl rfl ?_; clear S a; intro a S
  refine l_pure S (p_pick_t rfl bc3 rfl) rfl rfl rfl ?_; clear S a; intro a S
  refine l_mv 1 S rfl ?_; clear S a; intro a S
  refine l_off S rfl rfl rfl rfl rfl rfl rfl ?_; clear S a; intro a S
  refine l_off S rfl rfl rfl rfl rfl rfl rfl ?_; clear S a; intro a S
  refine l_pure S (p_pick_t rfl rfl rfl) rfl rfl rfl ?_; clear S a; intro a S
  refine l_mv 1 S rfl ?_; clear S a; intro a S
  refine l_off S rfl rfl rfl rfl rfl rfl rfl ?_; clear S a; intro a S
  refine l_off S rfl rfl rfl rfl rfl rfl rfl ?_; clear S a; intro a S
  refine l_pure S (p_pick_t rfl rfl rfl) rfl rfl rfl ?_; clear S a; intro a S
  refine l_mv 1 S rfl ?_; clear S a; intro a S
  refine l_nil ?_
  refine e_then ?_
  refine wp_ret ?_
  exact r_ret1 S rfl rfl ⟨by simp [mw.blobK, c3], H⟩
 ·
  have c3 := bc3
  have c3 := ne_of_beq_false c3
  refine l_on S rfl rfl rfl rfl bc3 ?_
  refine l_pure S (p_move rfl) rfl rfl rfl ?_; clear S a; intro a S
  refine l_on S rfl rfl rfl rfl bc3 ?_
  refine l_pure S (p_eql rfl rfl) rfl rfl rfl ?_; clear S a; intro a S
  refine l_pure S (p_pick_f rfl bc3 rfl) rfl rfl rfl ?_; clear S a; intro a S
  refine l_mv 1 S rfl ?_; clear S a; intro a S
  refine l_split (S.of 9 rfl) (fun bc8 => ?_) (fun bc8 => ?_)
  ·
   have c8 := bc8
   have c8 := eq_of_beq c8
   refine l_off S rfl rfl rfl rfl bc8 rfl rfl ?_; clear S a; intro a S
   refine l_off S rfl rfl rfl rfl bc8 rfl rfl ?_; clear S a; intro a S
   refine l_pure S (p_pick_t rfl bc8 rfl) rfl rfl rfl ?_; clear S a; intro a S
   refine l_mv 1 S rfl ?_; clear S a; intro a S
   refine l_off S rfl rfl rfl rfl rfl rfl rfl ?_; clear S a; intro a S
   refine l_off S rfl rfl rfl rfl rfl rfl rfl ?_; clear S a; intro a S
   refine l_pure S (p_pick_t rfl rfl rfl) rfl rfl rfl ?_; clear S a; intro a S
   refine l_mv 1 S rfl ?_; clear S a; intro a S
   refine l_nil ?_
   refine e_then ?_
   refine wp_ret ?_
   exact r_ret1 S rfl rfl ⟨by simp [mw.blobK, c3, c8], H⟩
  ·
   have c8 := bc8
   have c8 := ne_of_beq_false c8
   refine l_on S rfl rfl rfl rfl bc8 ?_
   refine l_pure S (p_move rfl) rfl rfl rfl ?_; clear S a; intro a S
   refine l_on S rfl rfl rfl rfl bc8 ?_
   refine l_pure S (p_eql rfl rfl) rfl rfl rfl ?_; clear S a; intro a S
   refine l_pure S (p_pick_f rfl bc8 rfl) rfl rfl rfl ?_; clear S a; intro a S
   refine l_mv 1 S rfl ?_; clear S a; intro a S
   refine l_split (S.of 13 rfl) (fun bc12 => ?_) (fun bc12 => ?_)
   ·
    have c12 := bc12
    have c12 := eq_of_beq c12
    refine l_off S rfl rfl rfl rfl bc12 rfl rfl ?_; clear S a; intro a S
    refine l_off S rfl rfl rfl rfl bc12 rfl rfl ?_; clear S a; intro a S
    refine l_pure S (p_pick_t rfl bc12 rfl) rfl rfl rfl ?_; clear S a; intro a S
    refine l_mv 1 S rfl ?_; clear S a; intro a S
    refine l_nil ?_
    refine e_then ?_
    refine wp_ret ?_
    exact r_ret1 S rfl rfl ⟨by simp [mw.blobK, c3, c8, c12], H⟩
   ·
    have c12 := bc12
    have c12 := ne_of_beq_false c12
    refine l_on S rfl rfl rfl rfl bc12 ?_
    refine l_pure S (p_move rfl) rfl rfl rfl ?_; clear S a; intro a S
    refine l_on S rfl rfl rfl rfl bc12 ?_
    refine l_pure S (p_eql rfl rfl) rfl rfl rfl ?_; clear S a; intro a S
    refine l_pure S (p_pick_f rfl bc12 rfl) rfl rfl rfl ?_; clear S a; intro a S
    refine l_mv 1 S rfl ?_; clear S a; intro a S
    refine l_nil ?_
    refine e_then ?_
    refine wp_ret ?_
    exact r_ret1 S rfl rfl ⟨by simp [mw.blobK, c3, c8, c12], H⟩
theorem typ_ (wb w0 : World) (B : Nat) (L0 : dc.Bk) (K : Int) (H : HH B wb w0 L0) : Calls Tryz.prog 5 #[.int .i64 K] w0 fun e w' => ∃ r : Bool, e = .returned (.bool r) ∧ (r = true → mw.typed K) ∧ HH B wb w' L0 := by
 refine c_enter (args := [.int .i64 K]) (k := 35) Tryz.func5 rfl rfl rfl (fun a S => ?_)
 refine wp_seq ?_
 refine c_region ?_
 refine l_mv 1 S rfl ?_; clear S a; intro a S
 refine l_nil ?_
 refine e_then ?_
 refine wp_seq ?_
 refine wp_seq ?_
 refine c_region ?_
 refine l_mv 1 S rfl ?_; clear S a; intro a S
 refine l_pure S (p_lss rfl rfl) rfl rfl rfl ?_; clear S a; intro a S
 refine l_mv 1 S rfl ?_; clear S a; intro a S
 refine l_split (S.of 7 rfl) (fun bc3 => ?_) (fun bc3 => ?_)
 ·
  have c3 := bc3
  have c3 := of_decide_eq_true c3
  refine l_off S rfl rfl rfl rfl bc3 rfl rfl ?_; clear S a; intro a S
  refine l_off S rfl rfl rfl rfl bc3 rfl rfl ?_; clear S a; intro a S
  refine l_pure S (p_pick_t rfl bc3 rfl) rfl rfl rfl ?_; clear S a; intro a S
  refine l_mv 1 S rfl ?_; clear S a; intro a S
  refine l_off S rfl rfl rfl rfl rfl rfl rfl ?_; clear S a; intro a S
  refine l_off S rfl rfl rfl rfl rfl rfl rfl ?_; clear S a; intro a S
  refine l_pure S (p_pick_t rfl rfl rfl) rfl rfl rfl ?_; clear S a; intro a S
  refine l_nil ?_
  refine e_then ?_
  refine c_cond (b := true) S rfl (fun _ => ?_) (fun h => by cases h)
  refine wp_seq ?_
  refine c_region ?_
  refine l_mv 1 S rfl ?_; clear S a; intro a S
  refine l_nil ?_
  refine e_then ?_
  refine wp_ret ?_
  refine e_then_ret ?_
  refine r_ret1 S rfl rfl ⟨_, rfl, ?_, H⟩
  intro hr
  first | (cases hr; done) | exact mw.ty_many (by assumption) | exact mw.ty_line (by assumption) (by omega) | exact mw.ty_blob (by assumption) | (have := eq_of_beq hr; unfold mw.typed; omega)
 ·
  have c3 := bc3
  have c3 := of_decide_eq_false c3
  refine l_on S rfl rfl rfl rfl bc3 ?_
  refine l_pure S (p_move rfl) rfl rfl rfl ?_; clear S a; intro a S
  refine l_on S rfl rfl rfl rfl bc3 ?_
  refine l_pure S (p_gtr rfl rfl) rfl rfl rfl ?_; clear S a; intro a S
  refine l_pure S (p_pick_f rfl bc3 rfl) rfl rfl rfl ?_; clear S a; intro a S
  refine l_mv 1 S rfl ?_; clear S a; intro a S
  refine l_split (S.of 11 rfl) (fun bc9 => ?_) (fun bc9 => ?_)
  ·
   have c9 := bc9
   have c9 := of_decide_eq_true c9
   refine l_off S rfl rfl rfl rfl bc9 rfl rfl ?_; clear S a; intro a S
   refine l_off S rfl rfl rfl rfl bc9 rfl rfl ?_; clear S a; intro a S
   refine l_pure S (p_pick_t rfl bc9 rfl) rfl rfl rfl ?_; clear S a; intro a S
   refine l_nil ?_
   refine e_then ?_
   refine c_cond (b := true) S rfl (fun _ => ?_) (fun h => by cases h)
   refine wp_seq ?_
   refine c_region ?_
   refine l_mv 1 S rfl ?_; clear S a; intro a S
   refine l_nil ?_
   refine e_then ?_
   refine wp_ret ?_
   refine e_then_ret ?_
   refine r_ret1 S rfl rfl ⟨_, rfl, ?_, H⟩
   intro hr
   first | (cases hr; done) | exact mw.ty_many (by assumption) | exact mw.ty_line (by assumption) (by omega) | exact mw.ty_blob (by assumption) | (have := eq_of_beq hr; unfold mw.typed; omega)
  ·
   have c9 := bc9
   have c9 := of_decide_eq_false c9
   refine l_on S rfl rfl rfl rfl bc9 ?_
   refine l_pure S (p_move rfl) rfl rfl rfl ?_; clear S a; intro a S
   refine l_on S rfl rfl rfl rfl bc9 ?_
   refine l_pure S (p_eql rfl rfl) rfl rfl rfl ?_; clear S a; intro a S
   refine l_pure S (p_pick_f rfl bc9 rfl) rfl rfl rfl ?_; clear S a; intro a S
   refine l_nil ?_
   refine e_then ?_
   refine c_cond S rfl (fun bc14 => ?_) (fun bc14 => ?_)
   ·
    have c14 := bc14
    have c14 := eq_of_beq c14
    refine wp_seq ?_
    refine c_region ?_
    refine l_mv 1 S rfl ?_; clear S a; intro a S
    refine l_nil ?_
    refine e_then ?_
    refine wp_ret ?_
    refine e_then_ret ?_
    refine r_ret1 S rfl rfl ⟨_, rfl, ?_, H⟩
    intro hr
    first | (cases hr; done) | exact mw.ty_many (by assumption) | exact mw.ty_line (by assumption) (by omega) | exact mw.ty_blob (by assumption) | (have := eq_of_beq hr; unfold mw.typed; omega)
   ·
    have c14 := bc14
    have c14 := ne_of_beq_false c14
    refine wp_skip ?_
    refine e_then ?_
    refine wp_seq ?_
    refine c_region ?_
    refine l_mv 1 S rfl ?_; clear S a; intro a S
    refine l_pure S (p_conv rfl (fun w => cv_int Tryz.underlying3 Tryz.underlying5 (r := K) (by rw [IntKind.wrap_u8]; omega))) rfl rfl rfl ?_; clear S a; intro a S
    have hcon := many_ wb _ B _ K H
    refine l_call S rfl rfl Tryz.func8 rfl rfl (hcon) rfl rfl rfl ?_
    rintro e w ⟨n_, rfl, hH⟩
    refine ⟨_, rfl, ?_⟩; clear S a; intro a S
    clear H hcon; have H := hH; clear hH
    refine l_mv 5 S rfl ?_; clear S a; intro a S
    refine l_nil ?_
    refine e_then ?_
    refine wp_seq ?_
    refine c_region ?_
    refine l_mv 2 S rfl ?_; clear S a; intro a S
    refine l_split (S.of 22 rfl) (fun bc17 => ?_) (fun bc17 => ?_)
    ·
     refine l_off S rfl rfl rfl rfl bc17 rfl rfl ?_; clear S a; intro a S
     refine l_off S rfl rfl rfl rfl bc17 rfl rfl ?_; clear S a; intro a S
     refine l_off S rfl rfl rfl rfl bc17 rfl rfl ?_; clear S a; intro a S
     refine l_pure S (p_pick_t rfl bc17 rfl) rfl rfl rfl ?_; clear S a; intro a S
     refine l_mv 1 S rfl ?_; clear S a; intro a S
     refine l_off S rfl rfl rfl rfl rfl rfl rfl ?_; clear S a; intro a S
     refine l_off S rfl rfl rfl rfl rfl rfl rfl ?_; clear S a; intro a S
     refine l_off S rfl rfl rfl rfl rfl rfl rfl ?_; clear S a; intro a S
     refine l_pure S (p_pick_t rfl rfl rfl) rfl rfl rfl ?_; clear S a; intro a S
     refine l_mv 1 S rfl ?_; clear S a; intro a S
     refine l_off S rfl rfl rfl rfl rfl rfl rfl ?_; clear S a; intro a S
     refine l_off S rfl rfl rfl rfl rfl rfl rfl ?_; clear S a; intro a S
     refine l_pure S (p_pick_t rfl rfl rfl) rfl rfl rfl ?_; clear S a; intro a S
     refine l_mv 1 S rfl ?_; clear S a; intro a S
     refine l_nil ?_
     refine e_then ?_
     refine wp_ret ?_
     refine r_ret1 S rfl rfl ⟨_, rfl, ?_, H⟩
     intro hr
     first | (cases hr; done) | exact mw.ty_many (by assumption) | exact mw.ty_line (by assumption) (by omega) | exact mw.ty_blob (by assumption) | (have := eq_of_beq hr; unfold mw.typed; omega)
    ·
     refine l_on S rfl rfl rfl rfl bc17 ?_
     refine l_pure S (p_move rfl) rfl rfl rfl ?_; clear S a; intro a S
     refine l_on S rfl rfl rfl rfl bc17 ?_
     refine l_pure S (p_conv rfl (fun w => cv_int Tryz.underlying3 Tryz.underlying5 (r := K) (by rw [IntKind.wrap_u8]; omega))) rfl rfl rfl ?_; clear S a; intro a S
     refine l_on S rfl rfl rfl rfl bc17 ?_
     have hcon := line_ wb _ B _ K H
     refine l_call S rfl rfl Tryz.func9 rfl rfl (hcon) rfl rfl rfl ?_
     rintro e w ⟨rfl, hH⟩
     refine ⟨_, rfl, ?_⟩; clear S a; intro a S
     clear H hcon; have H := hH; clear hH
     refine l_pure S (p_pick_f rfl bc17 rfl) rfl rfl rfl ?_; clear S a; intro a S
     refine l_mv 1 S rfl ?_; clear S a; intro a S
     refine l_split (S.of 27 rfl) (fun bc22 => ?_) (fun bc22 => ?_)
     ·
      refine l_off S rfl rfl rfl rfl bc22 rfl rfl ?_; clear S a; intro a S
      refine l_off S rfl rfl rfl rfl bc22 rfl rfl ?_; clear S a; intro a S
      refine l_off S rfl rfl rfl rfl bc22 rfl rfl ?_; clear S a; intro a S
      refine l_pure S (p_pick_t rfl bc22 rfl) rfl rfl rfl ?_; clear S a; intro a S
      refine l_mv 1 S rfl ?_; clear S a; intro a S
      refine l_off S rfl rfl rfl rfl rfl rfl rfl ?_; clear S a; intro a S
      refine l_off S rfl rfl rfl rfl rfl rfl rfl ?_; clear S a; intro a S
      refine l_pure S (p_pick_t rfl rfl rfl) rfl rfl rfl ?_; clear S a; intro a S
      refine l_mv 1 S rfl ?_; clear S a; intro a S
      refine l_nil ?_
      refine e_then ?_
      refine wp_ret ?_
      refine r_ret1 S rfl rfl ⟨_, rfl, ?_, H⟩
      intro hr
      first | (cases hr; done) | exact mw.ty_many (by assumption) | exact mw.ty_line (by assumption) (by omega) | exact mw.ty_blob (by assumption) | (have := eq_of_beq hr; unfold mw.typed; omega)
     ·
      refine l_on S rfl rfl rfl rfl bc22 ?_
      refine l_pure S (p_move rfl) rfl rfl rfl ?_; clear S a; intro a S
      refine l_on S rfl rfl rfl rfl bc22 ?_
      refine l_pure S (p_conv rfl (fun w => cv_int Tryz.underlying3 Tryz.underlying5 (r := K) (by rw [IntKind.wrap_u8]; omega))) rfl rfl rfl ?_; clear S a; intro a S
      refine l_on S rfl rfl rfl rfl bc22 ?_
      have hcon := blob_ wb _ B _ K H
      refine l_call S rfl rfl Tryz.func10 rfl rfl (hcon) rfl rfl rfl ?_
      rintro e w ⟨rfl, hH⟩
      refine ⟨_, rfl, ?_⟩; clear S a; intro a S
      clear H hcon; have H := hH; clear hH
      refine l_pure S (p_pick_f rfl bc22 rfl) rfl rfl rfl ?_; clear S a; intro a S
      refine l_mv 1 S rfl ?_; clear S a; intro a S
      refine l_split (S.of 32 rfl) (fun bc26 => ?_) (fun bc26 => ?_)
      ·
       refine l_off S rfl rfl rfl rfl bc26 rfl rfl ?_; clear S a; intro a S
       refine l_off S rfl rfl rfl rfl bc26 rfl rfl ?_; clear S a; intro a S
       refine l_pure S (p_pick_t rfl bc26 rfl) rfl rfl rfl ?_; clear S a; intro a S
       refine l_mv 1 S rfl ?_; clear S a; intro a S
       refine l_nil ?_
       refine e_then ?_
       refine wp_ret ?_
       refine r_ret1 S rfl rfl ⟨_, rfl, ?_, H⟩
       intro hr
       first | (cases hr; done) | exact mw.ty_many (by assumption) | exact mw.ty_line (by assumption) (by omega) | exact mw.ty_blob (by assumption) | (have := eq_of_beq hr; unfold mw.typed; omega)
      ·
       refine l_on S rfl rfl rfl rfl bc26 ?_
       refine l_pure S (p_move rfl) rfl rfl rfl ?_; clear S a; intro a S
       refine l_on S rfl rfl rfl rfl bc26 ?_
       refine l_pure S (p_eql rfl rfl) rfl rfl rfl ?_; clear S a; intro a S
       refine l_pure S (p_pick_f rfl bc26 rfl) rfl rfl rfl ?_; clear S a; intro a S
       refine l_mv 1 S rfl ?_; clear S a; intro a S
       refine l_nil ?_
       refine e_then ?_
       refine wp_ret ?_
       refine r_ret1 S rfl rfl ⟨_, rfl, ?_, H⟩
       intro hr
       first | (cases hr; done) | exact mw.ty_many (by assumption) | exact mw.ty_line (by assumption) (by omega) | exact mw.ty_blob (by assumption) | (have := eq_of_beq hr; unfold mw.typed; omega)
theorem fits_ (wb w0 : World) (B : Nat) (L0 : dc.Bk) (K : Int) (sv : ByteArray) (nv : Int) (dv : Nat) (Bo : Bool) (Fm : ByteArray) (Num : Int) (St : Bool) (H : HH B wb w0 L0) : Calls Tryz.prog 4 #[.agg #[.int .i64 K, .string sv, .int .i64 nv, .float .f64 dv, .bool Bo, .string Fm, .int .i64 Num, .bool St]] w0 fun e w' => ∃ r : Bool, e = .returned (.bool r) ∧ HH B wb w' L0 := by
 refine c_enter (args := [.agg #[.int .i64 K, .string sv, .int .i64 nv, .float .f64 dv, .bool Bo, .string Fm, .int .i64 Num, .bool St]]) (k := 10) Tryz.func4 rfl rfl rfl (fun a S => ?_)
 refine wp_seq ?_
 refine c_region ?_
 refine l_box (cs := #[.int .i64 K, .string sv, .int .i64 nv, .float .f64 dv, .bool Bo, .string Fm, .int .i64 Num, .bool St]) S H rfl rfl (fun w => bx) rfl rfl rfl ?_; clear S a H; intro g1 w a H S
 refine l_mv 1 S rfl ?_; clear S a; intro a S
 refine l_nil ?_
 refine e_then ?_
 refine wp_seq ?_
 refine wp_seq ?_
 refine c_region ?_
 refine l_pure S (p_fieldAddr rfl (fun w => fa24_1 w _ _)) rfl rfl rfl ?_; clear S a; intro a S
 refine l_read S H (r_load rfl List.mem_cons_self rfl (fun w hc => ld1 ag9 hc)) rfl rfl rfl ?_; clear S a; intro a S
 refine l_pure S (p_lens Tryz.underlying9 rfl) rfl rfl rfl ?_; clear S a; intro a S
 refine l_pure S (p_gtr rfl rfl) rfl rfl rfl ?_; clear S a; intro a S
 refine l_nil ?_
 refine e_then ?_
 refine c_cond S rfl (fun bc4 => ?_) (fun bc4 => ?_)
 ·
  have c4 := bc4
  have c4 := of_decide_eq_true c4
  refine wp_seq ?_
  refine c_region ?_
  refine l_mv 1 S rfl ?_; clear S a; intro a S
  refine l_nil ?_
  refine e_then ?_
  refine wp_ret ?_
  refine e_then_ret ?_
  exact r_ret1 S rfl rfl ⟨_, rfl, H.tail⟩
 ·
  have c4 := bc4
  have c4 := of_decide_eq_false c4
  refine wp_skip ?_
  refine e_then ?_
  refine wp_seq ?_
  refine wp_seq ?_
  refine c_region ?_
  refine l_pure S (p_fieldAddr rfl (fun w => fa24_5 w _ _)) rfl rfl rfl ?_; clear S a; intro a S
  refine l_read S H (r_load rfl List.mem_cons_self rfl (fun w hc => ld1 ag9 hc)) rfl rfl rfl ?_; clear S a; intro a S
  refine l_pure S (p_lens Tryz.underlying9 rfl) rfl rfl rfl ?_; clear S a; intro a S
  refine l_pure S (p_gtr rfl rfl) rfl rfl rfl ?_; clear S a; intro a S
  refine l_nil ?_
  refine e_then ?_
  refine c_cond S rfl (fun bc7 => ?_) (fun bc7 => ?_)
  ·
   have c7 := bc7
   have c7 := of_decide_eq_true c7
   refine wp_seq ?_
   refine c_region ?_
   refine l_mv 1 S rfl ?_; clear S a; intro a S
   refine l_nil ?_
   refine e_then ?_
   refine wp_ret ?_
   refine e_then_ret ?_
   exact r_ret1 S rfl rfl ⟨_, rfl, H.tail⟩
  ·
   have c7 := bc7
   have c7 := of_decide_eq_false c7
   refine wp_skip ?_
   refine e_then ?_
   refine wp_seq ?_
   refine c_region ?_
   refine l_mv 1 S rfl ?_; clear S a; intro a S
   refine l_nil ?_
   refine e_then ?_
   refine wp_ret ?_
   exact r_ret1 S rfl rfl ⟨_, rfl, H.tail⟩
set_option maxHeartbeats 1000000 in
theorem only_ (wb w0 : World) (B : Nat) (L0 : dc.Bk) (K : Int) (sv : ByteArray) (nv : Int) (dv : Nat) (Bo : Bool) (Fm : ByteArray) (Num : Int) (St : Bool) (hK : mw.typed K) (H : HH B wb w0 L0) : Calls Tryz.prog 16 #[.agg #[.int .i64 K, .string sv, .int .i64 nv, .float .f64 dv, .bool Bo, .string Fm, .int .i64 Num, .bool St]] w0 fun e w' => e = .returned (.agg #[.int .i64 K, .string (mw.oS K sv St), .int .i64 (mw.oN K nv), .float .f64 (mw.oF K dv), .bool (mw.oB K Bo), .string (mw.oM K Fm), .int .i64 (mw.oU K Num St), .bool (mw.oT K St)]) ∧ HH B wb w' L0 := by
 refine c_enter (args := [.agg #[.int .i64 K, .string sv, .int .i64 nv, .float .f64 dv, .bool Bo, .string Fm, .int .i64 Num, .bool St]]) (k := 70) Tryz.func16 rfl rfl rfl (fun a S => ?_)
 refine wp_seq ?_
 refine c_region ?_
 refine l_box (cs := #[.int .i64 K, .string sv, .int .i64 nv, .float .f64 dv, .bool Bo, .string Fm, .int .i64 Num, .bool St]) S H rfl rfl (fun w => bx) rfl rfl rfl ?_; clear S a H; intro g1 w a H S
 refine l_alloc (cs := #[.int .i64 0, .string ⟨#[]⟩, .int .i64 0, .float .f64 0, .bool false, .string ⟨#[]⟩, .int .i64 0, .bool false]) S H rfl (fun w => al zv24) rfl rfl rfl ?_; clear S a H; intro g2 w a H S
 refine l_nil ?_
 refine e_then ?_
 refine wp_seq ?_
 refine c_region ?_
 refine l_pure S (p_fieldAddr rfl (fun w => fa24_0 w _ _)) rfl rfl rfl ?_; clear S a; intro a S
 refine l_read S H (r_load rfl (List.mem_cons_of_mem _ List.mem_cons_self) rfl (fun w hc => ld1 ag3 hc)) rfl rfl rfl ?_; clear S a; intro a S
 refine l_pure S (p_bld (ps := [(0, .tmp 5)]) rfl (bld24_0 _)) rfl rfl rfl ?_; clear S a; intro a S
 refine l_alloc (cs := #[.int .i64 0, .string ⟨#[]⟩, .int .i64 0, .float .f64 0, .bool false, .string ⟨#[]⟩, .int .i64 0, .bool false]) S H rfl (fun w => al zv24) rfl rfl rfl ?_; clear S a H; intro g3 w a H S
 refine l_storeAll (vs := [.int .i64 K, .string ⟨#[]⟩, .int .i64 0, .float .f64 0, .bool false, .string ⟨#[]⟩, .int .i64 0, .bool false]) S H rfl rfl rfl sz24 .here rfl (fun v hv => by simp only [List.mem_cons, List.not_mem_nil, or_false] at hv; rcases hv with rfl | rfl | rfl | rfl | rfl | rfl | rfl | rfl <;> rfl) rfl rfl ?_; clear S a H; intro w a H S
 refine l_nil ?_
 refine e_then ?_
 refine wp_seq ?_
 refine wp_seq ?_
 refine c_region ?_
 refine l_pure S (p_fieldAddr rfl (fun w => fa24_0 w _ _)) rfl rfl rfl ?_; clear S a; intro a S
 refine l_read S H (r_load rfl (List.mem_cons_of_mem _ (List.mem_cons_of_mem _ List.mem_cons_self)) rfl (fun w hc => ld1 ag3 hc)) rfl rfl rfl ?_; clear S a; intro a S
 refine l_nil ?_
 refine e_then ?_
 refine wp_block ?_
 refine wp_seq ?_
 refine wp_seq ?_
 refine c_region ?_
 refine l_pure S (p_eql rfl rfl) rfl rfl rfl ?_; clear S a; intro a S
 refine l_mv 1 S rfl ?_; clear S a; intro a S
 refine l_nil ?_
 refine e_then ?_
 refine c_cond S rfl (fun bc5 => ?_) (fun bc5 => ?_)
 ·
  have c5 := bc5
  have c5 := eq_of_beq c5
  refine wp_skip ?_
  refine e_then ?_
  refine c_cond S rfl (fun _ => ?_) (fun h => by rw [bc5] at h; cases h)
  refine c_region ?_
  refine l_pure S (p_fieldAddr rfl (fun w => fa24_1 w _ _)) rfl rfl rfl ?_; clear S a; intro a S
  refine l_read S H (r_load rfl (List.mem_cons_of_mem _ (List.mem_cons_of_mem _ List.mem_cons_self)) rfl (fun w hc => ld1 ag9 hc)) rfl rfl rfl ?_; clear S a; intro a S
  refine l_pure S (p_fieldAddr rfl (fun w => fa24_1 w _ _)) rfl rfl rfl ?_; clear S a; intro a S
  refine l_store S H rfl rfl rfl .here (by first | decide | simp [Value.cells]) (fun w u hc hz => st1 sz9 rfl hc hz) rfl rfl ?_; clear S a H; intro w a H S
  refine l_nil ?_
  refine e_in 0 ?_
  refine e_then ?_
  refine wp_seq ?_
  refine c_region ?_
  refine l_read S H (r_loadn (m := 8) (vs := [.int .i64 K, .string sv, .int .i64 0, .float .f64 0, .bool false, .string ⟨#[]⟩, .int .i64 0, .bool false]) rfl List.mem_cons_self ag24 sz24 rfl rfl) rfl rfl rfl ?_; clear S a; intro a S
  refine l_storeAll (vs := [.int .i64 K, .string sv, .int .i64 0, .float .f64 0, .bool false, .string ⟨#[]⟩, .int .i64 0, .bool false]) S H rfl rfl rfl sz24 (.there .here) rfl (fun v hv => by simp only [List.mem_cons, List.not_mem_nil, or_false] at hv; rcases hv with rfl | rfl | rfl | rfl | rfl | rfl | rfl | rfl <;> rfl) rfl rfl ?_; clear S a H; intro w a H S
  refine l_nil ?_
  refine e_then ?_
  refine wp_ret ?_
  have eO : (.agg #[.int .i64 K, .string (mw.oS K sv St), .int .i64 (mw.oN K nv), .float .f64 (mw.oF K dv), .bool (mw.oB K Bo), .string (mw.oM K Fm), .int .i64 (mw.oU K Num St), .bool (mw.oT K St)] : Value) = .agg #[.int .i64 K, .string sv, .int .i64 0, .float .f64 0, .bool false, .string ⟨#[]⟩, .int .i64 0, .bool false] := by simp [mw.oS, mw.oN, mw.oF, mw.oB, mw.oM, mw.oU, mw.oT, c5]
  rw [eO]
  exact r_retc1 S rfl rfl (lva (cs := [.int .i64 K, .string sv, .int .i64 0, .float .f64 0, .bool false, .string ⟨#[]⟩, .int .i64 0, .bool false]) ag24 sz24 rfl H (List.mem_cons_of_mem _ List.mem_cons_self)) ⟨rfl, H.tail.tail.tail⟩
 ·
  have c5 := bc5
  have c5 := ne_of_beq_false c5
  refine wp_seq ?_
  refine c_region ?_
  refine l_pure S (p_eql rfl rfl) rfl rfl rfl ?_; clear S a; intro a S
  refine l_mv 1 S rfl ?_; clear S a; intro a S
  refine l_nil ?_
  refine e_then ?_
  refine c_cond S rfl (fun bc8 => ?_) (fun bc8 => ?_)
  ·
   have c8 := bc8
   have c8 := eq_of_beq c8
   refine wp_skip ?_
   refine e_then ?_
   refine c_cond S rfl (fun _ => ?_) (fun h => by rw [bc8] at h; cases h)
   refine c_region ?_
   refine l_pure S (p_fieldAddr rfl (fun w => fa24_1 w _ _)) rfl rfl rfl ?_; clear S a; intro a S
   refine l_read S H (r_load rfl (List.mem_cons_of_mem _ (List.mem_cons_of_mem _ List.mem_cons_self)) rfl (fun w hc => ld1 ag9 hc)) rfl rfl rfl ?_; clear S a; intro a S
   refine l_pure S (p_fieldAddr rfl (fun w => fa24_1 w _ _)) rfl rfl rfl ?_; clear S a; intro a S
   refine l_store S H rfl rfl rfl .here (by first | decide | simp [Value.cells]) (fun w u hc hz => st1 sz9 rfl hc hz) rfl rfl ?_; clear S a H; intro w a H S
   refine l_nil ?_
   refine e_in 0 ?_
   refine e_then ?_
   refine wp_seq ?_
   refine c_region ?_
   refine l_read S H (r_loadn (m := 8) (vs := [.int .i64 K, .string sv, .int .i64 0, .float .f64 0, .bool false, .string ⟨#[]⟩, .int .i64 0, .bool false]) rfl List.mem_cons_self ag24 sz24 rfl rfl) rfl rfl rfl ?_; clear S a; intro a S
   refine l_storeAll (vs := [.int .i64 K, .string sv, .int .i64 0, .float .f64 0, .bool false, .string ⟨#[]⟩, .int .i64 0, .bool false]) S H rfl rfl rfl sz24 (.there .here) rfl (fun v hv => by simp only [List.mem_cons, List.not_mem_nil, or_false] at hv; rcases hv with rfl | rfl | rfl | rfl | rfl | rfl | rfl | rfl <;> rfl) rfl rfl ?_; clear S a H; intro w a H S
   refine l_nil ?_
   refine e_then ?_
   refine wp_ret ?_
   have eO : (.agg #[.int .i64 K, .string (mw.oS K sv St), .int .i64 (mw.oN K nv), .float .f64 (mw.oF K dv), .bool (mw.oB K Bo), .string (mw.oM K Fm), .int .i64 (mw.oU K Num St), .bool (mw.oT K St)] : Value) = .agg #[.int .i64 K, .string sv, .int .i64 0, .float .f64 0, .bool false, .string ⟨#[]⟩, .int .i64 0, .bool false] := by simp [mw.oS, mw.oN, mw.oF, mw.oB, mw.oM, mw.oU, mw.oT, c5, c8]
   rw [eO]
   exact r_retc1 S rfl rfl (lva (cs := [.int .i64 K, .string sv, .int .i64 0, .float .f64 0, .bool false, .string ⟨#[]⟩, .int .i64 0, .bool false]) ag24 sz24 rfl H (List.mem_cons_of_mem _ List.mem_cons_self)) ⟨rfl, H.tail.tail.tail⟩
  ·
   have c8 := bc8
   have c8 := ne_of_beq_false c8
   refine wp_seq ?_
   refine c_region ?_
   refine l_pure S (p_eql rfl rfl) rfl rfl rfl ?_; clear S a; intro a S
   refine l_mv 1 S rfl ?_; clear S a; intro a S
   refine l_nil ?_
   refine e_then ?_
   refine c_cond S rfl (fun bc11 => ?_) (fun bc11 => ?_)
   ·
    have c11 := bc11
    have c11 := eq_of_beq c11
    refine wp_skip ?_
    refine e_then ?_
    refine c_cond S rfl (fun _ => ?_) (fun h => by rw [bc11] at h; cases h)
    refine c_region ?_
    refine l_pure S (p_fieldAddr rfl (fun w => fa24_1 w _ _)) rfl rfl rfl ?_; clear S a; intro a S
    refine l_read S H (r_load rfl (List.mem_cons_of_mem _ (List.mem_cons_of_mem _ List.mem_cons_self)) rfl (fun w hc => ld1 ag9 hc)) rfl rfl rfl ?_; clear S a; intro a S
    refine l_pure S (p_fieldAddr rfl (fun w => fa24_1 w _ _)) rfl rfl rfl ?_; clear S a; intro a S
    refine l_store S H rfl rfl rfl .here (by first | decide | simp [Value.cells]) (fun w u hc hz => st1 sz9 rfl hc hz) rfl rfl ?_; clear S a H; intro w a H S
    refine l_nil ?_
    refine e_in 0 ?_
    refine e_then ?_
    refine wp_seq ?_
    refine c_region ?_
    refine l_read S H (r_loadn (m := 8) (vs := [.int .i64 K, .string sv, .int .i64 0, .float .f64 0, .bool false, .string ⟨#[]⟩, .int .i64 0, .bool false]) rfl List.mem_cons_self ag24 sz24 rfl rfl) rfl rfl rfl ?_; clear S a; intro a S
    refine l_storeAll (vs := [.int .i64 K, .string sv, .int .i64 0, .float .f64 0, .bool false, .string ⟨#[]⟩, .int .i64 0, .bool false]) S H rfl rfl rfl sz24 (.there .here) rfl (fun v hv => by simp only [List.mem_cons, List.not_mem_nil, or_false] at hv; rcases hv with rfl | rfl | rfl | rfl | rfl | rfl | rfl | rfl <;> rfl) rfl rfl ?_; clear S a H; intro w a H S
    refine l_nil ?_
    refine e_then ?_
    refine wp_ret ?_
    have eO : (.agg #[.int .i64 K, .string (mw.oS K sv St), .int .i64 (mw.oN K nv), .float .f64 (mw.oF K dv), .bool (mw.oB K Bo), .string (mw.oM K Fm), .int .i64 (mw.oU K Num St), .bool (mw.oT K St)] : Value) = .agg #[.int .i64 K, .string sv, .int .i64 0, .float .f64 0, .bool false, .string ⟨#[]⟩, .int .i64 0, .bool false] := by simp [mw.oS, mw.oN, mw.oF, mw.oB, mw.oM, mw.oU, mw.oT, c5, c8, c11]
    rw [eO]
    exact r_retc1 S rfl rfl (lva (cs := [.int .i64 K, .string sv, .int .i64 0, .float .f64 0, .bool false, .string ⟨#[]⟩, .int .i64 0, .bool false]) ag24 sz24 rfl H (List.mem_cons_of_mem _ List.mem_cons_self)) ⟨rfl, H.tail.tail.tail⟩
   ·
    have c11 := bc11
    have c11 := ne_of_beq_false c11
    refine c_region ?_
    refine l_pure S (p_eql rfl rfl) rfl rfl rfl ?_; clear S a; intro a S
    refine l_mv 1 S rfl ?_; clear S a; intro a S
    refine l_nil ?_
    refine e_then ?_
    refine c_cond S rfl (fun bc14 => ?_) (fun bc14 => ?_)
    ·
     have c14 := bc14
     have c14 := eq_of_beq c14
     refine c_region ?_
     refine l_pure S (p_fieldAddr rfl (fun w => fa24_1 w _ _)) rfl rfl rfl ?_; clear S a; intro a S
     refine l_read S H (r_load rfl (List.mem_cons_of_mem _ (List.mem_cons_of_mem _ List.mem_cons_self)) rfl (fun w hc => ld1 ag9 hc)) rfl rfl rfl ?_; clear S a; intro a S
     refine l_pure S (p_fieldAddr rfl (fun w => fa24_1 w _ _)) rfl rfl rfl ?_; clear S a; intro a S
     refine l_store S H rfl rfl rfl .here (by first | decide | simp [Value.cells]) (fun w u hc hz => st1 sz9 rfl hc hz) rfl rfl ?_; clear S a H; intro w a H S
     refine l_nil ?_
     refine e_in 0 ?_
     refine e_then ?_
     refine wp_seq ?_
     refine c_region ?_
     refine l_read S H (r_loadn (m := 8) (vs := [.int .i64 K, .string sv, .int .i64 0, .float .f64 0, .bool false, .string ⟨#[]⟩, .int .i64 0, .bool false]) rfl List.mem_cons_self ag24 sz24 rfl rfl) rfl rfl rfl ?_; clear S a; intro a S
     refine l_storeAll (vs := [.int .i64 K, .string sv, .int .i64 0, .float .f64 0, .bool false, .string ⟨#[]⟩, .int .i64 0, .bool false]) S H rfl rfl rfl sz24 (.there .here) rfl (fun v hv => by simp only [List.mem_cons, List.not_mem_nil, or_false] at hv; rcases hv with rfl | rfl | rfl | rfl | rfl | rfl | rfl | rfl <;> rfl) rfl rfl ?_; clear S a H; intro w a H S
     refine l_nil ?_
     refine e_then ?_
     refine wp_ret ?_
     have eO : (.agg #[.int .i64 K, .string (mw.oS K sv St), .int .i64 (mw.oN K nv), .float .f64 (mw.oF K dv), .bool (mw.oB K Bo), .string (mw.oM K Fm), .int .i64 (mw.oU K Num St), .bool (mw.oT K St)] : Value) = .agg #[.int .i64 K, .string sv, .int .i64 0, .float .f64 0, .bool false, .string ⟨#[]⟩, .int .i64 0, .bool false] := by simp [mw.oS, mw.oN, mw.oF, mw.oB, mw.oM, mw.oU, mw.oT, c5, c8, c11, c14]
     rw [eO]
     exact r_retc1 S rfl rfl (lva (cs := [.int .i64 K, .string sv, .int .i64 0, .float .f64 0, .bool false, .string ⟨#[]⟩, .int .i64 0, .bool false]) ag24 sz24 rfl H (List.mem_cons_of_mem _ List.mem_cons_self)) ⟨rfl, H.tail.tail.tail⟩
    ·
     have c14 := bc14
     have c14 := ne_of_beq_false c14
     refine wp_seq ?_
     refine c_region ?_
     refine l_pure S (p_eql rfl rfl) rfl rfl rfl ?_; clear S a; intro a S
     refine l_mv 1 S rfl ?_; clear S a; intro a S
     refine l_nil ?_
     refine e_then ?_
     refine c_cond S rfl (fun bc16 => ?_) (fun bc16 => ?_)
     ·
      have c16 := bc16
      have c16 := eq_of_beq c16
      refine wp_seq ?_
      refine c_region ?_
      refine l_pure S (p_fieldAddr rfl (fun w => fa24_7 w _ _)) rfl rfl rfl ?_; clear S a; intro a S
      refine l_read S H (r_load rfl (List.mem_cons_of_mem _ (List.mem_cons_of_mem _ List.mem_cons_self)) rfl (fun w hc => ld1 ag4 hc)) rfl rfl rfl ?_; clear S a; intro a S
      refine l_pure S (p_fieldAddr rfl (fun w => fa24_7 w _ _)) rfl rfl rfl ?_; clear S a; intro a S
      refine l_store S H rfl rfl rfl .here (by first | decide | simp [Value.cells]) (fun w u hc hz => st1 sz4 rfl hc hz) rfl rfl ?_; clear S a H; intro w a H S
      refine l_nil ?_
      refine e_then ?_
      refine wp_seq ?_
      refine c_region ?_
      refine l_pure S (p_fieldAddr rfl (fun w => fa24_7 w _ _)) rfl rfl rfl ?_; clear S a; intro a S
      refine l_read S H (r_load rfl (List.mem_cons_of_mem _ (List.mem_cons_of_mem _ List.mem_cons_self)) rfl (fun w hc => ld1 ag4 hc)) rfl rfl rfl ?_; clear S a; intro a S
      refine l_pure S (p_not rfl) rfl rfl rfl ?_; clear S a; intro a S
      refine l_nil ?_
      refine e_then ?_
      refine c_cond S rfl (fun bc20 => ?_) (fun bc20 => ?_)
      ·
       have c20 := bc20
       replace c20 := not_eq_true_ c20
       refine c_region ?_
       refine l_pure S (p_fieldAddr rfl (fun w => fa24_1 w _ _)) rfl rfl rfl ?_; clear S a; intro a S
       refine l_read S H (r_load rfl (List.mem_cons_of_mem _ (List.mem_cons_of_mem _ List.mem_cons_self)) rfl (fun w hc => ld1 ag9 hc)) rfl rfl rfl ?_; clear S a; intro a S
       refine l_pure S (p_fieldAddr rfl (fun w => fa24_1 w _ _)) rfl rfl rfl ?_; clear S a; intro a S
       refine l_store S H rfl rfl rfl .here (by first | decide | simp [Value.cells]) (fun w u hc hz => st1 sz9 rfl hc hz) rfl rfl ?_; clear S a H; intro w a H S
       refine l_nil ?_
       refine e_in 0 ?_
       refine e_then ?_
       refine wp_seq ?_
       refine c_region ?_
       refine l_read S H (r_loadn (m := 8) (vs := [.int .i64 K, .string sv, .int .i64 0, .float .f64 0, .bool false, .string ⟨#[]⟩, .int .i64 0, .bool St]) rfl List.mem_cons_self ag24 sz24 rfl rfl) rfl rfl rfl ?_; clear S a; intro a S
       refine l_storeAll (vs := [.int .i64 K, .string sv, .int .i64 0, .float .f64 0, .bool false, .string ⟨#[]⟩, .int .i64 0, .bool St]) S H rfl rfl rfl sz24 (.there .here) rfl (fun v hv => by simp only [List.mem_cons, List.not_mem_nil, or_false] at hv; rcases hv with rfl | rfl | rfl | rfl | rfl | rfl | rfl | rfl <;> rfl) rfl rfl ?_; clear S a H; intro w a H S
       refine l_nil ?_
       refine e_then ?_
       refine wp_ret ?_
       have eO : (.agg #[.int .i64 K, .string (mw.oS K sv St), .int .i64 (mw.oN K nv), .float .f64 (mw.oF K dv), .bool (mw.oB K Bo), .string (mw.oM K Fm), .int .i64 (mw.oU K Num St), .bool (mw.oT K St)] : Value) = .agg #[.int .i64 K, .string sv, .int .i64 0, .float .f64 0, .bool false, .string ⟨#[]⟩, .int .i64 0, .bool St] := by simp [mw.oS, mw.oN, mw.oF, mw.oB, mw.oM, mw.oU, mw.oT, c5, c8, c11, c14, c16, c20]
       rw [eO]
       exact r_retc1 S rfl rfl (lva (cs := [.int .i64 K, .string sv, .int .i64 0, .float .f64 0, .bool false, .string ⟨#[]⟩, .int .i64 0, .bool St]) ag24 sz24 rfl H (List.mem_cons_of_mem _ List.mem_cons_self)) ⟨rfl, H.tail.tail.tail⟩
      ·
       have c20 := bc20
       replace c20 := not_eq_false_ c20
       refine wp_skip ?_
       refine e_in 0 ?_
       refine e_then ?_
       refine wp_seq ?_
       refine c_region ?_
       refine l_read S H (r_loadn (m := 8) (vs := [.int .i64 K, .string ⟨#[]⟩, .int .i64 0, .float .f64 0, .bool false, .string ⟨#[]⟩, .int .i64 0, .bool St]) rfl List.mem_cons_self ag24 sz24 rfl rfl) rfl rfl rfl ?_; clear S a; intro a S
       refine l_storeAll (vs := [.int .i64 K, .string ⟨#[]⟩, .int .i64 0, .float .f64 0, .bool false, .string ⟨#[]⟩, .int .i64 0, .bool St]) S H rfl rfl rfl sz24 (.there .here) rfl (fun v hv => by simp only [List.mem_cons, List.not_mem_nil, or_false] at hv; rcases hv with rfl | rfl | rfl | rfl | rfl | rfl | rfl | rfl <;> rfl) rfl rfl ?_; clear S a H; intro w a H S
       refine l_nil ?_
       refine e_then ?_
       refine wp_ret ?_
       have eO : (.agg #[.int .i64 K, .string (mw.oS K sv St), .int .i64 (mw.oN K nv), .float .f64 (mw.oF K dv), .bool (mw.oB K Bo), .string (mw.oM K Fm), .int .i64 (mw.oU K Num St), .bool (mw.oT K St)] : Value) = .agg #[.int .i64 K, .string ⟨#[]⟩, .int .i64 0, .float .f64 0, .bool false, .string ⟨#[]⟩, .int .i64 0, .bool St] := by simp [mw.oS, mw.oN, mw.oF, mw.oB, mw.oM, mw.oU, mw.oT, c5, c8, c11, c14, c16, c20]
       rw [eO]
       exact r_retc1 S rfl rfl (lva (cs := [.int .i64 K, .string ⟨#[]⟩, .int .i64 0, .float .f64 0, .bool false, .string ⟨#[]⟩, .int .i64 0, .bool St]) ag24 sz24 rfl H (List.mem_cons_of_mem _ List.mem_cons_self)) ⟨rfl, H.tail.tail.tail⟩
     ·
      have c16 := bc16
      have c16 := ne_of_beq_false c16
      refine wp_seq ?_
      refine c_region ?_
      refine l_pure S (p_eql rfl rfl) rfl rfl rfl ?_; clear S a; intro a S
      refine l_mv 1 S rfl ?_; clear S a; intro a S
      refine l_nil ?_
      refine e_then ?_
      refine c_cond S rfl (fun bc22 => ?_) (fun bc22 => ?_)
      ·
       have c22 := bc22
       have c22 := eq_of_beq c22
       refine d_startW (id := 13) (Lr := ((g2, .cells #[.int .i64 0, .string ⟨#[]⟩, .int .i64 0, .float .f64 0, .bool false, .string ⟨#[]⟩, .int .i64 0, .bool false] 24 (0, 0)) :: ((g1, .cells #[.int .i64 K, .string sv, .int .i64 nv, .float .f64 dv, .bool Bo, .string Fm, .int .i64 Num, .bool St] 24 (0, 0)) :: L0))) [] 8 #[false, false, false, false, false, false, false, false] H (fun _ H => H.tail) rfl rfl rfl (fun w H => ?_)
       refine d_pure (i := 0) #[true, false, false, false, false, false, false, false] S rfl (p_fieldAddr rfl (fun w => fa24_1 w _ _)) (wanted_none rfl) rfl rfl (by kernel_rfl) (fun _ _ _ h => h) ?_; clear S a; intro a S
       refine d_read (i := 1) #[true, true, false, false, false, false, false, false] S H.tail rfl (r_load rfl (List.mem_cons_of_mem _ List.mem_cons_self) rfl (fun w hc => ld1 ag9 hc)) (wanted_none rfl) rfl rfl (by kernel_rfl) (fun _ _ _ h => h) ?_; clear S a; intro a S
       refine d_pure (i := 2) #[true, true, true, false, false, false, false, false] S rfl (p_fieldAddr rfl (fun w => fa24_5 w _ _)) (wanted_none rfl) rfl rfl (by kernel_rfl) (fun _ _ _ h => h) ?_; clear S a; intro a S
       refine d_read (i := 3) #[true, true, true, true, false, false, false, false] S H.tail rfl (r_load rfl (List.mem_cons_of_mem _ List.mem_cons_self) rfl (fun w hc => ld1 ag9 hc)) (wanted_none rfl) rfl rfl (by kernel_rfl) (fun _ _ _ h => h) ?_; clear S a; intro a S
       refine d_pure (i := 4) #[true, true, true, true, true, false, false, false] S rfl (p_fieldAddr rfl (fun w => fa24_1 w _ _)) (wanted_none rfl) rfl rfl (by kernel_rfl) (fun _ _ _ h => h) ?_; clear S a; intro a S
       refine d_storeN (i := 5) #[true, true, true, true, true, true, false, false] S H rfl rfl rfl rfl .here (by first | decide | simp [Value.cells]) (fun w u hc hz => st1 sz9 rfl hc hz) (fun _ H => H.tail) (wanted_none rfl) rfl (by kernel_rfl) rfl ?_; clear S a H; intro w a H S
       refine d_pure (i := 6) #[true, true, true, true, true, true, true, false] S rfl (p_fieldAddr rfl (fun w => fa24_5 w _ _)) (wanted_none rfl) rfl rfl (by kernel_rfl) (fun _ _ _ h => h) ?_; clear S a; intro a S
       refine d_storeN (i := 7) #[true, true, true, true, true, true, true, true] S H rfl rfl rfl rfl .here (by first | decide | simp [Value.cells]) (fun w u hc hz => st1 sz9 rfl hc hz) (fun _ H => H.tail) (wanted_none rfl) rfl (by kernel_rfl) rfl ?_; clear S a H; intro w a H S
       refine d_done (by kernel_rfl) ?_
       refine e_in 0 ?_
       refine e_then ?_
       refine wp_seq ?_
       refine c_region ?_
       refine l_read S H (r_loadn (m := 8) (vs := [.int .i64 K, .string sv, .int .i64 0, .float .f64 0, .bool false, .string Fm, .int .i64 0, .bool false]) rfl List.mem_cons_self ag24 sz24 rfl rfl) rfl rfl rfl ?_; clear S a; intro a S
       refine l_storeAll (vs := [.int .i64 K, .string sv, .int .i64 0, .float .f64 0, .bool false, .string Fm, .int .i64 0, .bool false]) S H rfl rfl rfl sz24 (.there .here) rfl (fun v hv => by simp only [List.mem_cons, List.not_mem_nil, or_false] at hv; rcases hv with rfl | rfl | rfl | rfl | rfl | rfl | rfl | rfl <;> rfl) rfl rfl ?_; clear S a H; intro w a H S
       refine l_nil ?_
       refine e_then ?_
       refine wp_ret ?_
       have eO : (.agg #[.int .i64 K, .string (mw.oS K sv St), .int .i64 (mw.oN K nv), .float .f64 (mw.oF K dv), .bool (mw.oB K Bo), .string (mw.oM K Fm), .int .i64 (mw.oU K Num St), .bool (mw.oT K St)] : Value) = .agg #[.int .i64 K, .string sv, .int .i64 0, .float .f64 0, .bool false, .string Fm, .int .i64 0, .bool false] := by simp [mw.oS, mw.oN, mw.oF, mw.oB, mw.oM, mw.oU, mw.oT, c5, c8, c11, c14, c16, c22]
       rw [eO]
       exact r_retc1 S rfl rfl (lva (cs := [.int .i64 K, .string sv, .int .i64 0, .float .f64 0, .bool false, .string Fm, .int .i64 0, .bool false]) ag24 sz24 rfl H (List.mem_cons_of_mem _ List.mem_cons_self)) ⟨rfl, H.tail.tail.tail⟩
      ·
       have c22 := bc22
       have c22 := ne_of_beq_false c22
       refine wp_seq ?_
       refine c_region ?_
       refine l_pure S (p_eql rfl rfl) rfl rfl rfl ?_; clear S a; intro a S
       refine l_mv 1 S rfl ?_; clear S a; intro a S
       refine l_nil ?_
       refine e_then ?_
       refine c_cond S rfl (fun bc24 => ?_) (fun bc24 => ?_)
       ·
        have c24 := bc24
        have c24 := eq_of_beq c24
        refine c_region ?_
        refine l_pure S (p_fieldAddr rfl (fun w => fa24_2 w _ _)) rfl rfl rfl ?_; clear S a; intro a S
        refine l_read S H (r_load rfl (List.mem_cons_of_mem _ (List.mem_cons_of_mem _ List.mem_cons_self)) rfl (fun w hc => ld1 ag2 hc)) rfl rfl rfl ?_; clear S a; intro a S
        refine l_pure S (p_fieldAddr rfl (fun w => fa24_2 w _ _)) rfl rfl rfl ?_; clear S a; intro a S
        refine l_store S H rfl rfl rfl .here (by first | decide | simp [Value.cells]) (fun w u hc hz => st1 sz2 rfl hc hz) rfl rfl ?_; clear S a H; intro w a H S
        refine l_nil ?_
        refine e_in 0 ?_
        refine e_then ?_
        refine wp_seq ?_
        refine c_region ?_
        refine l_read S H (r_loadn (m := 8) (vs := [.int .i64 K, .string ⟨#[]⟩, .int .i64 nv, .float .f64 0, .bool false, .string ⟨#[]⟩, .int .i64 0, .bool false]) rfl List.mem_cons_self ag24 sz24 rfl rfl) rfl rfl rfl ?_; clear S a; intro a S
        refine l_storeAll (vs := [.int .i64 K, .string ⟨#[]⟩, .int .i64 nv, .float .f64 0, .bool false, .string ⟨#[]⟩, .int .i64 0, .bool false]) S H rfl rfl rfl sz24 (.there .here) rfl (fun v hv => by simp only [List.mem_cons, List.not_mem_nil, or_false] at hv; rcases hv with rfl | rfl | rfl | rfl | rfl | rfl | rfl | rfl <;> rfl) rfl rfl ?_; clear S a H; intro w a H S
        refine l_nil ?_
        refine e_then ?_
        refine wp_ret ?_
        have eO : (.agg #[.int .i64 K, .string (mw.oS K sv St), .int .i64 (mw.oN K nv), .float .f64 (mw.oF K dv), .bool (mw.oB K Bo), .string (mw.oM K Fm), .int .i64 (mw.oU K Num St), .bool (mw.oT K St)] : Value) = .agg #[.int .i64 K, .string ⟨#[]⟩, .int .i64 nv, .float .f64 0, .bool false, .string ⟨#[]⟩, .int .i64 0, .bool false] := by simp [mw.oS, mw.oN, mw.oF, mw.oB, mw.oM, mw.oU, mw.oT, c5, c8, c11, c14, c16, c22, c24]
        rw [eO]
        exact r_retc1 S rfl rfl (lva (cs := [.int .i64 K, .string ⟨#[]⟩, .int .i64 nv, .float .f64 0, .bool false, .string ⟨#[]⟩, .int .i64 0, .bool false]) ag24 sz24 rfl H (List.mem_cons_of_mem _ List.mem_cons_self)) ⟨rfl, H.tail.tail.tail⟩
       ·
        have c24 := bc24
        have c24 := ne_of_beq_false c24
        refine wp_seq ?_
        refine c_region ?_
        refine l_pure S (p_eql rfl rfl) rfl rfl rfl ?_; clear S a; intro a S
        refine l_mv 1 S rfl ?_; clear S a; intro a S
        refine l_nil ?_
        refine e_then ?_
        refine c_cond S rfl (fun bc26 => ?_) (fun bc26 => ?_)
        ·
         have c26 := bc26
         have c26 := eq_of_beq c26
         refine c_region ?_
         refine l_pure S (p_fieldAddr rfl (fun w => fa24_3 w _ _)) rfl rfl rfl ?_; clear S a; intro a S
         refine l_read S H (r_load rfl (List.mem_cons_of_mem _ (List.mem_cons_of_mem _ List.mem_cons_self)) rfl (fun w hc => ld1 ag22 hc)) rfl rfl rfl ?_; clear S a; intro a S
         refine l_pure S (p_fieldAddr rfl (fun w => fa24_3 w _ _)) rfl rfl rfl ?_; clear S a; intro a S
         refine l_store S H rfl rfl rfl .here (by first | decide | simp [Value.cells]) (fun w u hc hz => st1 sz22 rfl hc hz) rfl rfl ?_; clear S a H; intro w a H S
         refine l_nil ?_
         refine e_in 0 ?_
         refine e_then ?_
         refine wp_seq ?_
         refine c_region ?_
         refine l_read S H (r_loadn (m := 8) (vs := [.int .i64 K, .string ⟨#[]⟩, .int .i64 0, .float .f64 dv, .bool false, .string ⟨#[]⟩, .int .i64 0, .bool false]) rfl List.mem_cons_self ag24 sz24 rfl rfl) rfl rfl rfl ?_; clear S a; intro a S
         refine l_storeAll (vs := [.int .i64 K, .string ⟨#[]⟩, .int .i64 0, .float .f64 dv, .bool false, .string ⟨#[]⟩, .int .i64 0, .bool false]) S H rfl rfl rfl sz24 (.there .here) rfl (fun v hv => by simp only [List.mem_cons, List.not_mem_nil, or_false] at hv; rcases hv with rfl | rfl | rfl | rfl | rfl | rfl | rfl | rfl <;> rfl) rfl rfl ?_; clear S a H; intro w a H S
         refine l_nil ?_
         refine e_then ?_
         refine wp_ret ?_
         have eO : (.agg #[.int .i64 K, .string (mw.oS K sv St), .int .i64 (mw.oN K nv), .float .f64 (mw.oF K dv), .bool (mw.oB K Bo), .string (mw.oM K Fm), .int .i64 (mw.oU K Num St), .bool (mw.oT K St)] : Value) = .agg #[.int .i64 K, .string ⟨#[]⟩, .int .i64 0, .float .f64 dv, .bool false, .string ⟨#[]⟩, .int .i64 0, .bool false] := by simp [mw.oS, mw.oN, mw.oF, mw.oB, mw.oM, mw.oU, mw.oT, c5, c8, c11, c14, c16, c22, c24, c26]
         rw [eO]
         exact r_retc1 S rfl rfl (lva (cs := [.int .i64 K, .string ⟨#[]⟩, .int .i64 0, .float .f64 dv, .bool false, .string ⟨#[]⟩, .int .i64 0, .bool false]) ag24 sz24 rfl H (List.mem_cons_of_mem _ List.mem_cons_self)) ⟨rfl, H.tail.tail.tail⟩
        ·
         have c26 := bc26
         have c26 := ne_of_beq_false c26
         refine wp_seq ?_
         refine c_region ?_
         refine l_pure S (p_eql rfl rfl) rfl rfl rfl ?_; clear S a; intro a S
         refine l_mv 1 S rfl ?_; clear S a; intro a S
         refine l_nil ?_
         refine e_then ?_
         refine c_cond S rfl (fun bc28 => ?_) (fun bc28 => ?_)
         ·
          have c28 := bc28
          have c28 := eq_of_beq c28
          refine c_region ?_
          refine l_pure S (p_fieldAddr rfl (fun w => fa24_4 w _ _)) rfl rfl rfl ?_; clear S a; intro a S
          refine l_read S H (r_load rfl (List.mem_cons_of_mem _ (List.mem_cons_of_mem _ List.mem_cons_self)) rfl (fun w hc => ld1 ag4 hc)) rfl rfl rfl ?_; clear S a; intro a S
          refine l_pure S (p_fieldAddr rfl (fun w => fa24_4 w _ _)) rfl rfl rfl ?_; clear S a; intro a S
          refine l_store S H rfl rfl rfl .here (by first | decide | simp [Value.cells]) (fun w u hc hz => st1 sz4 rfl hc hz) rfl rfl ?_; clear S a H; intro w a H S
          refine l_nil ?_
          refine e_in 0 ?_
          refine e_then ?_
          refine wp_seq ?_
          refine c_region ?_
          refine l_read S H (r_loadn (m := 8) (vs := [.int .i64 K, .string ⟨#[]⟩, .int .i64 0, .float .f64 0, .bool Bo, .string ⟨#[]⟩, .int .i64 0, .bool false]) rfl List.mem_cons_self ag24 sz24 rfl rfl) rfl rfl rfl ?_; clear S a; intro a S
          refine l_storeAll (vs := [.int .i64 K, .string ⟨#[]⟩, .int .i64 0, .float .f64 0, .bool Bo, .string ⟨#[]⟩, .int .i64 0, .bool false]) S H rfl rfl rfl sz24 (.there .here) rfl (fun v hv => by simp only [List.mem_cons, List.not_mem_nil, or_false] at hv; rcases hv with rfl | rfl | rfl | rfl | rfl | rfl | rfl | rfl <;> rfl) rfl rfl ?_; clear S a H; intro w a H S
          refine l_nil ?_
          refine e_then ?_
          refine wp_ret ?_
          have eO : (.agg #[.int .i64 K, .string (mw.oS K sv St), .int .i64 (mw.oN K nv), .float .f64 (mw.oF K dv), .bool (mw.oB K Bo), .string (mw.oM K Fm), .int .i64 (mw.oU K Num St), .bool (mw.oT K St)] : Value) = .agg #[.int .i64 K, .string ⟨#[]⟩, .int .i64 0, .float .f64 0, .bool Bo, .string ⟨#[]⟩, .int .i64 0, .bool false] := by simp [mw.oS, mw.oN, mw.oF, mw.oB, mw.oM, mw.oU, mw.oT, c5, c8, c11, c14, c16, c22, c24, c26, c28]
          rw [eO]
          exact r_retc1 S rfl rfl (lva (cs := [.int .i64 K, .string ⟨#[]⟩, .int .i64 0, .float .f64 0, .bool Bo, .string ⟨#[]⟩, .int .i64 0, .bool false]) ag24 sz24 rfl H (List.mem_cons_of_mem _ List.mem_cons_self)) ⟨rfl, H.tail.tail.tail⟩
         ·
          have c28 := bc28
          have c28 := ne_of_beq_false c28
          refine wp_seq ?_
          refine wp_seq ?_
          refine c_region ?_
          refine l_pure S (p_eql rfl rfl) rfl rfl rfl ?_; clear S a; intro a S
          refine l_mv 1 S rfl ?_; clear S a; intro a S
          refine l_nil ?_
          refine e_then ?_
          refine c_cond S rfl (fun bc31 => ?_) (fun bc31 => ?_)
          ·
           have c31 := bc31
           have c31 := eq_of_beq c31
           refine wp_skip ?_
           refine e_then ?_
           refine c_cond S rfl (fun _ => ?_) (fun h => by rw [bc31] at h; cases h)
           refine wp_seq ?_
           refine c_region ?_
           refine l_pure S (p_fieldAddr rfl (fun w => fa24_7 w _ _)) rfl rfl rfl ?_; clear S a; intro a S
           refine l_read S H (r_load rfl (List.mem_cons_of_mem _ (List.mem_cons_of_mem _ List.mem_cons_self)) rfl (fun w hc => ld1 ag4 hc)) rfl rfl rfl ?_; clear S a; intro a S
           refine l_pure S (p_fieldAddr rfl (fun w => fa24_7 w _ _)) rfl rfl rfl ?_; clear S a; intro a S
           refine l_store S H rfl rfl rfl .here (by first | decide | simp [Value.cells]) (fun w u hc hz => st1 sz4 rfl hc hz) rfl rfl ?_; clear S a H; intro w a H S
           refine l_nil ?_
           refine e_then ?_
           refine wp_seq ?_
           refine c_region ?_
           refine l_pure S (p_fieldAddr rfl (fun w => fa24_7 w _ _)) rfl rfl rfl ?_; clear S a; intro a S
           refine l_read S H (r_load rfl (List.mem_cons_of_mem _ (List.mem_cons_of_mem _ List.mem_cons_self)) rfl (fun w hc => ld1 ag4 hc)) rfl rfl rfl ?_; clear S a; intro a S
           refine l_pure S (p_not rfl) rfl rfl rfl ?_; clear S a; intro a S
           refine l_nil ?_
           refine e_then ?_
           refine c_cond S rfl (fun bc36 => ?_) (fun bc36 => ?_)
           ·
            have c36 := bc36
            replace c36 := not_eq_true_ c36
            refine c_region ?_
            refine l_pure S (p_fieldAddr rfl (fun w => fa24_6 w _ _)) rfl rfl rfl ?_; clear S a; intro a S
            refine l_read S H (r_load rfl (List.mem_cons_of_mem _ (List.mem_cons_of_mem _ List.mem_cons_self)) rfl (fun w hc => ld1 ag3 hc)) rfl rfl rfl ?_; clear S a; intro a S
            refine l_pure S (p_fieldAddr rfl (fun w => fa24_6 w _ _)) rfl rfl rfl ?_; clear S a; intro a S
            refine l_store S H rfl rfl rfl .here (by first | decide | simp [Value.cells]) (fun w u hc hz => st1 sz3 rfl hc hz) rfl rfl ?_; clear S a H; intro w a H S
            refine l_nil ?_
            refine e_in 0 ?_
            refine e_then ?_
            refine wp_seq ?_
            refine c_region ?_
            refine l_read S H (r_loadn (m := 8) (vs := [.int .i64 K, .string ⟨#[]⟩, .int .i64 0, .float .f64 0, .bool false, .string ⟨#[]⟩, .int .i64 Num, .bool St]) rfl List.mem_cons_self ag24 sz24 rfl rfl) rfl rfl rfl ?_; clear S a; intro a S
            refine l_storeAll (vs := [.int .i64 K, .string ⟨#[]⟩, .int .i64 0, .float .f64 0, .bool false, .string ⟨#[]⟩, .int .i64 Num, .bool St]) S H rfl rfl rfl sz24 (.there .here) rfl (fun v hv => by simp only [List.mem_cons, List.not_mem_nil, or_false] at hv; rcases hv with rfl | rfl | rfl | rfl | rfl | rfl | rfl | rfl <;> rfl) rfl rfl ?_; clear S a H; intro w a H S
            refine l_nil ?_
            refine e_then ?_
            refine wp_ret ?_
            have eO : (.agg #[.int .i64 K, .string (mw.oS K sv St), .int .i64 (mw.oN K nv), .float .f64 (mw.oF K dv), .bool (mw.oB K Bo), .string (mw.oM K Fm), .int .i64 (mw.oU K Num St), .bool (mw.oT K St)] : Value) = .agg #[.int .i64 K, .string ⟨#[]⟩, .int .i64 0, .float .f64 0, .bool false, .string ⟨#[]⟩, .int .i64 Num, .bool St] := by simp [mw.oS, mw.oN, mw.oF, mw.oB, mw.oM, mw.oU, mw.oT, c5, c8, c11, c14, c16, c22, c24, c26, c28, c31, c36]
            rw [eO]
            exact r_retc1 S rfl rfl (lva (cs := [.int .i64 K, .string ⟨#[]⟩, .int .i64 0, .float .f64 0, .bool false, .string ⟨#[]⟩, .int .i64 Num, .bool St]) ag24 sz24 rfl H (List.mem_cons_of_mem _ List.mem_cons_self)) ⟨rfl, H.tail.tail.tail⟩
           ·
            have c36 := bc36
            replace c36 := not_eq_false_ c36
            refine wp_skip ?_
            refine e_in 0 ?_
            refine e_then ?_
            refine wp_seq ?_
            refine c_region ?_
            refine l_read S H (r_loadn (m := 8) (vs := [.int .i64 K, .string ⟨#[]⟩, .int .i64 0, .float .f64 0, .bool false, .string ⟨#[]⟩, .int .i64 0, .bool St]) rfl List.mem_cons_self ag24 sz24 rfl rfl) rfl rfl rfl ?_; clear S a; intro a S
            refine l_storeAll (vs := [.int .i64 K, .string ⟨#[]⟩, .int .i64 0, .float .f64 0, .bool false, .string ⟨#[]⟩, .int .i64 0, .bool St]) S H rfl rfl rfl sz24 (.there .here) rfl (fun v hv => by simp only [List.mem_cons, List.not_mem_nil, or_false] at hv; rcases hv with rfl | rfl | rfl | rfl | rfl | rfl | rfl | rfl <;> rfl) rfl rfl ?_; clear S a H; intro w a H S
            refine l_nil ?_
            refine e_then ?_
            refine wp_ret ?_
            have eO : (.agg #[.int .i64 K, .string (mw.oS K sv St), .int .i64 (mw.oN K nv), .float .f64 (mw.oF K dv), .bool (mw.oB K Bo), .string (mw.oM K Fm), .int .i64 (mw.oU K Num St), .bool (mw.oT K St)] : Value) = .agg #[.int .i64 K, .string ⟨#[]⟩, .int .i64 0, .float .f64 0, .bool false, .string ⟨#[]⟩, .int .i64 0, .bool St] := by simp [mw.oS, mw.oN, mw.oF, mw.oB, mw.oM, mw.oU, mw.oT, c5, c8, c11, c14, c16, c22, c24, c26, c28, c31, c36]
            rw [eO]
            exact r_retc1 S rfl rfl (lva (cs := [.int .i64 K, .string ⟨#[]⟩, .int .i64 0, .float .f64 0, .bool false, .string ⟨#[]⟩, .int .i64 0, .bool St]) ag24 sz24 rfl H (List.mem_cons_of_mem _ List.mem_cons_self)) ⟨rfl, H.tail.tail.tail⟩
          ·
           have c31 := bc31
           have c31 := ne_of_beq_false c31
           refine wp_seq ?_
           refine c_region ?_
           refine l_pure S (p_eql rfl rfl) rfl rfl rfl ?_; clear S a; intro a S
           refine l_mv 1 S rfl ?_; clear S a; intro a S
           refine l_nil ?_
           refine e_then ?_
           refine c_cond S rfl (fun bc38 => ?_) (fun bc38 => ?_)
           ·
            have c38 := bc38
            have c38 := eq_of_beq c38
            refine wp_skip ?_
            refine e_then ?_
            refine c_cond S rfl (fun _ => ?_) (fun h => by rw [bc38] at h; cases h)
            refine wp_seq ?_
            refine c_region ?_
            refine l_pure S (p_fieldAddr rfl (fun w => fa24_7 w _ _)) rfl rfl rfl ?_; clear S a; intro a S
            refine l_read S H (r_load rfl (List.mem_cons_of_mem _ (List.mem_cons_of_mem _ List.mem_cons_self)) rfl (fun w hc => ld1 ag4 hc)) rfl rfl rfl ?_; clear S a; intro a S
            refine l_pure S (p_fieldAddr rfl (fun w => fa24_7 w _ _)) rfl rfl rfl ?_; clear S a; intro a S
            refine l_store S H rfl rfl rfl .here (by first | decide | simp [Value.cells]) (fun w u hc hz => st1 sz4 rfl hc hz) rfl rfl ?_; clear S a H; intro w a H S
            refine l_nil ?_
            refine e_then ?_
            refine wp_seq ?_
            refine c_region ?_
            refine l_pure S (p_fieldAddr rfl (fun w => fa24_7 w _ _)) rfl rfl rfl ?_; clear S a; intro a S
            refine l_read S H (r_load rfl (List.mem_cons_of_mem _ (List.mem_cons_of_mem _ List.mem_cons_self)) rfl (fun w hc => ld1 ag4 hc)) rfl rfl rfl ?_; clear S a; intro a S
            refine l_pure S (p_not rfl) rfl rfl rfl ?_; clear S a; intro a S
            refine l_nil ?_
            refine e_then ?_
            refine c_cond S rfl (fun bc43 => ?_) (fun bc43 => ?_)
            ·
             have c43 := bc43
             replace c43 := not_eq_true_ c43
             refine c_region ?_
             refine l_pure S (p_fieldAddr rfl (fun w => fa24_6 w _ _)) rfl rfl rfl ?_; clear S a; intro a S
             refine l_read S H (r_load rfl (List.mem_cons_of_mem _ (List.mem_cons_of_mem _ List.mem_cons_self)) rfl (fun w hc => ld1 ag3 hc)) rfl rfl rfl ?_; clear S a; intro a S
             refine l_pure S (p_fieldAddr rfl (fun w => fa24_6 w _ _)) rfl rfl rfl ?_; clear S a; intro a S
             refine l_store S H rfl rfl rfl .here (by first | decide | simp [Value.cells]) (fun w u hc hz => st1 sz3 rfl hc hz) rfl rfl ?_; clear S a H; intro w a H S
             refine l_nil ?_
             refine e_in 0 ?_
             refine e_then ?_
             refine wp_seq ?_
             refine c_region ?_
             refine l_read S H (r_loadn (m := 8) (vs := [.int .i64 K, .string ⟨#[]⟩, .int .i64 0, .float .f64 0, .bool false, .string ⟨#[]⟩, .int .i64 Num, .bool St]) rfl List.mem_cons_self ag24 sz24 rfl rfl) rfl rfl rfl ?_; clear S a; intro a S
             refine l_storeAll (vs := [.int .i64 K, .string ⟨#[]⟩, .int .i64 0, .float .f64 0, .bool false, .string ⟨#[]⟩, .int .i64 Num, .bool St]) S H rfl rfl rfl sz24 (.there .here) rfl (fun v hv => by simp only [List.mem_cons, List.not_mem_nil, or_false] at hv; rcases hv with rfl | rfl | rfl | rfl | rfl | rfl | rfl | rfl <;> rfl) rfl rfl ?_; clear S a H; intro w a H S
             refine l_nil ?_
             refine e_then ?_
             refine wp_ret ?_
             have eO : (.agg #[.int .i64 K, .string (mw.oS K sv St), .int .i64 (mw.oN K nv), .float .f64 (mw.oF K dv), .bool (mw.oB K Bo), .string (mw.oM K Fm), .int .i64 (mw.oU K Num St), .bool (mw.oT K St)] : Value) = .agg #[.int .i64 K, .string ⟨#[]⟩, .int .i64 0, .float .f64 0, .bool false, .string ⟨#[]⟩, .int .i64 Num, .bool St] := by simp [mw.oS, mw.oN, mw.oF, mw.oB, mw.oM, mw.oU, mw.oT, c5, c8, c11, c14, c16, c22, c24, c26, c28, c31, c38, c43]
             rw [eO]
             exact r_retc1 S rfl rfl (lva (cs := [.int .i64 K, .string ⟨#[]⟩, .int .i64 0, .float .f64 0, .bool false, .string ⟨#[]⟩, .int .i64 Num, .bool St]) ag24 sz24 rfl H (List.mem_cons_of_mem _ List.mem_cons_self)) ⟨rfl, H.tail.tail.tail⟩
            ·
             have c43 := bc43
             replace c43 := not_eq_false_ c43
             refine wp_skip ?_
             refine e_in 0 ?_
             refine e_then ?_
             refine wp_seq ?_
             refine c_region ?_
             refine l_read S H (r_loadn (m := 8) (vs := [.int .i64 K, .string ⟨#[]⟩, .int .i64 0, .float .f64 0, .bool false, .string ⟨#[]⟩, .int .i64 0, .bool St]) rfl List.mem_cons_self ag24 sz24 rfl rfl) rfl rfl rfl ?_; clear S a; intro a S
             refine l_storeAll (vs := [.int .i64 K, .string ⟨#[]⟩, .int .i64 0, .float .f64 0, .bool false, .string ⟨#[]⟩, .int .i64 0, .bool St]) S H rfl rfl rfl sz24 (.there .here) rfl (fun v hv => by simp only [List.mem_cons, List.not_mem_nil, or_false] at hv; rcases hv with rfl | rfl | rfl | rfl | rfl | rfl | rfl | rfl <;> rfl) rfl rfl ?_; clear S a H; intro w a H S
             refine l_nil ?_
             refine e_then ?_
             refine wp_ret ?_
             have eO : (.agg #[.int .i64 K, .string (mw.oS K sv St), .int .i64 (mw.oN K nv), .float .f64 (mw.oF K dv), .bool (mw.oB K Bo), .string (mw.oM K Fm), .int .i64 (mw.oU K Num St), .bool (mw.oT K St)] : Value) = .agg #[.int .i64 K, .string ⟨#[]⟩, .int .i64 0, .float .f64 0, .bool false, .string ⟨#[]⟩, .int .i64 0, .bool St] := by simp [mw.oS, mw.oN, mw.oF, mw.oB, mw.oM, mw.oU, mw.oT, c5, c8, c11, c14, c16, c22, c24, c26, c28, c31, c38, c43]
             rw [eO]
             exact r_retc1 S rfl rfl (lva (cs := [.int .i64 K, .string ⟨#[]⟩, .int .i64 0, .float .f64 0, .bool false, .string ⟨#[]⟩, .int .i64 0, .bool St]) ag24 sz24 rfl H (List.mem_cons_of_mem _ List.mem_cons_self)) ⟨rfl, H.tail.tail.tail⟩
           ·
            have c38 := bc38
            have c38 := ne_of_beq_false c38
            refine c_region ?_
            refine l_pure S (p_eql rfl rfl) rfl rfl rfl ?_; clear S a; intro a S
            refine l_mv 1 S rfl ?_; clear S a; intro a S
            refine l_nil ?_
            refine e_then ?_
            refine c_cond S rfl (fun bc45 => ?_) (fun bc45 => ?_)
            ·
             have c45 := bc45
             have c45 := eq_of_beq c45
             refine wp_seq ?_
             refine c_region ?_
             refine l_pure S (p_fieldAddr rfl (fun w => fa24_7 w _ _)) rfl rfl rfl ?_; clear S a; intro a S
             refine l_read S H (r_load rfl (List.mem_cons_of_mem _ (List.mem_cons_of_mem _ List.mem_cons_self)) rfl (fun w hc => ld1 ag4 hc)) rfl rfl rfl ?_; clear S a; intro a S
             refine l_pure S (p_fieldAddr rfl (fun w => fa24_7 w _ _)) rfl rfl rfl ?_; clear S a; intro a S
             refine l_store S H rfl rfl rfl .here (by first | decide | simp [Value.cells]) (fun w u hc hz => st1 sz4 rfl hc hz) rfl rfl ?_; clear S a H; intro w a H S
             refine l_nil ?_
             refine e_then ?_
             refine wp_seq ?_
             refine c_region ?_
             refine l_pure S (p_fieldAddr rfl (fun w => fa24_7 w _ _)) rfl rfl rfl ?_; clear S a; intro a S
             refine l_read S H (r_load rfl (List.mem_cons_of_mem _ (List.mem_cons_of_mem _ List.mem_cons_self)) rfl (fun w hc => ld1 ag4 hc)) rfl rfl rfl ?_; clear S a; intro a S
             refine l_pure S (p_not rfl) rfl rfl rfl ?_; clear S a; intro a S
             refine l_nil ?_
             refine e_then ?_
             refine c_cond S rfl (fun bc49 => ?_) (fun bc49 => ?_)
             ·
              have c49 := bc49
              replace c49 := not_eq_true_ c49
              refine c_region ?_
              refine l_pure S (p_fieldAddr rfl (fun w => fa24_6 w _ _)) rfl rfl rfl ?_; clear S a; intro a S
              refine l_read S H (r_load rfl (List.mem_cons_of_mem _ (List.mem_cons_of_mem _ List.mem_cons_self)) rfl (fun w hc => ld1 ag3 hc)) rfl rfl rfl ?_; clear S a; intro a S
              refine l_pure S (p_fieldAddr rfl (fun w => fa24_6 w _ _)) rfl rfl rfl ?_; clear S a; intro a S
              refine l_store S H rfl rfl rfl .here (by first | decide | simp [Value.cells]) (fun w u hc hz => st1 sz3 rfl hc hz) rfl rfl ?_; clear S a H; intro w a H S
              refine l_nil ?_
              refine e_in 0 ?_
              refine e_then ?_
              refine wp_seq ?_
              refine c_region ?_
              refine l_read S H (r_loadn (m := 8) (vs := [.int .i64 K, .string ⟨#[]⟩, .int .i64 0, .float .f64 0, .bool false, .string ⟨#[]⟩, .int .i64 Num, .bool St]) rfl List.mem_cons_self ag24 sz24 rfl rfl) rfl rfl rfl ?_; clear S a; intro a S
              refine l_storeAll (vs := [.int .i64 K, .string ⟨#[]⟩, .int .i64 0, .float .f64 0, .bool false, .string ⟨#[]⟩, .int .i64 Num, .bool St]) S H rfl rfl rfl sz24 (.there .here) rfl (fun v hv => by simp only [List.mem_cons, List.not_mem_nil, or_false] at hv; rcases hv with rfl | rfl | rfl | rfl | rfl | rfl | rfl | rfl <;> rfl) rfl rfl ?_; clear S a H; intro w a H S
              refine l_nil ?_
              refine e_then ?_
              refine wp_ret ?_
              have eO : (.agg #[.int .i64 K, .string (mw.oS K sv St), .int .i64 (mw.oN K nv), .float .f64 (mw.oF K dv), .bool (mw.oB K Bo), .string (mw.oM K Fm), .int .i64 (mw.oU K Num St), .bool (mw.oT K St)] : Value) = .agg #[.int .i64 K, .string ⟨#[]⟩, .int .i64 0, .float .f64 0, .bool false, .string ⟨#[]⟩, .int .i64 Num, .bool St] := by simp [mw.oS, mw.oN, mw.oF, mw.oB, mw.oM, mw.oU, mw.oT, c5, c8, c11, c14, c16, c22, c24, c26, c28, c31, c38, c45, c49]
              rw [eO]
              exact r_retc1 S rfl rfl (lva (cs := [.int .i64 K, .string ⟨#[]⟩, .int .i64 0, .float .f64 0, .bool false, .string ⟨#[]⟩, .int .i64 Num, .bool St]) ag24 sz24 rfl H (List.mem_cons_of_mem _ List.mem_cons_self)) ⟨rfl, H.tail.tail.tail⟩
             ·
              have c49 := bc49
              replace c49 := not_eq_false_ c49
              refine wp_skip ?_
              refine e_in 0 ?_
              refine e_then ?_
              refine wp_seq ?_
              refine c_region ?_
              refine l_read S H (r_loadn (m := 8) (vs := [.int .i64 K, .string ⟨#[]⟩, .int .i64 0, .float .f64 0, .bool false, .string ⟨#[]⟩, .int .i64 0, .bool St]) rfl List.mem_cons_self ag24 sz24 rfl rfl) rfl rfl rfl ?_; clear S a; intro a S
              refine l_storeAll (vs := [.int .i64 K, .string ⟨#[]⟩, .int .i64 0, .float .f64 0, .bool false, .string ⟨#[]⟩, .int .i64 0, .bool St]) S H rfl rfl rfl sz24 (.there .here) rfl (fun v hv => by simp only [List.mem_cons, List.not_mem_nil, or_false] at hv; rcases hv with rfl | rfl | rfl | rfl | rfl | rfl | rfl | rfl <;> rfl) rfl rfl ?_; clear S a H; intro w a H S
              refine l_nil ?_
              refine e_then ?_
              refine wp_ret ?_
              have eO : (.agg #[.int .i64 K, .string (mw.oS K sv St), .int .i64 (mw.oN K nv), .float .f64 (mw.oF K dv), .bool (mw.oB K Bo), .string (mw.oM K Fm), .int .i64 (mw.oU K Num St), .bool (mw.oT K St)] : Value) = .agg #[.int .i64 K, .string ⟨#[]⟩, .int .i64 0, .float .f64 0, .bool false, .string ⟨#[]⟩, .int .i64 0, .bool St] := by simp [mw.oS, mw.oN, mw.oF, mw.oB, mw.oM, mw.oU, mw.oT, c5, c8, c11, c14, c16, c22, c24, c26, c28, c31, c38, c45, c49]
              rw [eO]
              exact r_retc1 S rfl rfl (lva (cs := [.int .i64 K, .string ⟨#[]⟩, .int .i64 0, .float .f64 0, .bool false, .string ⟨#[]⟩, .int .i64 0, .bool St]) ag24 sz24 rfl H (List.mem_cons_of_mem _ List.mem_cons_self)) ⟨rfl, H.tail.tail.tail⟩
            ·
             have c45 := bc45
             have c45 := ne_of_beq_false c45
             refine wp_seq ?_
             refine wp_seq ?_
             refine c_region ?_
             refine l_pure S (p_eql rfl rfl) rfl rfl rfl ?_; clear S a; intro a S
             refine l_mv 1 S rfl ?_; clear S a; intro a S
             refine l_nil ?_
             refine e_then ?_
             refine c_cond S rfl (fun bc51 => ?_) (fun bc51 => ?_)
             ·
              have c51 := bc51
              have c51 := eq_of_beq c51
              refine wp_skip ?_
              refine e_then ?_
              refine c_cond S rfl (fun _ => ?_) (fun h => by rw [bc51] at h; cases h)
              refine c_region ?_
              refine l_pure S (p_fieldAddr rfl (fun w => fa24_6 w _ _)) rfl rfl rfl ?_; clear S a; intro a S
              refine l_read S H (r_load rfl (List.mem_cons_of_mem _ (List.mem_cons_of_mem _ List.mem_cons_self)) rfl (fun w hc => ld1 ag3 hc)) rfl rfl rfl ?_; clear S a; intro a S
              refine l_pure S (p_fieldAddr rfl (fun w => fa24_6 w _ _)) rfl rfl rfl ?_; clear S a; intro a S
              refine l_store S H rfl rfl rfl .here (by first | decide | simp [Value.cells]) (fun w u hc hz => st1 sz3 rfl hc hz) rfl rfl ?_; clear S a H; intro w a H S
              refine l_nil ?_
              refine e_in 0 ?_
              refine e_then ?_
              refine wp_seq ?_
              refine c_region ?_
              refine l_read S H (r_loadn (m := 8) (vs := [.int .i64 K, .string ⟨#[]⟩, .int .i64 0, .float .f64 0, .bool false, .string ⟨#[]⟩, .int .i64 Num, .bool false]) rfl List.mem_cons_self ag24 sz24 rfl rfl) rfl rfl rfl ?_; clear S a; intro a S
              refine l_storeAll (vs := [.int .i64 K, .string ⟨#[]⟩, .int .i64 0, .float .f64 0, .bool false, .string ⟨#[]⟩, .int .i64 Num, .bool false]) S H rfl rfl rfl sz24 (.there .here) rfl (fun v hv => by simp only [List.mem_cons, List.not_mem_nil, or_false] at hv; rcases hv with rfl | rfl | rfl | rfl | rfl | rfl | rfl | rfl <;> rfl) rfl rfl ?_; clear S a H; intro w a H S
              refine l_nil ?_
              refine e_then ?_
              refine wp_ret ?_
              have eO : (.agg #[.int .i64 K, .string (mw.oS K sv St), .int .i64 (mw.oN K nv), .float .f64 (mw.oF K dv), .bool (mw.oB K Bo), .string (mw.oM K Fm), .int .i64 (mw.oU K Num St), .bool (mw.oT K St)] : Value) = .agg #[.int .i64 K, .string ⟨#[]⟩, .int .i64 0, .float .f64 0, .bool false, .string ⟨#[]⟩, .int .i64 Num, .bool false] := by simp [mw.oS, mw.oN, mw.oF, mw.oB, mw.oM, mw.oU, mw.oT, c5, c8, c11, c14, c16, c22, c24, c26, c28, c31, c38, c45, c51]
              rw [eO]
              exact r_retc1 S rfl rfl (lva (cs := [.int .i64 K, .string ⟨#[]⟩, .int .i64 0, .float .f64 0, .bool false, .string ⟨#[]⟩, .int .i64 Num, .bool false]) ag24 sz24 rfl H (List.mem_cons_of_mem _ List.mem_cons_self)) ⟨rfl, H.tail.tail.tail⟩
             ·
              have c51 := bc51
              have c51 := ne_of_beq_false c51
              refine c_region ?_
              refine l_pure S (p_eql rfl rfl) rfl rfl rfl ?_; clear S a; intro a S
              refine l_mv 1 S rfl ?_; clear S a; intro a S
              refine l_nil ?_
              refine e_then ?_
              refine c_cond S rfl (fun bc54 => ?_) (fun bc54 => ?_)
              ·
               have c54 := bc54
               have c54 := eq_of_beq c54
               refine c_region ?_
               refine l_pure S (p_fieldAddr rfl (fun w => fa24_6 w _ _)) rfl rfl rfl ?_; clear S a; intro a S
               refine l_read S H (r_load rfl (List.mem_cons_of_mem _ (List.mem_cons_of_mem _ List.mem_cons_self)) rfl (fun w hc => ld1 ag3 hc)) rfl rfl rfl ?_; clear S a; intro a S
               refine l_pure S (p_fieldAddr rfl (fun w => fa24_6 w _ _)) rfl rfl rfl ?_; clear S a; intro a S
               refine l_store S H rfl rfl rfl .here (by first | decide | simp [Value.cells]) (fun w u hc hz => st1 sz3 rfl hc hz) rfl rfl ?_; clear S a H; intro w a H S
               refine l_nil ?_
               refine e_in 0 ?_
               refine e_then ?_
               refine wp_seq ?_
               refine c_region ?_
               refine l_read S H (r_loadn (m := 8) (vs := [.int .i64 K, .string ⟨#[]⟩, .int .i64 0, .float .f64 0, .bool false, .string ⟨#[]⟩, .int .i64 Num, .bool false]) rfl List.mem_cons_self ag24 sz24 rfl rfl) rfl rfl rfl ?_; clear S a; intro a S
               refine l_storeAll (vs := [.int .i64 K, .string ⟨#[]⟩, .int .i64 0, .float .f64 0, .bool false, .string ⟨#[]⟩, .int .i64 Num, .bool false]) S H rfl rfl rfl sz24 (.there .here) rfl (fun v hv => by simp only [List.mem_cons, List.not_mem_nil, or_false] at hv; rcases hv with rfl | rfl | rfl | rfl | rfl | rfl | rfl | rfl <;> rfl) rfl rfl ?_; clear S a H; intro w a H S
               refine l_nil ?_
               refine e_then ?_
               refine wp_ret ?_
               have eO : (.agg #[.int .i64 K, .string (mw.oS K sv St), .int .i64 (mw.oN K nv), .float .f64 (mw.oF K dv), .bool (mw.oB K Bo), .string (mw.oM K Fm), .int .i64 (mw.oU K Num St), .bool (mw.oT K St)] : Value) = .agg #[.int .i64 K, .string ⟨#[]⟩, .int .i64 0, .float .f64 0, .bool false, .string ⟨#[]⟩, .int .i64 Num, .bool false] := by simp [mw.oS, mw.oN, mw.oF, mw.oB, mw.oM, mw.oU, mw.oT, c5, c8, c11, c14, c16, c22, c24, c26, c28, c31, c38, c45, c51, c54]
               rw [eO]
               exact r_retc1 S rfl rfl (lva (cs := [.int .i64 K, .string ⟨#[]⟩, .int .i64 0, .float .f64 0, .bool false, .string ⟨#[]⟩, .int .i64 Num, .bool false]) ag24 sz24 rfl H (List.mem_cons_of_mem _ List.mem_cons_self)) ⟨rfl, H.tail.tail.tail⟩
              ·
               have c54 := bc54
               have c54 := ne_of_beq_false c54
               refine wp_skip ?_
               refine e_in 0 ?_
               refine e_then ?_
               refine wp_seq ?_
               refine c_region ?_
               refine l_read S H (r_loadn (m := 8) (vs := [.int .i64 K, .string ⟨#[]⟩, .int .i64 0, .float .f64 0, .bool false, .string ⟨#[]⟩, .int .i64 0, .bool false]) rfl List.mem_cons_self ag24 sz24 rfl rfl) rfl rfl rfl ?_; clear S a; intro a S
               refine l_storeAll (vs := [.int .i64 K, .string ⟨#[]⟩, .int .i64 0, .float .f64 0, .bool false, .string ⟨#[]⟩, .int .i64 0, .bool false]) S H rfl rfl rfl sz24 (.there .here) rfl (fun v hv => by simp only [List.mem_cons, List.not_mem_nil, or_false] at hv; rcases hv with rfl | rfl | rfl | rfl | rfl | rfl | rfl | rfl <;> rfl) rfl rfl ?_; clear S a H; intro w a H S
               refine l_nil ?_
               refine e_then ?_
               refine wp_ret ?_
               have eO : (.agg #[.int .i64 K, .string (mw.oS K sv St), .int .i64 (mw.oN K nv), .float .f64 (mw.oF K dv), .bool (mw.oB K Bo), .string (mw.oM K Fm), .int .i64 (mw.oU K Num St), .bool (mw.oT K St)] : Value) = .agg #[.int .i64 K, .string ⟨#[]⟩, .int .i64 0, .float .f64 0, .bool false, .string ⟨#[]⟩, .int .i64 0, .bool false] := by simp [mw.oS, mw.oN, mw.oF, mw.oB, mw.oM, mw.oU, mw.oT, c5, c8, c11, c14, c16, c22, c24, c26, c28, c31, c38, c45, c51, c54]
               rw [eO]
               exact r_retc1 S rfl rfl (lva (cs := [.int .i64 K, .string ⟨#[]⟩, .int .i64 0, .float .f64 0, .bool false, .string ⟨#[]⟩, .int .i64 0, .bool false]) ag24 sz24 rfl H (List.mem_cons_of_mem _ List.mem_cons_self)) ⟨rfl, H.tail.tail.tail⟩
set_option maxHeartbeats 2000000 in
set_option maxRecDepth 20000 in
theorem wire_ (wb w0 : World) (B : Nat) (L0 : dc.Bk) (ht : Lib.TabBelow Tryz.prog B wb "internal/strconv.uint64pow10" .u64 Lib.pow10Tab) (hT : fz.PTab 3 B wb) (K : Int) (sv : ByteArray) (nv : Int) (dv : Nat) (Bo : Bool) (Fm : ByteArray) (Num : Int) (St : Bool) (hK : mw.typed K) (h61 : K = 61 → Fm.size = 3) (hS : sv.size ≤ 2000) (hFm : Fm.size ≤ 100) (hN : -9223372036854775808 ≤ nv ∧ nv ≤ 9223372036854775807) (hNum : -9223372036854775808 ≤ Num ∧ Num ≤ 9223372036854775807) (hF : dv < 18446744073709551616) (H : HH B wb w0 L0) : Calls Tryz.prog 7 #[.agg #[.int .i64 K, .string sv, .int .i64 nv, .float .f64 dv, .bool Bo, .string Fm, .int .i64 Num, .bool St]] w0 fun e w' => e = .returned (.string (strOfNums (mw.mwire K sv nv dv Bo Fm Num St))) ∧ HH B wb w' L0 := by
 have hKb := mw.typed_bd hK
 refine c_enter (args := [.agg #[.int .i64 K, .string sv, .int .i64 nv, .float .f64 dv, .bool Bo, .string Fm, .int .i64 Num, .bool St]]) (k := 111) Tryz.func7 rfl rfl rfl (fun a S => ?_)
 refine wp_seq ?_
 refine c_region ?_
 refine l_box (cs := #[.int .i64 K, .string sv, .int .i64 nv, .float .f64 dv, .bool Bo, .string Fm, .int .i64 Num, .bool St]) S H rfl rfl (fun w => bx) rfl rfl rfl ?_; clear S a H; intro g1 w a H S
 refine l_mv 1 S rfl ?_; clear S a; intro a S
 refine l_nil ?_
 refine e_then ?_
 refine wp_seq ?_
 refine c_region ?_
 refine l_pure S (p_fieldAddr rfl (fun w => fa24_0 w _ _)) rfl rfl rfl ?_; clear S a; intro a S
 refine l_read S H (r_load rfl List.mem_cons_self rfl (fun w hc => ld1 ag3 hc)) rfl rfl rfl ?_; clear S a; intro a S
 refine l_pure S (p_conv rfl (fun w => cv_int Tryz.underlying3 Tryz.underlying5 (r := K) (by rw [IntKind.wrap_u8]; omega))) rfl rfl rfl ?_; clear S a; intro a S
 refine l_lit [(.tmp 6)] S H rfl rfl Tryz.underlying34 sz5 zv5 rfl rfl (by simp [Value.cells]) rfl rfl rfl ?_; clear S a H; intro g2 w a H S
 refine l_read S H (r_str (l := [K]) rfl Tryz.underlying34 Tryz.underlying5 Tryz.underlying9 (fun w H => RB.C (RB.of H List.mem_cons_self (fun i v hi => by rcases i with _ | i <;> simp_all)) (show 1 ≤ 9223372036854775807 by decide))) rfl rfl rfl ?_; clear S a; intro a S
 refine l_mv 1 S rfl ?_; clear S a; intro a S
 refine l_nil ?_
 refine e_then ?_
 refine wp_seq ?_
 refine c_region ?_
 refine l_read S H (r_loadn (m := 8) (vs := [.int .i64 K, .string sv, .int .i64 nv, .float .f64 dv, .bool Bo, .string Fm, .int .i64 Num, .bool St]) rfl (List.mem_cons_of_mem _ List.mem_cons_self) ag24 sz24 rfl rfl) rfl rfl rfl ?_; clear S a; intro a S
 have hcon := only_ wb _ B _ K sv nv dv Bo Fm Num St hK H
 refine l_call S rfl rfl Tryz.func16 rfl rfl (hcon) rfl rfl rfl ?_
 rintro e w ⟨rfl, hH⟩
 refine ⟨_, rfl, ?_⟩; clear S a; intro a S
 clear H hcon; have H := hH; clear hH
 refine l_storeAll (vs := [.int .i64 K, .string (mw.oS K sv St), .int .i64 (mw.oN K nv), .float .f64 (mw.oF K dv), .bool (mw.oB K Bo), .string (mw.oM K Fm), .int .i64 (mw.oU K Num St), .bool (mw.oT K St)]) S H rfl rfl rfl sz24 (.there .here) rfl (fun v hv => by simp only [List.mem_cons, List.not_mem_nil, or_false] at hv; rcases hv with rfl | rfl | rfl | rfl | rfl | rfl | rfl | rfl <;> rfl) rfl rfl ?_; clear S a H; intro w a H S
 refine l_nil ?_
 refine e_then ?_
 refine wp_seq ?_
 refine wp_block ?_
 refine wp_seq ?_
 refine c_region ?_
 refine l_pure S (p_fieldAddr rfl (fun w => fa24_7 w _ _)) rfl rfl rfl ?_; clear S a; intro a S
 refine l_read S H (r_load rfl (List.mem_cons_of_mem _ List.mem_cons_self) rfl (fun w hc => ld1 ag4 hc)) rfl rfl rfl ?_; clear S a; intro a S
 refine l_mv 1 S rfl ?_; clear S a; intro a S
 refine l_nil ?_
 refine e_then ?_
 refine c_cond S rfl (fun bc4 => ?_) (fun bc4 => ?_)
 ·
  have c4 := bc4
  refine wp_seq ?_
  refine c_region ?_
  refine l_mv 1 S rfl ?_; clear S a; intro a S
  refine l_pure S (p_sadd rfl rfl (by have h1 := mw.oS_bd (K := K) (St := St) hS; have h2 := mw.oM_bd (K := K) hFm; have h3 := mw.sdec_len (mw.oN_bd (K := K) hN); have h4 := mw.sdec_len (mw.oU_bd (K := K) (St := St) hNum); have h5 := mw.dtext_len (mw.oF K dv); have h6 : (⟨#[13, 10]⟩ : ByteArray).size = 2 := rfl; have h7 : (⟨#[63]⟩ : ByteArray).size = 1 := rfl; have h8 : (⟨#[58]⟩ : ByteArray).size = 1 := rfl; simp only [mw.sb, mw.sn, List.length_cons, List.length_nil]; omega)) rfl rfl rfl ?_; clear S a; intro a S
  refine l_pure S (p_sadd rfl rfl (by have h1 := mw.oS_bd (K := K) (St := St) hS; have h2 := mw.oM_bd (K := K) hFm; have h3 := mw.sdec_len (mw.oN_bd (K := K) hN); have h4 := mw.sdec_len (mw.oU_bd (K := K) (St := St) hNum); have h5 := mw.dtext_len (mw.oF K dv); have h6 : (⟨#[13, 10]⟩ : ByteArray).size = 2 := rfl; have h7 : (⟨#[63]⟩ : ByteArray).size = 1 := rfl; have h8 : (⟨#[58]⟩ : ByteArray).size = 1 := rfl; simp only [mw.sb, mw.sn, List.length_cons, List.length_nil]; omega)) rfl rfl rfl ?_; clear S a; intro a S
  refine l_mv 1 S rfl ?_; clear S a; intro a S
  refine l_nil ?_
  refine e_then ?_
  refine wp_ret ?_
  refine e_in_ret ?_
  refine e_then_ret ?_
  have eW : (((strOfNums [K]) ++ ⟨#[63]⟩) ++ ⟨#[13, 10]⟩) = strOfNums (mw.mwire K sv nv dv Bo Fm Num St) := mw.wl1 hK bc4
  rw [eW] at S
  exact r_ret1 S rfl rfl ⟨rfl, H.tail.tail⟩
 ·
  have c4 := bc4
  refine wp_seq ?_
  refine c_region ?_
  refine l_pure S (p_fieldAddr rfl (fun w => fa24_0 w _ _)) rfl rfl rfl ?_; clear S a; intro a S
  refine l_read S H (r_load rfl (List.mem_cons_of_mem _ List.mem_cons_self) rfl (fun w hc => ld1 ag3 hc)) rfl rfl rfl ?_; clear S a; intro a S
  refine l_pure S (p_eql rfl rfl) rfl rfl rfl ?_; clear S a; intro a S
  refine l_mv 1 S rfl ?_; clear S a; intro a S
  refine l_split (S.of 21 rfl) (fun bc6 => ?_) (fun bc6 => ?_)
  ·
   have c6 := bc6
   have c6 := eq_of_beq c6
   refine l_on S rfl rfl rfl rfl bc6 ?_
   refine l_pure S (p_fieldAddr rfl (fun w => fa24_1 w _ _)) rfl rfl rfl ?_; clear S a; intro a S
   refine l_on S rfl rfl rfl rfl bc6 ?_
   refine l_read S H (r_load rfl (List.mem_cons_of_mem _ List.mem_cons_self) rfl (fun w hc => ld1 ag9 hc)) rfl rfl rfl ?_; clear S a; intro a S
   refine l_on S rfl rfl rfl rfl bc6 ?_
   refine l_pure S (p_lens Tryz.underlying9 rfl) rfl rfl rfl ?_; clear S a; intro a S
   refine l_on S rfl rfl rfl rfl bc6 ?_
   refine l_pure S (p_eql rfl rfl) rfl rfl rfl ?_; clear S a; intro a S
   refine l_pure S (p_pick_t rfl bc6 rfl) rfl rfl rfl ?_; clear S a; intro a S
   refine l_mv 1 S rfl ?_; clear S a; intro a S
   refine l_nil ?_
   refine e_then ?_
   refine c_cond S rfl (fun bc8 => ?_) (fun bc8 => ?_)
   ·
    have c8 := bc8
    have c8 := eq_of_beq c8
    refine wp_seq ?_
    refine c_region ?_
    refine l_mv 1 S rfl ?_; clear S a; intro a S
    refine l_nil ?_
    refine e_then ?_
    refine wp_ret ?_
    refine e_in_ret ?_
    refine e_then_ret ?_
    have eW : (⟨#[59, 48, 13, 10]⟩ : ByteArray) = strOfNums (mw.mwire K sv nv dv Bo Fm Num St) := mw.wl2 c6 (by omega)
    rw [eW] at S
    exact r_ret1 S rfl rfl ⟨rfl, H.tail.tail⟩
   ·
    have c8 := bc8
    have c8 := ne_of_beq_false c8
    refine wp_seq ?_
    refine c_region ?_
    refine l_pure S (p_fieldAddr rfl (fun w => fa24_0 w _ _)) rfl rfl rfl ?_; clear S a; intro a S
    refine l_read S H (r_load rfl (List.mem_cons_of_mem _ List.mem_cons_self) rfl (fun w hc => ld1 ag3 hc)) rfl rfl rfl ?_; clear S a; intro a S
    refine l_pure S (p_eql rfl rfl) rfl rfl rfl ?_; clear S a; intro a S
    refine l_mv 1 S rfl ?_; clear S a; intro a S
    refine l_nil ?_
    refine e_then ?_
    refine c_cond S rfl (fun bc10 => ?_) (fun bc10 => ?_)
    ·
     have c10 := bc10
     have c10 := eq_of_beq c10
     refine wp_seq ?_
     refine c_region ?_
     refine l_pure S (p_fieldAddr rfl (fun w => fa24_5 w _ _)) rfl rfl rfl ?_; clear S a; intro a S
     refine l_read S H (r_load rfl (List.mem_cons_of_mem _ List.mem_cons_self) rfl (fun w hc => ld1 ag9 hc)) rfl rfl rfl ?_; clear S a; intro a S
     refine l_pure S (p_sadd rfl rfl (by have h1 := mw.oS_bd (K := K) (St := St) hS; have h2 := mw.oM_bd (K := K) hFm; have h3 := mw.sdec_len (mw.oN_bd (K := K) hN); have h4 := mw.sdec_len (mw.oU_bd (K := K) (St := St) hNum); have h5 := mw.dtext_len (mw.oF K dv); have h6 : (⟨#[13, 10]⟩ : ByteArray).size = 2 := rfl; have h7 : (⟨#[63]⟩ : ByteArray).size = 1 := rfl; have h8 : (⟨#[58]⟩ : ByteArray).size = 1 := rfl; simp only [mw.sb, mw.sn, List.length_cons, List.length_nil]; omega)) rfl rfl rfl ?_; clear S a; intro a S
     refine l_pure S (p_fieldAddr rfl (fun w => fa24_1 w _ _)) rfl rfl rfl ?_; clear S a; intro a S
     refine l_read S H (r_load rfl (List.mem_cons_of_mem _ List.mem_cons_self) rfl (fun w hc => ld1 ag9 hc)) rfl rfl rfl ?_; clear S a; intro a S
     refine l_pure S (p_sadd rfl rfl (by have h1 := mw.oS_bd (K := K) (St := St) hS; have h2 := mw.oM_bd (K := K) hFm; have h3 := mw.sdec_len (mw.oN_bd (K := K) hN); have h4 := mw.sdec_len (mw.oU_bd (K := K) (St := St) hNum); have h5 := mw.dtext_len (mw.oF K dv); have h6 : (⟨#[13, 10]⟩ : ByteArray).size = 2 := rfl; have h7 : (⟨#[63]⟩ : ByteArray).size = 1 := rfl; have h8 : (⟨#[58]⟩ : ByteArray).size = 1 := rfl; simp only [mw.sb, mw.sn, List.length_cons, List.length_nil]; omega)) rfl rfl rfl ?_; clear S a; intro a S
     have hcon := nm.blob_ wb _ B _ 61 (((mw.oM K Fm) ++ ⟨#[58]⟩) ++ (mw.oS K sv St)) (by have h1 := mw.oS_bd (K := K) (St := St) hS; have h2 := mw.oM_bd (K := K) hFm; have h3 : (⟨#[58]⟩ : ByteArray).size = 1 := rfl; (try simp only [mw.sb]); omega) H
     refine l_call S rfl rfl Tryz.func17 rfl rfl (hcon) rfl rfl rfl ?_
     rintro e w ⟨rfl, hH⟩
     refine ⟨_, rfl, ?_⟩; clear S a; intro a S
     clear H hcon; have H := hH; clear hH
     refine l_mv 1 S rfl ?_; clear S a; intro a S
     refine l_nil ?_
     refine e_then ?_
     refine wp_ret ?_
     refine e_in_ret ?_
     refine e_then_ret ?_
     have eW : (strOfNums (px.blob 61 (((mw.oM K Fm) ++ ⟨#[58]⟩) ++ (mw.oS K sv St)))) = strOfNums (mw.mwire K sv nv dv Bo Fm Num St) := mw.wl3 c10 (h61 c10)
     rw [eW] at S
     exact r_ret1 S rfl rfl ⟨rfl, H.tail.tail⟩
    ·
     have c10 := bc10
     have c10 := ne_of_beq_false c10
     refine wp_seq ?_
     refine c_region ?_
     refine l_pure S (p_fieldAddr rfl (fun w => fa24_0 w _ _)) rfl rfl rfl ?_; clear S a; intro a S
     refine l_read S H (r_load rfl (List.mem_cons_of_mem _ List.mem_cons_self) rfl (fun w hc => ld1 ag3 hc)) rfl rfl rfl ?_; clear S a; intro a S
     refine l_pure S (p_conv rfl (fun w => cv_int Tryz.underlying3 Tryz.underlying5 (r := K) (by rw [IntKind.wrap_u8]; omega))) rfl rfl rfl ?_; clear S a; intro a S
     have hcon := blob_ wb _ B _ K H
     refine l_call S rfl rfl Tryz.func10 rfl rfl (hcon) rfl rfl rfl ?_
     rintro e w ⟨rfl, hH⟩
     refine ⟨_, rfl, ?_⟩; clear S a; intro a S
     clear H hcon; have H := hH; clear hH
     refine l_mv 1 S rfl ?_; clear S a; intro a S
     refine l_nil ?_
     refine e_then ?_
     refine c_cond S rfl (fun bc12 => ?_) (fun bc12 => ?_)
     ·
      have c12 := bc12
      refine wp_seq ?_
      refine c_region ?_
      refine l_pure S (p_fieldAddr rfl (fun w => fa24_0 w _ _)) rfl rfl rfl ?_; clear S a; intro a S
      refine l_read S H (r_load rfl (List.mem_cons_of_mem _ List.mem_cons_self) rfl (fun w hc => ld1 ag3 hc)) rfl rfl rfl ?_; clear S a; intro a S
      refine l_pure S (p_conv rfl (fun w => cv_int Tryz.underlying3 Tryz.underlying5 (r := K) (by rw [IntKind.wrap_u8]; omega))) rfl rfl rfl ?_; clear S a; intro a S
      refine l_pure S (p_fieldAddr rfl (fun w => fa24_1 w _ _)) rfl rfl rfl ?_; clear S a; intro a S
      refine l_read S H (r_load rfl (List.mem_cons_of_mem _ List.mem_cons_self) rfl (fun w hc => ld1 ag9 hc)) rfl rfl rfl ?_; clear S a; intro a S
      have hcon := nm.blob_ wb _ B _ K (mw.oS K sv St) (by have h1 := mw.oS_bd (K := K) (St := St) hS; have h2 := mw.oM_bd (K := K) hFm; have h3 : (⟨#[58]⟩ : ByteArray).size = 1 := rfl; (try simp only [mw.sb]); omega) H
      refine l_call S rfl rfl Tryz.func17 rfl rfl (hcon) rfl rfl rfl ?_
      rintro e w ⟨rfl, hH⟩
      refine ⟨_, rfl, ?_⟩; clear S a; intro a S
      clear H hcon; have H := hH; clear hH
      refine l_mv 1 S rfl ?_; clear S a; intro a S
      refine l_nil ?_
      refine e_then ?_
      refine wp_ret ?_
      refine e_in_ret ?_
      refine e_then_ret ?_
      have eW : (strOfNums (px.blob K (mw.oS K sv St))) = strOfNums (mw.mwire K sv nv dv Bo Fm Num St) := mw.wl4 hK bc4 (by omega) c10 bc12
      rw [eW] at S
      exact r_ret1 S rfl rfl ⟨rfl, H.tail.tail⟩
     ·
      have c12 := bc12
      refine wp_seq ?_
      refine c_region ?_
      refine l_pure S (p_fieldAddr rfl (fun w => fa24_0 w _ _)) rfl rfl rfl ?_; clear S a; intro a S
      refine l_read S H (r_load rfl (List.mem_cons_of_mem _ List.mem_cons_self) rfl (fun w hc => ld1 ag3 hc)) rfl rfl rfl ?_; clear S a; intro a S
      refine l_pure S (p_eql rfl rfl) rfl rfl rfl ?_; clear S a; intro a S
      refine l_mv 1 S rfl ?_; clear S a; intro a S
      refine l_split (S.of 53 rfl) (fun bc14 => ?_) (fun bc14 => ?_)
      ·
       have c14 := bc14
       have c14 := eq_of_beq c14
       refine l_off S rfl rfl rfl rfl bc14 rfl rfl ?_; clear S a; intro a S
       refine l_off S rfl rfl rfl rfl bc14 rfl rfl ?_; clear S a; intro a S
       refine l_off S rfl rfl rfl rfl bc14 rfl rfl ?_; clear S a; intro a S
       refine l_pure S (p_pick_t rfl bc14 rfl) rfl rfl rfl ?_; clear S a; intro a S
       refine l_mv 1 S rfl ?_; clear S a; intro a S
       refine l_nil ?_
       refine e_then ?_
       refine c_cond (b := true) S rfl (fun _ => ?_) (fun h => by cases h)
       refine wp_seq ?_
       refine c_region ?_
       refine l_mv 1 S rfl ?_; clear S a; intro a S
       refine l_pure S (p_fieldAddr rfl (fun w => fa24_1 w _ _)) rfl rfl rfl ?_; clear S a; intro a S
       refine l_read S H (r_load rfl (List.mem_cons_of_mem _ List.mem_cons_self) rfl (fun w hc => ld1 ag9 hc)) rfl rfl rfl ?_; clear S a; intro a S
       refine l_pure S (p_sadd rfl rfl (by have h1 := mw.oS_bd (K := K) (St := St) hS; have h2 := mw.oM_bd (K := K) hFm; have h3 := mw.sdec_len (mw.oN_bd (K := K) hN); have h4 := mw.sdec_len (mw.oU_bd (K := K) (St := St) hNum); have h5 := mw.dtext_len (mw.oF K dv); have h6 : (⟨#[13, 10]⟩ : ByteArray).size = 2 := rfl; have h7 : (⟨#[63]⟩ : ByteArray).size = 1 := rfl; have h8 : (⟨#[58]⟩ : ByteArray).size = 1 := rfl; simp only [mw.sb, mw.sn, List.length_cons, List.length_nil]; omega)) rfl rfl rfl ?_; clear S a; intro a S
       refine l_pure S (p_sadd rfl rfl (by have h1 := mw.oS_bd (K := K) (St := St) hS; have h2 := mw.oM_bd (K := K) hFm; have h3 := mw.sdec_len (mw.oN_bd (K := K) hN); have h4 := mw.sdec_len (mw.oU_bd (K := K) (St := St) hNum); have h5 := mw.dtext_len (mw.oF K dv); have h6 : (⟨#[13, 10]⟩ : ByteArray).size = 2 := rfl; have h7 : (⟨#[63]⟩ : ByteArray).size = 1 := rfl; have h8 : (⟨#[58]⟩ : ByteArray).size = 1 := rfl; simp only [mw.sb, mw.sn, List.length_cons, List.length_nil]; omega)) rfl rfl rfl ?_; clear S a; intro a S
       refine l_mv 1 S rfl ?_; clear S a; intro a S
       refine l_nil ?_
       refine e_then ?_
       refine wp_ret ?_
       refine e_in_ret ?_
       refine e_then_ret ?_
       have eW : (((strOfNums [K]) ++ (mw.oS K sv St)) ++ ⟨#[13, 10]⟩) = strOfNums (mw.mwire K sv nv dv Bo Fm Num St) := mw.wl5 (by omega)
       rw [eW] at S
       exact r_ret1 S rfl rfl ⟨rfl, H.tail.tail⟩
      ·
       have c14 := bc14
       have c14 := ne_of_beq_false c14
       refine l_on S rfl rfl rfl rfl bc14 ?_
       refine l_pure S (p_fieldAddr rfl (fun w => fa24_0 w _ _)) rfl rfl rfl ?_; clear S a; intro a S
       refine l_on S rfl rfl rfl rfl bc14 ?_
       refine l_read S H (r_load rfl (List.mem_cons_of_mem _ List.mem_cons_self) rfl (fun w hc => ld1 ag3 hc)) rfl rfl rfl ?_; clear S a; intro a S
       refine l_on S rfl rfl rfl rfl bc14 ?_
       refine l_pure S (p_eql rfl rfl) rfl rfl rfl ?_; clear S a; intro a S
       refine l_pure S (p_pick_f rfl bc14 rfl) rfl rfl rfl ?_; clear S a; intro a S
       refine l_mv 1 S rfl ?_; clear S a; intro a S
       refine l_nil ?_
       refine e_then ?_
       refine c_cond S rfl (fun bc18 => ?_) (fun bc18 => ?_)
       ·
        have c18 := bc18
        have c18 := eq_of_beq c18
        refine wp_seq ?_
        refine c_region ?_
        refine l_mv 1 S rfl ?_; clear S a; intro a S
        refine l_pure S (p_fieldAddr rfl (fun w => fa24_1 w _ _)) rfl rfl rfl ?_; clear S a; intro a S
        refine l_read S H (r_load rfl (List.mem_cons_of_mem _ List.mem_cons_self) rfl (fun w hc => ld1 ag9 hc)) rfl rfl rfl ?_; clear S a; intro a S
        refine l_pure S (p_sadd rfl rfl (by have h1 := mw.oS_bd (K := K) (St := St) hS; have h2 := mw.oM_bd (K := K) hFm; have h3 := mw.sdec_len (mw.oN_bd (K := K) hN); have h4 := mw.sdec_len (mw.oU_bd (K := K) (St := St) hNum); have h5 := mw.dtext_len (mw.oF K dv); have h6 : (⟨#[13, 10]⟩ : ByteArray).size = 2 := rfl; have h7 : (⟨#[63]⟩ : ByteArray).size = 1 := rfl; have h8 : (⟨#[58]⟩ : ByteArray).size = 1 := rfl; simp only [mw.sb, mw.sn, List.length_cons, List.length_nil]; omega)) rfl rfl rfl ?_; clear S a; intro a S
        refine l_pure S (p_sadd rfl rfl (by have h1 := mw.oS_bd (K := K) (St := St) hS; have h2 := mw.oM_bd (K := K) hFm; have h3 := mw.sdec_len (mw.oN_bd (K := K) hN); have h4 := mw.sdec_len (mw.oU_bd (K := K) (St := St) hNum); have h5 := mw.dtext_len (mw.oF K dv); have h6 : (⟨#[13, 10]⟩ : ByteArray).size = 2 := rfl; have h7 : (⟨#[63]⟩ : ByteArray).size = 1 := rfl; have h8 : (⟨#[58]⟩ : ByteArray).size = 1 := rfl; simp only [mw.sb, mw.sn, List.length_cons, List.length_nil]; omega)) rfl rfl rfl ?_; clear S a; intro a S
        refine l_mv 1 S rfl ?_; clear S a; intro a S
        refine l_nil ?_
        refine e_then ?_
        refine wp_ret ?_
        refine e_in_ret ?_
        refine e_then_ret ?_
        have eW : (((strOfNums [K]) ++ (mw.oS K sv St)) ++ ⟨#[13, 10]⟩) = strOfNums (mw.mwire K sv nv dv Bo Fm Num St) := mw.wl5 (by omega)
        rw [eW] at S
        exact r_ret1 S rfl rfl ⟨rfl, H.tail.tail⟩
       ·
        have c18 := bc18
        have c18 := ne_of_beq_false c18
        refine wp_seq ?_
        refine c_region ?_
        refine l_pure S (p_fieldAddr rfl (fun w => fa24_0 w _ _)) rfl rfl rfl ?_; clear S a; intro a S
        refine l_read S H (r_load rfl (List.mem_cons_of_mem _ List.mem_cons_self) rfl (fun w hc => ld1 ag3 hc)) rfl rfl rfl ?_; clear S a; intro a S
        refine l_pure S (p_eql rfl rfl) rfl rfl rfl ?_; clear S a; intro a S
        refine l_mv 1 S rfl ?_; clear S a; intro a S
        refine l_nil ?_
        refine e_then ?_
        refine c_cond S rfl (fun bc20 => ?_) (fun bc20 => ?_)
        ·
         have c20 := bc20
         have c20 := eq_of_beq c20
         refine wp_seq ?_
         refine c_region ?_
         refine l_mv 1 S rfl ?_; clear S a; intro a S
         refine l_pure S (p_fieldAddr rfl (fun w => fa24_2 w _ _)) rfl rfl rfl ?_; clear S a; intro a S
         refine l_read S H (r_load rfl (List.mem_cons_of_mem _ List.mem_cons_self) rfl (fun w hc => ld1 ag2 hc)) rfl rfl rfl ?_; clear S a; intro a S
         have hcon := nm.sgd_ wb _ B _ (mw.oN K nv) (mw.oN_bd hN) H
         refine l_call S rfl rfl Tryz.func18 rfl rfl (hcon) rfl rfl rfl ?_
         rintro e w ⟨rfl, hH⟩
         refine ⟨_, rfl, ?_⟩; clear S a; intro a S
         clear H hcon; have H := hH; clear hH
         refine l_pure S (p_sadd rfl rfl (by have h1 := mw.oS_bd (K := K) (St := St) hS; have h2 := mw.oM_bd (K := K) hFm; have h3 := mw.sdec_len (mw.oN_bd (K := K) hN); have h4 := mw.sdec_len (mw.oU_bd (K := K) (St := St) hNum); have h5 := mw.dtext_len (mw.oF K dv); have h6 : (⟨#[13, 10]⟩ : ByteArray).size = 2 := rfl; have h7 : (⟨#[63]⟩ : ByteArray).size = 1 := rfl; have h8 : (⟨#[58]⟩ : ByteArray).size = 1 := rfl; simp only [mw.sb, mw.sn, List.length_cons, List.length_nil]; omega)) rfl rfl rfl ?_; clear S a; intro a S
         refine l_pure S (p_sadd rfl rfl (by have h1 := mw.oS_bd (K := K) (St := St) hS; have h2 := mw.oM_bd (K := K) hFm; have h3 := mw.sdec_len (mw.oN_bd (K := K) hN); have h4 := mw.sdec_len (mw.oU_bd (K := K) (St := St) hNum); have h5 := mw.dtext_len (mw.oF K dv); have h6 : (⟨#[13, 10]⟩ : ByteArray).size = 2 := rfl; have h7 : (⟨#[63]⟩ : ByteArray).size = 1 := rfl; have h8 : (⟨#[58]⟩ : ByteArray).size = 1 := rfl; simp only [mw.sb, mw.sn, List.length_cons, List.length_nil]; omega)) rfl rfl rfl ?_; clear S a; intro a S
         refine l_mv 1 S rfl ?_; clear S a; intro a S
         refine l_nil ?_
         refine e_then ?_
         refine wp_ret ?_
         refine e_in_ret ?_
         refine e_then_ret ?_
         have eW : (((strOfNums [K]) ++ (strOfNums (mw.sdec (mw.oN K nv)))) ++ ⟨#[13, 10]⟩) = strOfNums (mw.mwire K sv nv dv Bo Fm Num St) := mw.wl6 c20
         rw [eW] at S
         exact r_ret1 S rfl rfl ⟨rfl, H.tail.tail⟩
        ·
         have c20 := bc20
         have c20 := ne_of_beq_false c20
         refine wp_seq ?_
         refine c_region ?_
         refine l_pure S (p_fieldAddr rfl (fun w => fa24_0 w _ _)) rfl rfl rfl ?_; clear S a; intro a S
         refine l_read S H (r_load rfl (List.mem_cons_of_mem _ List.mem_cons_self) rfl (fun w hc => ld1 ag3 hc)) rfl rfl rfl ?_; clear S a; intro a S
         refine l_pure S (p_eql rfl rfl) rfl rfl rfl ?_; clear S a; intro a S
         refine l_mv 1 S rfl ?_; clear S a; intro a S
         refine l_nil ?_
         refine e_then ?_
         refine c_cond S rfl (fun bc22 => ?_) (fun bc22 => ?_)
         ·
          have c22 := bc22
          have c22 := eq_of_beq c22
          refine wp_seq ?_
          refine c_region ?_
          refine l_mv 1 S rfl ?_; clear S a; intro a S
          refine l_pure S (p_fieldAddr rfl (fun w => fa24_3 w _ _)) rfl rfl rfl ?_; clear S a; intro a S
          refine l_read S H (r_load rfl (List.mem_cons_of_mem _ List.mem_cons_self) rfl (fun w hc => ld1 ag22 hc)) rfl rfl rfl ?_; clear S a; intro a S
          have hcon := nm.dtx_ wb _ B _ ht hT (mw.oF K dv) (mw.oF_bd hF) H
          refine l_call S rfl rfl Tryz.func19 rfl rfl (hcon) rfl rfl rfl ?_
          rintro e w ⟨rfl, hH⟩
          refine ⟨_, rfl, ?_⟩; clear S a; intro a S
          clear H hcon; have H := hH; clear hH
          refine l_pure S (p_sadd rfl rfl (by have h1 := mw.oS_bd (K := K) (St := St) hS; have h2 := mw.oM_bd (K := K) hFm; have h3 := mw.sdec_len (mw.oN_bd (K := K) hN); have h4 := mw.sdec_len (mw.oU_bd (K := K) (St := St) hNum); have h5 := mw.dtext_len (mw.oF K dv); have h6 : (⟨#[13, 10]⟩ : ByteArray).size = 2 := rfl; have h7 : (⟨#[63]⟩ : ByteArray).size = 1 := rfl; have h8 : (⟨#[58]⟩ : ByteArray).size = 1 := rfl; simp only [mw.sb, mw.sn, List.length_cons, List.length_nil]; omega)) rfl rfl rfl ?_; clear S a; intro a S
          refine l_pure S (p_sadd rfl rfl (by have h1 := mw.oS_bd (K := K) (St := St) hS; have h2 := mw.oM_bd (K := K) hFm; have h3 := mw.sdec_len (mw.oN_bd (K := K) hN); have h4 := mw.sdec_len (mw.oU_bd (K := K) (St := St) hNum); have h5 := mw.dtext_len (mw.oF K dv); have h6 : (⟨#[13, 10]⟩ : ByteArray).size = 2 := rfl; have h7 : (⟨#[63]⟩ : ByteArray).size = 1 := rfl; have h8 : (⟨#[58]⟩ : ByteArray).size = 1 := rfl; simp only [mw.sb, mw.sn, List.length_cons, List.length_nil]; omega)) rfl rfl rfl ?_; clear S a; intro a S
          refine l_mv 1 S rfl ?_; clear S a; intro a S
          refine l_nil ?_
          refine e_then ?_
          refine wp_ret ?_
          refine e_in_ret ?_
          refine e_then_ret ?_
          have eW : (((strOfNums [K]) ++ (strOfNums (mw.dtext (mw.oF K dv)))) ++ ⟨#[13, 10]⟩) = strOfNums (mw.mwire K sv nv dv Bo Fm Num St) := mw.wl7 c22
          rw [eW] at S
          exact r_ret1 S rfl rfl ⟨rfl, H.tail.tail⟩
         ·
          have c22 := bc22
          have c22 := ne_of_beq_false c22
          refine wp_seq ?_
          refine c_region ?_
          refine l_pure S (p_fieldAddr rfl (fun w => fa24_0 w _ _)) rfl rfl rfl ?_; clear S a; intro a S
          refine l_read S H (r_load rfl (List.mem_cons_of_mem _ List.mem_cons_self) rfl (fun w hc => ld1 ag3 hc)) rfl rfl rfl ?_; clear S a; intro a S
          refine l_pure S (p_eql rfl rfl) rfl rfl rfl ?_; clear S a; intro a S
          refine l_mv 1 S rfl ?_; clear S a; intro a S
          refine l_split (S.of 87 rfl) (fun bc24 => ?_) (fun bc24 => ?_)
          ·
           have c24 := bc24
           have c24 := eq_of_beq c24
           refine l_on S rfl rfl rfl rfl bc24 ?_
           refine l_pure S (p_fieldAddr rfl (fun w => fa24_4 w _ _)) rfl rfl rfl ?_; clear S a; intro a S
           refine l_on S rfl rfl rfl rfl bc24 ?_
           refine l_read S H (r_load rfl (List.mem_cons_of_mem _ List.mem_cons_self) rfl (fun w hc => ld1 ag4 hc)) rfl rfl rfl ?_; clear S a; intro a S
           refine l_pure S (p_pick_t rfl bc24 rfl) rfl rfl rfl ?_; clear S a; intro a S
           refine l_mv 1 S rfl ?_; clear S a; intro a S
           refine l_nil ?_
           refine e_then ?_
           refine c_cond S rfl (fun bc26 => ?_) (fun bc26 => ?_)
           ·
            have c26 := bc26
            refine wp_seq ?_
            refine c_region ?_
            refine l_mv 1 S rfl ?_; clear S a; intro a S
            refine l_nil ?_
            refine e_then ?_
            refine wp_ret ?_
            refine e_in_ret ?_
            refine e_then_ret ?_
            have eW : (⟨#[35, 116, 13, 10]⟩ : ByteArray) = strOfNums (mw.mwire K sv nv dv Bo Fm Num St) := mw.wl8 (by omega) bc26
            rw [eW] at S
            exact r_ret1 S rfl rfl ⟨rfl, H.tail.tail⟩
           ·
            have c26 := bc26
            refine wp_seq ?_
            refine c_region ?_
            refine l_pure S (p_fieldAddr rfl (fun w => fa24_0 w _ _)) rfl rfl rfl ?_; clear S a; intro a S
            refine l_read S H (r_load rfl (List.mem_cons_of_mem _ List.mem_cons_self) rfl (fun w hc => ld1 ag3 hc)) rfl rfl rfl ?_; clear S a; intro a S
            refine l_pure S (p_eql rfl rfl) rfl rfl rfl ?_; clear S a; intro a S
            refine l_mv 1 S rfl ?_; clear S a; intro a S
            refine l_nil ?_
            refine e_then ?_
            refine c_cond S rfl (fun bc28 => ?_) (fun bc28 => ?_)
            ·
             have c28 := bc28
             have c28 := eq_of_beq c28
             refine wp_seq ?_
             refine c_region ?_
             refine l_mv 1 S rfl ?_; clear S a; intro a S
             refine l_nil ?_
             refine e_then ?_
             refine wp_ret ?_
             refine e_in_ret ?_
             refine e_then_ret ?_
             have eW : (⟨#[35, 102, 13, 10]⟩ : ByteArray) = strOfNums (mw.mwire K sv nv dv Bo Fm Num St) := mw.wl9 (by omega) (by first | assumption | (simp_all; done))
             rw [eW] at S
             exact r_ret1 S rfl rfl ⟨rfl, H.tail.tail⟩
            ·
             have c28 := bc28
             have c28 := ne_of_beq_false c28
             refine wp_seq ?_
             refine c_region ?_
             refine l_pure S (p_fieldAddr rfl (fun w => fa24_0 w _ _)) rfl rfl rfl ?_; clear S a; intro a S
             refine l_read S H (r_load rfl (List.mem_cons_of_mem _ List.mem_cons_self) rfl (fun w hc => ld1 ag3 hc)) rfl rfl rfl ?_; clear S a; intro a S
             refine l_pure S (p_eql rfl rfl) rfl rfl rfl ?_; clear S a; intro a S
             refine l_mv 1 S rfl ?_; clear S a; intro a S
             refine l_split (S.of 99 rfl) (fun bc30 => ?_) (fun bc30 => ?_)
             ·
              have c30 := bc30
              have c30 := eq_of_beq c30
              refine l_off S rfl rfl rfl rfl bc30 rfl rfl ?_; clear S a; intro a S
              refine l_off S rfl rfl rfl rfl bc30 rfl rfl ?_; clear S a; intro a S
              refine l_off S rfl rfl rfl rfl bc30 rfl rfl ?_; clear S a; intro a S
              refine l_pure S (p_pick_t rfl bc30 rfl) rfl rfl rfl ?_; clear S a; intro a S
              refine l_mv 1 S rfl ?_; clear S a; intro a S
              refine l_nil ?_
              refine e_then ?_
              refine c_cond (b := true) S rfl (fun _ => ?_) (fun h => by cases h)
              refine wp_seq ?_
              refine c_region ?_
              refine l_mv 1 S rfl ?_; clear S a; intro a S
              refine l_pure S (p_sadd rfl rfl (by have h1 := mw.oS_bd (K := K) (St := St) hS; have h2 := mw.oM_bd (K := K) hFm; have h3 := mw.sdec_len (mw.oN_bd (K := K) hN); have h4 := mw.sdec_len (mw.oU_bd (K := K) (St := St) hNum); have h5 := mw.dtext_len (mw.oF K dv); have h6 : (⟨#[13, 10]⟩ : ByteArray).size = 2 := rfl; have h7 : (⟨#[63]⟩ : ByteArray).size = 1 := rfl; have h8 : (⟨#[58]⟩ : ByteArray).size = 1 := rfl; simp only [mw.sb, mw.sn, List.length_cons, List.length_nil]; omega)) rfl rfl rfl ?_; clear S a; intro a S
              refine l_mv 1 S rfl ?_; clear S a; intro a S
              refine l_nil ?_
              refine e_then ?_
              refine wp_ret ?_
              refine e_in_ret ?_
              refine e_then_ret ?_
              have eW : ((strOfNums [K]) ++ ⟨#[13, 10]⟩) = strOfNums (mw.mwire K sv nv dv Bo Fm Num St) := mw.wl10 (by omega)
              rw [eW] at S
              exact r_ret1 S rfl rfl ⟨rfl, H.tail.tail⟩
             ·
              have c30 := bc30
              have c30 := ne_of_beq_false c30
              refine l_on S rfl rfl rfl rfl bc30 ?_
              refine l_pure S (p_fieldAddr rfl (fun w => fa24_0 w _ _)) rfl rfl rfl ?_; clear S a; intro a S
              refine l_on S rfl rfl rfl rfl bc30 ?_
              refine l_read S H (r_load rfl (List.mem_cons_of_mem _ List.mem_cons_self) rfl (fun w hc => ld1 ag3 hc)) rfl rfl rfl ?_; clear S a; intro a S
              refine l_on S rfl rfl rfl rfl bc30 ?_
              refine l_pure S (p_eql rfl rfl) rfl rfl rfl ?_; clear S a; intro a S
              refine l_pure S (p_pick_f rfl bc30 rfl) rfl rfl rfl ?_; clear S a; intro a S
              refine l_mv 1 S rfl ?_; clear S a; intro a S
              refine l_nil ?_
              refine e_then ?_
              refine c_cond S rfl (fun bc34 => ?_) (fun bc34 => ?_)
              ·
               have c34 := bc34
               have c34 := eq_of_beq c34
               refine wp_seq ?_
               refine c_region ?_
               refine l_mv 1 S rfl ?_; clear S a; intro a S
               refine l_pure S (p_sadd rfl rfl (by have h1 := mw.oS_bd (K := K) (St := St) hS; have h2 := mw.oM_bd (K := K) hFm; have h3 := mw.sdec_len (mw.oN_bd (K := K) hN); have h4 := mw.sdec_len (mw.oU_bd (K := K) (St := St) hNum); have h5 := mw.dtext_len (mw.oF K dv); have h6 : (⟨#[13, 10]⟩ : ByteArray).size = 2 := rfl; have h7 : (⟨#[63]⟩ : ByteArray).size = 1 := rfl; have h8 : (⟨#[58]⟩ : ByteArray).size = 1 := rfl; simp only [mw.sb, mw.sn, List.length_cons, List.length_nil]; omega)) rfl rfl rfl ?_; clear S a; intro a S
               refine l_mv 1 S rfl ?_; clear S a; intro a S
               refine l_nil ?_
               refine e_then ?_
               refine wp_ret ?_
               refine e_in_ret ?_
               refine e_then_ret ?_
               have eW : ((strOfNums [K]) ++ ⟨#[13, 10]⟩) = strOfNums (mw.mwire K sv nv dv Bo Fm Num St) := mw.wl10 (by omega)
               rw [eW] at S
               exact r_ret1 S rfl rfl ⟨rfl, H.tail.tail⟩
              ·
               have c34 := bc34
               have c34 := ne_of_beq_false c34
               refine wp_skip ?_
               refine e_in 0 ?_
               refine e_then ?_
               refine wp_seq ?_
               refine c_region ?_
               refine l_mv 1 S rfl ?_; clear S a; intro a S
               refine l_pure S (p_fieldAddr rfl (fun w => fa24_6 w _ _)) rfl rfl rfl ?_; clear S a; intro a S
               refine l_read S H (r_load rfl (List.mem_cons_of_mem _ List.mem_cons_self) rfl (fun w hc => ld1 ag3 hc)) rfl rfl rfl ?_; clear S a; intro a S
               have hcon := nm.sgd_ wb _ B _ (mw.oU K Num St) (mw.oU_bd hNum) H
               refine l_call S rfl rfl Tryz.func18 rfl rfl (hcon) rfl rfl rfl ?_
               rintro e w ⟨rfl, hH⟩
               refine ⟨_, rfl, ?_⟩; clear S a; intro a S
               clear H hcon; have H := hH; clear hH
               refine l_pure S (p_sadd rfl rfl (by have h1 := mw.oS_bd (K := K) (St := St) hS; have h2 := mw.oM_bd (K := K) hFm; have h3 := mw.sdec_len (mw.oN_bd (K := K) hN); have h4 := mw.sdec_len (mw.oU_bd (K := K) (St := St) hNum); have h5 := mw.dtext_len (mw.oF K dv); have h6 : (⟨#[13, 10]⟩ : ByteArray).size = 2 := rfl; have h7 : (⟨#[63]⟩ : ByteArray).size = 1 := rfl; have h8 : (⟨#[58]⟩ : ByteArray).size = 1 := rfl; simp only [mw.sb, mw.sn, List.length_cons, List.length_nil]; omega)) rfl rfl rfl ?_; clear S a; intro a S
               refine l_pure S (p_sadd rfl rfl (by have h1 := mw.oS_bd (K := K) (St := St) hS; have h2 := mw.oM_bd (K := K) hFm; have h3 := mw.sdec_len (mw.oN_bd (K := K) hN); have h4 := mw.sdec_len (mw.oU_bd (K := K) (St := St) hNum); have h5 := mw.dtext_len (mw.oF K dv); have h6 : (⟨#[13, 10]⟩ : ByteArray).size = 2 := rfl; have h7 : (⟨#[63]⟩ : ByteArray).size = 1 := rfl; have h8 : (⟨#[58]⟩ : ByteArray).size = 1 := rfl; simp only [mw.sb, mw.sn, List.length_cons, List.length_nil]; omega)) rfl rfl rfl ?_; clear S a; intro a S
               refine l_mv 1 S rfl ?_; clear S a; intro a S
               refine l_nil ?_
               refine e_then ?_
               refine wp_ret ?_
               have eW : (((strOfNums [K]) ++ (strOfNums (mw.sdec (mw.oU K Num St)))) ++ ⟨#[13, 10]⟩) = strOfNums (mw.mwire K sv nv dv Bo Fm Num St) := mw.wl11 hK bc4 (by assumption) (by omega)
               rw [eW] at S
               exact r_ret1 S rfl rfl ⟨rfl, H.tail.tail⟩
          ·
           have c24 := bc24
           have c24 := ne_of_beq_false c24
           refine l_off S rfl rfl rfl rfl bc24 rfl rfl ?_; clear S a; intro a S
           refine l_off S rfl rfl rfl rfl bc24 rfl rfl ?_; clear S a; intro a S
           refine l_pure S (p_pick_f rfl bc24 rfl) rfl rfl rfl ?_; clear S a; intro a S
           refine l_mv 1 S rfl ?_; clear S a; intro a S
           refine l_nil ?_
           refine e_then ?_
           refine c_cond (b := false) S rfl (fun h => by cases h) (fun _ => ?_)
           refine wp_seq ?_
           refine c_region ?_
           refine l_pure S (p_fieldAddr rfl (fun w => fa24_0 w _ _)) rfl rfl rfl ?_; clear S a; intro a S
           refine l_read S H (r_load rfl (List.mem_cons_of_mem _ List.mem_cons_self) rfl (fun w hc => ld1 ag3 hc)) rfl rfl rfl ?_; clear S a; intro a S
           refine l_pure S (p_eql rfl rfl) rfl rfl rfl ?_; clear S a; intro a S
           refine l_mv 1 S rfl ?_; clear S a; intro a S
           refine l_nil ?_
           refine e_then ?_
           refine c_cond S rfl (fun bc38 => ?_) (fun bc38 => ?_)
           ·
            have c38 := bc38
            have c38 := eq_of_beq c38
            refine wp_seq ?_
            refine c_region ?_
            refine l_mv 1 S rfl ?_; clear S a; intro a S
            refine l_nil ?_
            refine e_then ?_
            refine wp_ret ?_
            refine e_in_ret ?_
            refine e_then_ret ?_
            have eW : (⟨#[35, 102, 13, 10]⟩ : ByteArray) = strOfNums (mw.mwire K sv nv dv Bo Fm Num St) := mw.wl9 (by omega) (by first | assumption | (simp_all; done))
            rw [eW] at S
            exact r_ret1 S rfl rfl ⟨rfl, H.tail.tail⟩
           ·
            have c38 := bc38
            have c38 := ne_of_beq_false c38
            refine wp_seq ?_
            refine c_region ?_
            refine l_pure S (p_fieldAddr rfl (fun w => fa24_0 w _ _)) rfl rfl rfl ?_; clear S a; intro a S
            refine l_read S H (r_load rfl (List.mem_cons_of_mem _ List.mem_cons_self) rfl (fun w hc => ld1 ag3 hc)) rfl rfl rfl ?_; clear S a; intro a S
            refine l_pure S (p_eql rfl rfl) rfl rfl rfl ?_; clear S a; intro a S
            refine l_mv 1 S rfl ?_; clear S a; intro a S
            refine l_split (S.of 99 rfl) (fun bc40 => ?_) (fun bc40 => ?_)
            ·
             have c40 := bc40
             have c40 := eq_of_beq c40
             refine l_off S rfl rfl rfl rfl bc40 rfl rfl ?_; clear S a; intro a S
             refine l_off S rfl rfl rfl rfl bc40 rfl rfl ?_; clear S a; intro a S
             refine l_off S rfl rfl rfl rfl bc40 rfl rfl ?_; clear S a; intro a S
             refine l_pure S (p_pick_t rfl bc40 rfl) rfl rfl rfl ?_; clear S a; intro a S
             refine l_mv 1 S rfl ?_; clear S a; intro a S
             refine l_nil ?_
             refine e_then ?_
             refine c_cond (b := true) S rfl (fun _ => ?_) (fun h => by cases h)
             refine wp_seq ?_
             refine c_region ?_
             refine l_mv 1 S rfl ?_; clear S a; intro a S
             refine l_pure S (p_sadd rfl rfl (by have h1 := mw.oS_bd (K := K) (St := St) hS; have h2 := mw.oM_bd (K := K) hFm; have h3 := mw.sdec_len (mw.oN_bd (K := K) hN); have h4 := mw.sdec_len (mw.oU_bd (K := K) (St := St) hNum); have h5 := mw.dtext_len (mw.oF K dv); have h6 : (⟨#[13, 10]⟩ : ByteArray).size = 2 := rfl; have h7 : (⟨#[63]⟩ : ByteArray).size = 1 := rfl; have h8 : (⟨#[58]⟩ : ByteArray).size = 1 := rfl; simp only [mw.sb, mw.sn, List.length_cons, List.length_nil]; omega)) rfl rfl rfl ?_; clear S a; intro a S
             refine l_mv 1 S rfl ?_; clear S a; intro a S
             refine l_nil ?_
             refine e_then ?_
             refine wp_ret ?_
             refine e_in_ret ?_
             refine e_then_ret ?_
             have eW : ((strOfNums [K]) ++ ⟨#[13, 10]⟩) = strOfNums (mw.mwire K sv nv dv Bo Fm Num St) := mw.wl10 (by omega)
             rw [eW] at S
             exact r_ret1 S rfl rfl ⟨rfl, H.tail.tail⟩
            ·
             have c40 := bc40
             have c40 := ne_of_beq_false c40
             refine l_on S rfl rfl rfl rfl bc40 ?_
             refine l_pure S (p_fieldAddr rfl (fun w => fa24_0 w _ _)) rfl rfl rfl ?_; clear S a; intro a S
             refine l_on S rfl rfl rfl rfl bc40 ?_
             refine l_read S H (r_load rfl (List.mem_cons_of_mem _ List.mem_cons_self) rfl (fun w hc => ld1 ag3 hc)) rfl rfl rfl ?_; clear S a; intro a S
             refine l_on S rfl rfl rfl rfl bc40 ?_
             refine l_pure S (p_eql rfl rfl) rfl rfl rfl ?_; clear S a; intro a S
             refine l_pure S (p_pick_f rfl bc40 rfl) rfl rfl rfl ?_; clear S a; intro a S
             refine l_mv 1 S rfl ?_; clear S a; intro a S
             refine l_nil ?_
             refine e_then ?_
             refine c_cond S rfl (fun bc44 => ?_) (fun bc44 => ?_)
             ·
              have c44 := bc44
              have c44 := eq_of_beq c44
              refine wp_seq ?_
              refine c_region ?_
              refine l_mv 1 S rfl ?_; clear S a; intro a S
              refine l_pure S (p_sadd rfl rfl (by have h1 := mw.oS_bd (K := K) (St := St) hS; have h2 := mw.oM_bd (K := K) hFm; have h3 := mw.sdec_len (mw.oN_bd (K := K) hN); have h4 := mw.sdec_len (mw.oU_bd (K := K) (St := St) hNum); have h5 := mw.dtext_len (mw.oF K dv); have h6 : (⟨#[13, 10]⟩ : ByteArray).size = 2 := rfl; have h7 : (⟨#[63]⟩ : ByteArray).size = 1 := rfl; have h8 : (⟨#[58]⟩ : ByteArray).size = 1 := rfl; simp only [mw.sb, mw.sn, List.length_cons, List.length_nil]; omega)) rfl rfl rfl ?_; clear S a; intro a S
              refine l_mv 1 S rfl ?_; clear S a; intro a S
              refine l_nil ?_
              refine e_then ?_
              refine wp_ret ?_
              refine e_in_ret ?_
              refine e_then_ret ?_
              have eW : ((strOfNums [K]) ++ ⟨#[13, 10]⟩) = strOfNums (mw.mwire K sv nv dv Bo Fm Num St) := mw.wl10 (by omega)
              rw [eW] at S
              exact r_ret1 S rfl rfl ⟨rfl, H.tail.tail⟩
             ·
              have c44 := bc44
              have c44 := ne_of_beq_false c44
              refine wp_skip ?_
              refine e_in 0 ?_
              refine e_then ?_
              refine wp_seq ?_
              refine c_region ?_
              refine l_mv 1 S rfl ?_; clear S a; intro a S
              refine l_pure S (p_fieldAddr rfl (fun w => fa24_6 w _ _)) rfl rfl rfl ?_; clear S a; intro a S
              refine l_read S H (r_load rfl (List.mem_cons_of_mem _ List.mem_cons_self) rfl (fun w hc => ld1 ag3 hc)) rfl rfl rfl ?_; clear S a; intro a S
              have hcon := nm.sgd_ wb _ B _ (mw.oU K Num St) (mw.oU_bd hNum) H
              refine l_call S rfl rfl Tryz.func18 rfl rfl (hcon) rfl rfl rfl ?_
              rintro e w ⟨rfl, hH⟩
              refine ⟨_, rfl, ?_⟩; clear S a; intro a S
              clear H hcon; have H := hH; clear hH
              refine l_pure S (p_sadd rfl rfl (by have h1 := mw.oS_bd (K := K) (St := St) hS; have h2 := mw.oM_bd (K := K) hFm; have h3 := mw.sdec_len (mw.oN_bd (K := K) hN); have h4 := mw.sdec_len (mw.oU_bd (K := K) (St := St) hNum); have h5 := mw.dtext_len (mw.oF K dv); have h6 : (⟨#[13, 10]⟩ : ByteArray).size = 2 := rfl; have h7 : (⟨#[63]⟩ : ByteArray).size = 1 := rfl; have h8 : (⟨#[58]⟩ : ByteArray).size = 1 := rfl; simp only [mw.sb, mw.sn, List.length_cons, List.length_nil]; omega)) rfl rfl rfl ?_; clear S a; intro a S
              refine l_pure S (p_sadd rfl rfl (by have h1 := mw.oS_bd (K := K) (St := St) hS; have h2 := mw.oM_bd (K := K) hFm; have h3 := mw.sdec_len (mw.oN_bd (K := K) hN); have h4 := mw.sdec_len (mw.oU_bd (K := K) (St := St) hNum); have h5 := mw.dtext_len (mw.oF K dv); have h6 : (⟨#[13, 10]⟩ : ByteArray).size = 2 := rfl; have h7 : (⟨#[63]⟩ : ByteArray).size = 1 := rfl; have h8 : (⟨#[58]⟩ : ByteArray).size = 1 := rfl; simp only [mw.sb, mw.sn, List.length_cons, List.length_nil]; omega)) rfl rfl rfl ?_; clear S a; intro a S
              refine l_mv 1 S rfl ?_; clear S a; intro a S
              refine l_nil ?_
              refine e_then ?_
              refine wp_ret ?_
              have eW : (((strOfNums [K]) ++ (strOfNums (mw.sdec (mw.oU K Num St)))) ++ ⟨#[13, 10]⟩) = strOfNums (mw.mwire K sv nv dv Bo Fm Num St) := mw.wl11 hK bc4 (by assumption) (by omega)
              rw [eW] at S
              exact r_ret1 S rfl rfl ⟨rfl, H.tail.tail⟩
  ·
   have c6 := bc6
   have c6 := ne_of_beq_false c6
   refine l_off S rfl rfl rfl rfl bc6 rfl rfl ?_; clear S a; intro a S
   refine l_off S rfl rfl rfl rfl bc6 rfl rfl ?_; clear S a; intro a S
   refine l_off S rfl rfl rfl rfl bc6 rfl rfl ?_; clear S a; intro a S
   refine l_off S rfl rfl rfl rfl bc6 rfl rfl ?_; clear S a; intro a S
   refine l_pure S (p_pick_f rfl bc6 rfl) rfl rfl rfl ?_; clear S a; intro a S
   refine l_mv 1 S rfl ?_; clear S a; intro a S
   refine l_nil ?_
   refine e_then ?_
   refine c_cond (b := false) S rfl (fun h => by cases h) (fun _ => ?_)
   refine wp_seq ?_
   refine c_region ?_
   refine l_pure S (p_fieldAddr rfl (fun w => fa24_0 w _ _)) rfl rfl rfl ?_; clear S a; intro a S
   refine l_read S H (r_load rfl (List.mem_cons_of_mem _ List.mem_cons_self) rfl (fun w hc => ld1 ag3 hc)) rfl rfl rfl ?_; clear S a; intro a S
   refine l_pure S (p_eql rfl rfl) rfl rfl rfl ?_; clear S a; intro a S
   refine l_mv 1 S rfl ?_; clear S a; intro a S
   refine l_nil ?_
   refine e_then ?_
   refine c_cond S rfl (fun bc48 => ?_) (fun bc48 => ?_)
   ·
    have c48 := bc48
    have c48 := eq_of_beq c48
    refine wp_seq ?_
    refine c_region ?_
    refine l_pure S (p_fieldAddr rfl (fun w => fa24_5 w _ _)) rfl rfl rfl ?_; clear S a; intro a S
    refine l_read S H (r_load rfl (List.mem_cons_of_mem _ List.mem_cons_self) rfl (fun w hc => ld1 ag9 hc)) rfl rfl rfl ?_; clear S a; intro a S
    refine l_pure S (p_sadd rfl rfl (by have h1 := mw.oS_bd (K := K) (St := St) hS; have h2 := mw.oM_bd (K := K) hFm; have h3 := mw.sdec_len (mw.oN_bd (K := K) hN); have h4 := mw.sdec_len (mw.oU_bd (K := K) (St := St) hNum); have h5 := mw.dtext_len (mw.oF K dv); have h6 : (⟨#[13, 10]⟩ : ByteArray).size = 2 := rfl; have h7 : (⟨#[63]⟩ : ByteArray).size = 1 := rfl; have h8 : (⟨#[58]⟩ : ByteArray).size = 1 := rfl; simp only [mw.sb, mw.sn, List.length_cons, List.length_nil]; omega)) rfl rfl rfl ?_; clear S a; intro a S
    refine l_pure S (p_fieldAddr rfl (fun w => fa24_1 w _ _)) rfl rfl rfl ?_; clear S a; intro a S
    refine l_read S H (r_load rfl (List.mem_cons_of_mem _ List.mem_cons_self) rfl (fun w hc => ld1 ag9 hc)) rfl rfl rfl ?_; clear S a; intro a S
    refine l_pure S (p_sadd rfl rfl (by have h1 := mw.oS_bd (K := K) (St := St) hS; have h2 := mw.oM_bd (K := K) hFm; have h3 := mw.sdec_len (mw.oN_bd (K := K) hN); have h4 := mw.sdec_len (mw.oU_bd (K := K) (St := St) hNum); have h5 := mw.dtext_len (mw.oF K dv); have h6 : (⟨#[13, 10]⟩ : ByteArray).size = 2 := rfl; have h7 : (⟨#[63]⟩ : ByteArray).size = 1 := rfl; have h8 : (⟨#[58]⟩ : ByteArray).size = 1 := rfl; simp only [mw.sb, mw.sn, List.length_cons, List.length_nil]; omega)) rfl rfl rfl ?_; clear S a; intro a S
    have hcon := nm.blob_ wb _ B _ 61 (((mw.oM K Fm) ++ ⟨#[58]⟩) ++ (mw.oS K sv St)) (by have h1 := mw.oS_bd (K := K) (St := St) hS; have h2 := mw.oM_bd (K := K) hFm; have h3 : (⟨#[58]⟩ : ByteArray).size = 1 := rfl; (try simp only [mw.sb]); omega) H
    refine l_call S rfl rfl Tryz.func17 rfl rfl (hcon) rfl rfl rfl ?_
    rintro e w ⟨rfl, hH⟩
    refine ⟨_, rfl, ?_⟩; clear S a; intro a S
    clear H hcon; have H := hH; clear hH
    refine l_mv 1 S rfl ?_; clear S a; intro a S
    refine l_nil ?_
    refine e_then ?_
    refine wp_ret ?_
    refine e_in_ret ?_
    refine e_then_ret ?_
    have eW : (strOfNums (px.blob 61 (((mw.oM K Fm) ++ ⟨#[58]⟩) ++ (mw.oS K sv St)))) = strOfNums (mw.mwire K sv nv dv Bo Fm Num St) := mw.wl3 c48 (h61 c48)
    rw [eW] at S
    exact r_ret1 S rfl rfl ⟨rfl, H.tail.tail⟩
   ·
    have c48 := bc48
    have c48 := ne_of_beq_false c48
    refine wp_seq ?_
    refine c_region ?_
    refine l_pure S (p_fieldAddr rfl (fun w => fa24_0 w _ _)) rfl rfl rfl ?_; clear S a; intro a S
    refine l_read S H (r_load rfl (List.mem_cons_of_mem _ List.mem_cons_self) rfl (fun w hc => ld1 ag3 hc)) rfl rfl rfl ?_; clear S a; intro a S
    refine l_pure S (p_conv rfl (fun w => cv_int Tryz.underlying3 Tryz.underlying5 (r := K) (by rw [IntKind.wrap_u8]; omega))) rfl rfl rfl ?_; clear S a; intro a S
    have hcon := blob_ wb _ B _ K H
    refine l_call S rfl rfl Tryz.func10 rfl rfl (hcon) rfl rfl rfl ?_
    rintro e w ⟨rfl, hH⟩
    refine ⟨_, rfl, ?_⟩; clear S a; intro a S
    clear H hcon; have H := hH; clear hH
    refine l_mv 1 S rfl ?_; clear S a; intro a S
    refine l_nil ?_
    refine e_then ?_
    refine c_cond S rfl (fun bc50 => ?_) (fun bc50 => ?_)
    ·
     have c50 := bc50
     refine wp_seq ?_
     refine c_region ?_
     refine l_pure S (p_fieldAddr rfl (fun w => fa24_0 w _ _)) rfl rfl rfl ?_; clear S a; intro a S
     refine l_read S H (r_load rfl (List.mem_cons_of_mem _ List.mem_cons_self) rfl (fun w hc => ld1 ag3 hc)) rfl rfl rfl ?_; clear S a; intro a S
     refine l_pure S (p_conv rfl (fun w => cv_int Tryz.underlying3 Tryz.underlying5 (r := K) (by rw [IntKind.wrap_u8]; omega))) rfl rfl rfl ?_; clear S a; intro a S
     refine l_pure S (p_fieldAddr rfl (fun w => fa24_1 w _ _)) rfl rfl rfl ?_; clear S a; intro a S
     refine l_read S H (r_load rfl (List.mem_cons_of_mem _ List.mem_cons_self) rfl (fun w hc => ld1 ag9 hc)) rfl rfl rfl ?_; clear S a; intro a S
     have hcon := nm.blob_ wb _ B _ K (mw.oS K sv St) (by have h1 := mw.oS_bd (K := K) (St := St) hS; have h2 := mw.oM_bd (K := K) hFm; have h3 : (⟨#[58]⟩ : ByteArray).size = 1 := rfl; (try simp only [mw.sb]); omega) H
     refine l_call S rfl rfl Tryz.func17 rfl rfl (hcon) rfl rfl rfl ?_
     rintro e w ⟨rfl, hH⟩
     refine ⟨_, rfl, ?_⟩; clear S a; intro a S
     clear H hcon; have H := hH; clear hH
     refine l_mv 1 S rfl ?_; clear S a; intro a S
     refine l_nil ?_
     refine e_then ?_
     refine wp_ret ?_
     refine e_in_ret ?_
     refine e_then_ret ?_
     have eW : (strOfNums (px.blob K (mw.oS K sv St))) = strOfNums (mw.mwire K sv nv dv Bo Fm Num St) := mw.wl4 hK bc4 (by omega) c48 bc50
     rw [eW] at S
     exact r_ret1 S rfl rfl ⟨rfl, H.tail.tail⟩
    ·
     have c50 := bc50
     refine wp_seq ?_
     refine c_region ?_
     refine l_pure S (p_fieldAddr rfl (fun w => fa24_0 w _ _)) rfl rfl rfl ?_; clear S a; intro a S
     refine l_read S H (r_load rfl (List.mem_cons_of_mem _ List.mem_cons_self) rfl (fun w hc => ld1 ag3 hc)) rfl rfl rfl ?_; clear S a; intro a S
     refine l_pure S (p_eql rfl rfl) rfl rfl rfl ?_; clear S a; intro a S
     refine l_mv 1 S rfl ?_; clear S a; intro a S
     refine l_split (S.of 53 rfl) (fun bc52 => ?_) (fun bc52 => ?_)
     ·
      have c52 := bc52
      have c52 := eq_of_beq c52
      refine l_off S rfl rfl rfl rfl bc52 rfl rfl ?_; clear S a; intro a S
      refine l_off S rfl rfl rfl rfl bc52 rfl rfl ?_; clear S a; intro a S
      refine l_off S rfl rfl rfl rfl bc52 rfl rfl ?_; clear S a; intro a S
      refine l_pure S (p_pick_t rfl bc52 rfl) rfl rfl rfl ?_; clear S a; intro a S
      refine l_mv 1 S rfl ?_; clear S a; intro a S
      refine l_nil ?_
      refine e_then ?_
      refine c_cond (b := true) S rfl (fun _ => ?_) (fun h => by cases h)
      refine wp_seq ?_
      refine c_region ?_
      refine l_mv 1 S rfl ?_; clear S a; intro a S
      refine l_pure S (p_fieldAddr rfl (fun w => fa24_1 w _ _)) rfl rfl rfl ?_; clear S a; intro a S
      refine l_read S H (r_load rfl (List.mem_cons_of_mem _ List.mem_cons_self) rfl (fun w hc => ld1 ag9 hc)) rfl rfl rfl ?_; clear S a; intro a S
      refine l_pure S (p_sadd rfl rfl (by have h1 := mw.oS_bd (K := K) (St := St) hS; have h2 := mw.oM_bd (K := K) hFm; have h3 := mw.sdec_len (mw.oN_bd (K := K) hN); have h4 := mw.sdec_len (mw.oU_bd (K := K) (St := St) hNum); have h5 := mw.dtext_len (mw.oF K dv); have h6 : (⟨#[13, 10]⟩ : ByteArray).size = 2 := rfl; have h7 : (⟨#[63]⟩ : ByteArray).size = 1 := rfl; have h8 : (⟨#[58]⟩ : ByteArray).size = 1 := rfl; simp only [mw.sb, mw.sn, List.length_cons, List.length_nil]; omega)) rfl rfl rfl ?_; clear S a; intro a S
      refine l_pure S (p_sadd rfl rfl (by have h1 := mw.oS_bd (K := K) (St := St) hS; have h2 := mw.oM_bd (K := K) hFm; have h3 := mw.sdec_len (mw.oN_bd (K := K) hN); have h4 := mw.sdec_len (mw.oU_bd (K := K) (St := St) hNum); have h5 := mw.dtext_len (mw.oF K dv); have h6 : (⟨#[13, 10]⟩ : ByteArray).size = 2 := rfl; have h7 : (⟨#[63]⟩ : ByteArray).size = 1 := rfl; have h8 : (⟨#[58]⟩ : ByteArray).size = 1 := rfl; simp only [mw.sb, mw.sn, List.length_cons, List.length_nil]; omega)) rfl rfl rfl ?_; clear S a; intro a S
      refine l_mv 1 S rfl ?_; clear S a; intro a S
      refine l_nil ?_
      refine e_then ?_
      refine wp_ret ?_
      refine e_in_ret ?_
      refine e_then_ret ?_
      have eW : (((strOfNums [K]) ++ (mw.oS K sv St)) ++ ⟨#[13, 10]⟩) = strOfNums (mw.mwire K sv nv dv Bo Fm Num St) := mw.wl5 (by omega)
      rw [eW] at S
      exact r_ret1 S rfl rfl ⟨rfl, H.tail.tail⟩
     ·
      have c52 := bc52
      have c52 := ne_of_beq_false c52
      refine l_on S rfl rfl rfl rfl bc52 ?_
      refine l_pure S (p_fieldAddr rfl (fun w => fa24_0 w _ _)) rfl rfl rfl ?_; clear S a; intro a S
      refine l_on S rfl rfl rfl rfl bc52 ?_
      refine l_read S H (r_load rfl (List.mem_cons_of_mem _ List.mem_cons_self) rfl (fun w hc => ld1 ag3 hc)) rfl rfl rfl ?_; clear S a; intro a S
      refine l_on S rfl rfl rfl rfl bc52 ?_
      refine l_pure S (p_eql rfl rfl) rfl rfl rfl ?_; clear S a; intro a S
      refine l_pure S (p_pick_f rfl bc52 rfl) rfl rfl rfl ?_; clear S a; intro a S
      refine l_mv 1 S rfl ?_; clear S a; intro a S
      refine l_nil ?_
      refine e_then ?_
      refine c_cond S rfl (fun bc56 => ?_) (fun bc56 => ?_)
      ·
       have c56 := bc56
       have c56 := eq_of_beq c56
       refine wp_seq ?_
       refine c_region ?_
       refine l_mv 1 S rfl ?_; clear S a; intro a S
       refine l_pure S (p_fieldAddr rfl (fun w => fa24_1 w _ _)) rfl rfl rfl ?_; clear S a; intro a S
       refine l_read S H (r_load rfl (List.mem_cons_of_mem _ List.mem_cons_self) rfl (fun w hc => ld1 ag9 hc)) rfl rfl rfl ?_; clear S a; intro a S
       refine l_pure S (p_sadd rfl rfl (by have h1 := mw.oS_bd (K := K) (St := St) hS; have h2 := mw.oM_bd (K := K) hFm; have h3 := mw.sdec_len (mw.oN_bd (K := K) hN); have h4 := mw.sdec_len (mw.oU_bd (K := K) (St := St) hNum); have h5 := mw.dtext_len (mw.oF K dv); have h6 : (⟨#[13, 10]⟩ : ByteArray).size = 2 := rfl; have h7 : (⟨#[63]⟩ : ByteArray).size = 1 := rfl; have h8 : (⟨#[58]⟩ : ByteArray).size = 1 := rfl; simp only [mw.sb, mw.sn, List.length_cons, List.length_nil]; omega)) rfl rfl rfl ?_; clear S a; intro a S
       refine l_pure S (p_sadd rfl rfl (by have h1 := mw.oS_bd (K := K) (St := St) hS; have h2 := mw.oM_bd (K := K) hFm; have h3 := mw.sdec_len (mw.oN_bd (K := K) hN); have h4 := mw.sdec_len (mw.oU_bd (K := K) (St := St) hNum); have h5 := mw.dtext_len (mw.oF K dv); have h6 : (⟨#[13, 10]⟩ : ByteArray).size = 2 := rfl; have h7 : (⟨#[63]⟩ : ByteArray).size = 1 := rfl; have h8 : (⟨#[58]⟩ : ByteArray).size = 1 := rfl; simp only [mw.sb, mw.sn, List.length_cons, List.length_nil]; omega)) rfl rfl rfl ?_; clear S a; intro a S
       refine l_mv 1 S rfl ?_; clear S a; intro a S
       refine l_nil ?_
       refine e_then ?_
       refine wp_ret ?_
       refine e_in_ret ?_
       refine e_then_ret ?_
       have eW : (((strOfNums [K]) ++ (mw.oS K sv St)) ++ ⟨#[13, 10]⟩) = strOfNums (mw.mwire K sv nv dv Bo Fm Num St) := mw.wl5 (by omega)
       rw [eW] at S
       exact r_ret1 S rfl rfl ⟨rfl, H.tail.tail⟩
      ·
       have c56 := bc56
       have c56 := ne_of_beq_false c56
       refine wp_seq ?_
       refine c_region ?_
       refine l_pure S (p_fieldAddr rfl (fun w => fa24_0 w _ _)) rfl rfl rfl ?_; clear S a; intro a S
       refine l_read S H (r_load rfl (List.mem_cons_of_mem _ List.mem_cons_self) rfl (fun w hc => ld1 ag3 hc)) rfl rfl rfl ?_; clear S a; intro a S
       refine l_pure S (p_eql rfl rfl) rfl rfl rfl ?_; clear S a; intro a S
       refine l_mv 1 S rfl ?_; clear S a; intro a S
       refine l_nil ?_
       refine e_then ?_
       refine c_cond S rfl (fun bc58 => ?_) (fun bc58 => ?_)
       ·
        have c58 := bc58
        have c58 := eq_of_beq c58
        refine wp_seq ?_
        refine c_region ?_
        refine l_mv 1 S rfl ?_; clear S a; intro a S
        refine l_pure S (p_fieldAddr rfl (fun w => fa24_2 w _ _)) rfl rfl rfl ?_; clear S a; intro a S
        refine l_read S H (r_load rfl (List.mem_cons_of_mem _ List.mem_cons_self) rfl (fun w hc => ld1 ag2 hc)) rfl rfl rfl ?_; clear S a; intro a S
        have hcon := nm.sgd_ wb _ B _ (mw.oN K nv) (mw.oN_bd hN) H
        refine l_call S rfl rfl Tryz.func18 rfl rfl (hcon) rfl rfl rfl ?_
        rintro e w ⟨rfl, hH⟩
        refine ⟨_, rfl, ?_⟩; clear S a; intro a S
        clear H hcon; have H := hH; clear hH
        refine l_pure S (p_sadd rfl rfl (by have h1 := mw.oS_bd (K := K) (St := St) hS; have h2 := mw.oM_bd (K := K) hFm; have h3 := mw.sdec_len (mw.oN_bd (K := K) hN); have h4 := mw.sdec_len (mw.oU_bd (K := K) (St := St) hNum); have h5 := mw.dtext_len (mw.oF K dv); have h6 : (⟨#[13, 10]⟩ : ByteArray).size = 2 := rfl; have h7 : (⟨#[63]⟩ : ByteArray).size = 1 := rfl; have h8 : (⟨#[58]⟩ : ByteArray).size = 1 := rfl; simp only [mw.sb, mw.sn, List.length_cons, List.length_nil]; omega)) rfl rfl rfl ?_; clear S a; intro a S
        refine l_pure S (p_sadd rfl rfl (by have h1 := mw.oS_bd (K := K) (St := St) hS; have h2 := mw.oM_bd (K := K) hFm; have h3 := mw.sdec_len (mw.oN_bd (K := K) hN); have h4 := mw.sdec_len (mw.oU_bd (K := K) (St := St) hNum); have h5 := mw.dtext_len (mw.oF K dv); have h6 : (⟨#[13, 10]⟩ : ByteArray).size = 2 := rfl; have h7 : (⟨#[63]⟩ : ByteArray).size = 1 := rfl; have h8 : (⟨#[58]⟩ : ByteArray).size = 1 := rfl; simp only [mw.sb, mw.sn, List.length_cons, List.length_nil]; omega)) rfl rfl rfl ?_; clear S a; intro a S
        refine l_mv 1 S rfl ?_; clear S a; intro a S
        refine l_nil ?_
        refine e_then ?_
        refine wp_ret ?_
        refine e_in_ret ?_
        refine e_then_ret ?_
        have eW : (((strOfNums [K]) ++ (strOfNums (mw.sdec (mw.oN K nv)))) ++ ⟨#[13, 10]⟩) = strOfNums (mw.mwire K sv nv dv Bo Fm Num St) := mw.wl6 c58
        rw [eW] at S
        exact r_ret1 S rfl rfl ⟨rfl, H.tail.tail⟩
       ·
        have c58 := bc58
        have c58 := ne_of_beq_false c58
        refine wp_seq ?_
        refine c_region ?_
        refine l_pure S (p_fieldAddr rfl (fun w => fa24_0 w _ _)) rfl rfl rfl ?_; clear S a; intro a S
        refine l_read S H (r_load rfl (List.mem_cons_of_mem _ List.mem_cons_self) rfl (fun w hc => ld1 ag3 hc)) rfl rfl rfl ?_; clear S a; intro a S
        refine l_pure S (p_eql rfl rfl) rfl rfl rfl ?_; clear S a; intro a S
        refine l_mv 1 S rfl ?_; clear S a; intro a S
        refine l_nil ?_
        refine e_then ?_
        refine c_cond S rfl (fun bc60 => ?_) (fun bc60 => ?_)
        ·
         have c60 := bc60
         have c60 := eq_of_beq c60
         refine wp_seq ?_
         refine c_region ?_
         refine l_mv 1 S rfl ?_; clear S a; intro a S
         refine l_pure S (p_fieldAddr rfl (fun w => fa24_3 w _ _)) rfl rfl rfl ?_; clear S a; intro a S
         refine l_read S H (r_load rfl (List.mem_cons_of_mem _ List.mem_cons_self) rfl (fun w hc => ld1 ag22 hc)) rfl rfl rfl ?_; clear S a; intro a S
         have hcon := nm.dtx_ wb _ B _ ht hT (mw.oF K dv) (mw.oF_bd hF) H
         refine l_call S rfl rfl Tryz.func19 rfl rfl (hcon) rfl rfl rfl ?_
         rintro e w ⟨rfl, hH⟩
         refine ⟨_, rfl, ?_⟩; clear S a; intro a S
         clear H hcon; have H := hH; clear hH
         refine l_pure S (p_sadd rfl rfl (by have h1 := mw.oS_bd (K := K) (St := St) hS; have h2 := mw.oM_bd (K := K) hFm; have h3 := mw.sdec_len (mw.oN_bd (K := K) hN); have h4 := mw.sdec_len (mw.oU_bd (K := K) (St := St) hNum); have h5 := mw.dtext_len (mw.oF K dv); have h6 : (⟨#[13, 10]⟩ : ByteArray).size = 2 := rfl; have h7 : (⟨#[63]⟩ : ByteArray).size = 1 := rfl; have h8 : (⟨#[58]⟩ : ByteArray).size = 1 := rfl; simp only [mw.sb, mw.sn, List.length_cons, List.length_nil]; omega)) rfl rfl rfl ?_; clear S a; intro a S
         refine l_pure S (p_sadd rfl rfl (by have h1 := mw.oS_bd (K := K) (St := St) hS; have h2 := mw.oM_bd (K := K) hFm; have h3 := mw.sdec_len (mw.oN_bd (K := K) hN); have h4 := mw.sdec_len (mw.oU_bd (K := K) (St := St) hNum); have h5 := mw.dtext_len (mw.oF K dv); have h6 : (⟨#[13, 10]⟩ : ByteArray).size = 2 := rfl; have h7 : (⟨#[63]⟩ : ByteArray).size = 1 := rfl; have h8 : (⟨#[58]⟩ : ByteArray).size = 1 := rfl; simp only [mw.sb, mw.sn, List.length_cons, List.length_nil]; omega)) rfl rfl rfl ?_; clear S a; intro a S
         refine l_mv 1 S rfl ?_; clear S a; intro a S
         refine l_nil ?_
         refine e_then ?_
         refine wp_ret ?_
         refine e_in_ret ?_
         refine e_then_ret ?_
         have eW : (((strOfNums [K]) ++ (strOfNums (mw.dtext (mw.oF K dv)))) ++ ⟨#[13, 10]⟩) = strOfNums (mw.mwire K sv nv dv Bo Fm Num St) := mw.wl7 c60
         rw [eW] at S
         exact r_ret1 S rfl rfl ⟨rfl, H.tail.tail⟩
        ·
         have c60 := bc60
         have c60 := ne_of_beq_false c60
         refine wp_seq ?_
         refine c_region ?_
         refine l_pure S (p_fieldAddr rfl (fun w => fa24_0 w _ _)) rfl rfl rfl ?_; clear S a; intro a S
         refine l_read S H (r_load rfl (List.mem_cons_of_mem _ List.mem_cons_self) rfl (fun w hc => ld1 ag3 hc)) rfl rfl rfl ?_; clear S a; intro a S
         refine l_pure S (p_eql rfl rfl) rfl rfl rfl ?_; clear S a; intro a S
         refine l_mv 1 S rfl ?_; clear S a; intro a S
         refine l_split (S.of 87 rfl) (fun bc62 => ?_) (fun bc62 => ?_)
         ·
          have c62 := bc62
          have c62 := eq_of_beq c62
          refine l_on S rfl rfl rfl rfl bc62 ?_
          refine l_pure S (p_fieldAddr rfl (fun w => fa24_4 w _ _)) rfl rfl rfl ?_; clear S a; intro a S
          refine l_on S rfl rfl rfl rfl bc62 ?_
          refine l_read S H (r_load rfl (List.mem_cons_of_mem _ List.mem_cons_self) rfl (fun w hc => ld1 ag4 hc)) rfl rfl rfl ?_; clear S a; intro a S
          refine l_pure S (p_pick_t rfl bc62 rfl) rfl rfl rfl ?_; clear S a; intro a S
          refine l_mv 1 S rfl ?_; clear S a; intro a S
          refine l_nil ?_
          refine e_then ?_
          refine c_cond S rfl (fun bc64 => ?_) (fun bc64 => ?_)
          ·
           have c64 := bc64
           refine wp_seq ?_
           refine c_region ?_
           refine l_mv 1 S rfl ?_; clear S a; intro a S
           refine l_nil ?_
           refine e_then ?_
           refine wp_ret ?_
           refine e_in_ret ?_
           refine e_then_ret ?_
           have eW : (⟨#[35, 116, 13, 10]⟩ : ByteArray) = strOfNums (mw.mwire K sv nv dv Bo Fm Num St) := mw.wl8 (by omega) bc64
           rw [eW] at S
           exact r_ret1 S rfl rfl ⟨rfl, H.tail.tail⟩
          ·
           have c64 := bc64
           refine wp_seq ?_
           refine c_region ?_
           refine l_pure S (p_fieldAddr rfl (fun w => fa24_0 w _ _)) rfl rfl rfl ?_; clear S a; intro a S
           refine l_read S H (r_load rfl (List.mem_cons_of_mem _ List.mem_cons_self) rfl (fun w hc => ld1 ag3 hc)) rfl rfl rfl ?_; clear S a; intro a S
           refine l_pure S (p_eql rfl rfl) rfl rfl rfl ?_; clear S a; intro a S
           refine l_mv 1 S rfl ?_; clear S a; intro a S
           refine l_nil ?_
           refine e_then ?_
           refine c_cond S rfl (fun bc66 => ?_) (fun bc66 => ?_)
           ·
            have c66 := bc66
            have c66 := eq_of_beq c66
            refine wp_seq ?_
            refine c_region ?_
            refine l_mv 1 S rfl ?_; clear S a; intro a S
            refine l_nil ?_
            refine e_then ?_
            refine wp_ret ?_
            refine e_in_ret ?_
            refine e_then_ret ?_
            have eW : (⟨#[35, 102, 13, 10]⟩ : ByteArray) = strOfNums (mw.mwire K sv nv dv Bo Fm Num St) := mw.wl9 (by omega) (by first | assumption | (simp_all; done))
            rw [eW] at S
            exact r_ret1 S rfl rfl ⟨rfl, H.tail.tail⟩
           ·
            have c66 := bc66
            have c66 := ne_of_beq_false c66
            refine wp_seq ?_
            refine c_region ?_
            refine l_pure S (p_fieldAddr rfl (fun w => fa24_0 w _ _)) rfl rfl rfl ?_; clear S a; intro a S
            refine l_read S H (r_load rfl (List.mem_cons_of_mem _ List.mem_cons_self) rfl (fun w hc => ld1 ag3 hc)) rfl rfl rfl ?_; clear S a; intro a S
            refine l_pure S (p_eql rfl rfl) rfl rfl rfl ?_; clear S a; intro a S
            refine l_mv 1 S rfl ?_; clear S a; intro a S
            refine l_split (S.of 99 rfl) (fun bc68 => ?_) (fun bc68 => ?_)
            ·
             have c68 := bc68
             have c68 := eq_of_beq c68
             refine l_off S rfl rfl rfl rfl bc68 rfl rfl ?_; clear S a; intro a S
             refine l_off S rfl rfl rfl rfl bc68 rfl rfl ?_; clear S a; intro a S
             refine l_off S rfl rfl rfl rfl bc68 rfl rfl ?_; clear S a; intro a S
             refine l_pure S (p_pick_t rfl bc68 rfl) rfl rfl rfl ?_; clear S a; intro a S
             refine l_mv 1 S rfl ?_; clear S a; intro a S
             refine l_nil ?_
             refine e_then ?_
             refine c_cond (b := true) S rfl (fun _ => ?_) (fun h => by cases h)
             refine wp_seq ?_
             refine c_region ?_
             refine l_mv 1 S rfl ?_; clear S a; intro a S
             refine l_pure S (p_sadd rfl rfl (by have h1 := mw.oS_bd (K := K) (St := St) hS; have h2 := mw.oM_bd (K := K) hFm; have h3 := mw.sdec_len (mw.oN_bd (K := K) hN); have h4 := mw.sdec_len (mw.oU_bd (K := K) (St := St) hNum); have h5 := mw.dtext_len (mw.oF K dv); have h6 : (⟨#[13, 10]⟩ : ByteArray).size = 2 := rfl; have h7 : (⟨#[63]⟩ : ByteArray).size = 1 := rfl; have h8 : (⟨#[58]⟩ : ByteArray).size = 1 := rfl; simp only [mw.sb, mw.sn, List.length_cons, List.length_nil]; omega)) rfl rfl rfl ?_; clear S a; intro a S
             refine l_mv 1 S rfl ?_; clear S a; intro a S
             refine l_nil ?_
             refine e_then ?_
             refine wp_ret ?_
             refine e_in_ret ?_
             refine e_then_ret ?_
             have eW : ((strOfNums [K]) ++ ⟨#[13, 10]⟩) = strOfNums (mw.mwire K sv nv dv Bo Fm Num St) := mw.wl10 (by omega)
             rw [eW] at S
             exact r_ret1 S rfl rfl ⟨rfl, H.tail.tail⟩
            ·
             have c68 := bc68
             have c68 := ne_of_beq_false c68
             refine l_on S rfl rfl rfl rfl bc68 ?_
             refine l_pure S (p_fieldAddr rfl (fun w => fa24_0 w _ _)) rfl rfl rfl ?_; clear S a; intro a S
             refine l_on S rfl rfl rfl rfl bc68 ?_
             refine l_read S H (r_load rfl (List.mem_cons_of_mem _ List.mem_cons_self) rfl (fun w hc => ld1 ag3 hc)) rfl rfl rfl ?_; clear S a; intro a S
             refine l_on S rfl rfl rfl rfl bc68 ?_
             refine l_pure S (p_eql rfl rfl) rfl rfl rfl ?_; clear S a; intro a S
             refine l_pure S (p_pick_f rfl bc68 rfl) rfl rfl rfl ?_; clear S a; intro a S
             refine l_mv 1 S rfl ?_; clear S a; intro a S
             refine l_nil ?_
             refine e_then ?_
             refine c_cond S rfl (fun bc72 => ?_) (fun bc72 => ?_)
             ·
              have c72 := bc72
              have c72 := eq_of_beq c72
              refine wp_seq ?_
              refine c_region ?_
              refine l_mv 1 S rfl ?_; clear S a; intro a S
              refine l_pure S (p_sadd rfl rfl (by have h1 := mw.oS_bd (K := K) (St := St) hS; have h2 := mw.oM_bd (K := K) hFm; have h3 := mw.sdec_len (mw.oN_bd (K := K) hN); have h4 := mw.sdec_len (mw.oU_bd (K := K) (St := St) hNum); have h5 := mw.dtext_len (mw.oF K dv); have h6 : (⟨#[13, 10]⟩ : ByteArray).size = 2 := rfl; have h7 : (⟨#[63]⟩ : ByteArray).size = 1 := rfl; have h8 : (⟨#[58]⟩ : ByteArray).size = 1 := rfl; simp only [mw.sb, mw.sn, List.length_cons, List.length_nil]; omega)) rfl rfl rfl ?_; clear S a; intro a S
              refine l_mv 1 S rfl ?_; clear S a; intro a S
              refine l_nil ?_
              refine e_then ?_
              refine wp_ret ?_
              refine e_in_ret ?_
              refine e_then_ret ?_
              have eW : ((strOfNums [K]) ++ ⟨#[13, 10]⟩) = strOfNums (mw.mwire K sv nv dv Bo Fm Num St) := mw.wl10 (by omega)
              rw [eW] at S
              exact r_ret1 S rfl rfl ⟨rfl, H.tail.tail⟩
             ·
              have c72 := bc72
              have c72 := ne_of_beq_false c72
              refine wp_skip ?_
              refine e_in 0 ?_
              refine e_then ?_
              refine wp_seq ?_
              refine c_region ?_
              refine l_mv 1 S rfl ?_; clear S a; intro a S
              refine l_pure S (p_fieldAddr rfl (fun w => fa24_6 w _ _)) rfl rfl rfl ?_; clear S a; intro a S
              refine l_read S H (r_load rfl (List.mem_cons_of_mem _ List.mem_cons_self) rfl (fun w hc => ld1 ag3 hc)) rfl rfl rfl ?_; clear S a; intro a S
              have hcon := nm.sgd_ wb _ B _ (mw.oU K Num St) (mw.oU_bd hNum) H
              refine l_call S rfl rfl Tryz.func18 rfl rfl (hcon) rfl rfl rfl ?_
              rintro e w ⟨rfl, hH⟩
              refine ⟨_, rfl, ?_⟩; clear S a; intro a S
              clear H hcon; have H := hH; clear hH
              refine l_pure S (p_sadd rfl rfl (by have h1 := mw.oS_bd (K := K) (St := St) hS; have h2 := mw.oM_bd (K := K) hFm; have h3 := mw.sdec_len (mw.oN_bd (K := K) hN); have h4 := mw.sdec_len (mw.oU_bd (K := K) (St := St) hNum); have h5 := mw.dtext_len (mw.oF K dv); have h6 : (⟨#[13, 10]⟩ : ByteArray).size = 2 := rfl; have h7 : (⟨#[63]⟩ : ByteArray).size = 1 := rfl; have h8 : (⟨#[58]⟩ : ByteArray).size = 1 := rfl; simp only [mw.sb, mw.sn, List.length_cons, List.length_nil]; omega)) rfl rfl rfl ?_; clear S a; intro a S
              refine l_pure S (p_sadd rfl rfl (by have h1 := mw.oS_bd (K := K) (St := St) hS; have h2 := mw.oM_bd (K := K) hFm; have h3 := mw.sdec_len (mw.oN_bd (K := K) hN); have h4 := mw.sdec_len (mw.oU_bd (K := K) (St := St) hNum); have h5 := mw.dtext_len (mw.oF K dv); have h6 : (⟨#[13, 10]⟩ : ByteArray).size = 2 := rfl; have h7 : (⟨#[63]⟩ : ByteArray).size = 1 := rfl; have h8 : (⟨#[58]⟩ : ByteArray).size = 1 := rfl; simp only [mw.sb, mw.sn, List.length_cons, List.length_nil]; omega)) rfl rfl rfl ?_; clear S a; intro a S
              refine l_mv 1 S rfl ?_; clear S a; intro a S
              refine l_nil ?_
              refine e_then ?_
              refine wp_ret ?_
              have eW : (((strOfNums [K]) ++ (strOfNums (mw.sdec (mw.oU K Num St)))) ++ ⟨#[13, 10]⟩) = strOfNums (mw.mwire K sv nv dv Bo Fm Num St) := mw.wl11 hK bc4 (by assumption) (by omega)
              rw [eW] at S
              exact r_ret1 S rfl rfl ⟨rfl, H.tail.tail⟩
         ·
          have c62 := bc62
          have c62 := ne_of_beq_false c62
          refine l_off S rfl rfl rfl rfl bc62 rfl rfl ?_; clear S a; intro a S
          refine l_off S rfl rfl rfl rfl bc62 rfl rfl ?_; clear S a; intro a S
          refine l_pure S (p_pick_f rfl bc62 rfl) rfl rfl rfl ?_; clear S a; intro a S
          refine l_mv 1 S rfl ?_; clear S a; intro a S
          refine l_nil ?_
          refine e_then ?_
          refine c_cond (b := false) S rfl (fun h => by cases h) (fun _ => ?_)
          refine wp_seq ?_
          refine c_region ?_
          refine l_pure S (p_fieldAddr rfl (fun w => fa24_0 w _ _)) rfl rfl rfl ?_; clear S a; intro a S
          refine l_read S H (r_load rfl (List.mem_cons_of_mem _ List.mem_cons_self) rfl (fun w hc => ld1 ag3 hc)) rfl rfl rfl ?_; clear S a; intro a S
          refine l_pure S (p_eql rfl rfl) rfl rfl rfl ?_; clear S a; intro a S
          refine l_mv 1 S rfl ?_; clear S a; intro a S
          refine l_nil ?_
          refine e_then ?_
          refine c_cond S rfl (fun bc76 => ?_) (fun bc76 => ?_)
          ·
           have c76 := bc76
           have c76 := eq_of_beq c76
           refine wp_seq ?_
           refine c_region ?_
           refine l_mv 1 S rfl ?_; clear S a; intro a S
           refine l_nil ?_
           refine e_then ?_
           refine wp_ret ?_
           refine e_in_ret ?_
           refine e_then_ret ?_
           have eW : (⟨#[35, 102, 13, 10]⟩ : ByteArray) = strOfNums (mw.mwire K sv nv dv Bo Fm Num St) := mw.wl9 (by omega) (by first | assumption | (simp_all; done))
           rw [eW] at S
           exact r_ret1 S rfl rfl ⟨rfl, H.tail.tail⟩
          ·
           have c76 := bc76
           have c76 := ne_of_beq_false c76
           refine wp_seq ?_
           refine c_region ?_
           refine l_pure S (p_fieldAddr rfl (fun w => fa24_0 w _ _)) rfl rfl rfl ?_; clear S a; intro a S
           refine l_read S H (r_load rfl (List.mem_cons_of_mem _ List.mem_cons_self) rfl (fun w hc => ld1 ag3 hc)) rfl rfl rfl ?_; clear S a; intro a S
           refine l_pure S (p_eql rfl rfl) rfl rfl rfl ?_; clear S a; intro a S
           refine l_mv 1 S rfl ?_; clear S a; intro a S
           refine l_split (S.of 99 rfl) (fun bc78 => ?_) (fun bc78 => ?_)
           ·
            have c78 := bc78
            have c78 := eq_of_beq c78
            refine l_off S rfl rfl rfl rfl bc78 rfl rfl ?_; clear S a; intro a S
            refine l_off S rfl rfl rfl rfl bc78 rfl rfl ?_; clear S a; intro a S
            refine l_off S rfl rfl rfl rfl bc78 rfl rfl ?_; clear S a; intro a S
            refine l_pure S (p_pick_t rfl bc78 rfl) rfl rfl rfl ?_; clear S a; intro a S
            refine l_mv 1 S rfl ?_; clear S a; intro a S
            refine l_nil ?_
            refine e_then ?_
            refine c_cond (b := true) S rfl (fun _ => ?_) (fun h => by cases h)
            refine wp_seq ?_
            refine c_region ?_
            refine l_mv 1 S rfl ?_; clear S a; intro a S
            refine l_pure S (p_sadd rfl rfl (by have h1 := mw.oS_bd (K := K) (St := St) hS; have h2 := mw.oM_bd (K := K) hFm; have h3 := mw.sdec_len (mw.oN_bd (K := K) hN); have h4 := mw.sdec_len (mw.oU_bd (K := K) (St := St) hNum); have h5 := mw.dtext_len (mw.oF K dv); have h6 : (⟨#[13, 10]⟩ : ByteArray).size = 2 := rfl; have h7 : (⟨#[63]⟩ : ByteArray).size = 1 := rfl; have h8 : (⟨#[58]⟩ : ByteArray).size = 1 := rfl; simp only [mw.sb, mw.sn, List.length_cons, List.length_nil]; omega)) rfl rfl rfl ?_; clear S a; intro a S
            refine l_mv 1 S rfl ?_; clear S a; intro a S
            refine l_nil ?_
            refine e_then ?_
            refine wp_ret ?_
            refine e_in_ret ?_
            refine e_then_ret ?_
            have eW : ((strOfNums [K]) ++ ⟨#[13, 10]⟩) = strOfNums (mw.mwire K sv nv dv Bo Fm Num St) := mw.wl10 (by omega)
            rw [eW] at S
            exact r_ret1 S rfl rfl ⟨rfl, H.tail.tail⟩
           ·
            have c78 := bc78
            have c78 := ne_of_beq_false c78
            refine l_on S rfl rfl rfl rfl bc78 ?_
            refine l_pure S (p_fieldAddr rfl (fun w => fa24_0 w _ _)) rfl rfl rfl ?_; clear S a; intro a S
            refine l_on S rfl rfl rfl rfl bc78 ?_
            refine l_read S H (r_load rfl (List.mem_cons_of_mem _ List.mem_cons_self) rfl (fun w hc => ld1 ag3 hc)) rfl rfl rfl ?_; clear S a; intro a S
            refine l_on S rfl rfl rfl rfl bc78 ?_
            refine l_pure S (p_eql rfl rfl) rfl rfl rfl ?_; clear S a; intro a S
            refine l_pure S (p_pick_f rfl bc78 rfl) rfl rfl rfl ?_; clear S a; intro a S
            refine l_mv 1 S rfl ?_; clear S a; intro a S
            refine l_nil ?_
            refine e_then ?_
            refine c_cond S rfl (fun bc82 => ?_) (fun bc82 => ?_)
            ·
             have c82 := bc82
             have c82 := eq_of_beq c82
             refine wp_seq ?_
             refine c_region ?_
             refine l_mv 1 S rfl ?_; clear S a; intro a S
             refine l_pure S (p_sadd rfl rfl (by have h1 := mw.oS_bd (K := K) (St := St) hS; have h2 := mw.oM_bd (K := K) hFm; have h3 := mw.sdec_len (mw.oN_bd (K := K) hN); have h4 := mw.sdec_len (mw.oU_bd (K := K) (St := St) hNum); have h5 := mw.dtext_len (mw.oF K dv); have h6 : (⟨#[13, 10]⟩ : ByteArray).size = 2 := rfl; have h7 : (⟨#[63]⟩ : ByteArray).size = 1 := rfl; have h8 : (⟨#[58]⟩ : ByteArray).size = 1 := rfl; simp only [mw.sb, mw.sn, List.length_cons, List.length_nil]; omega)) rfl rfl rfl ?_; clear S a; intro a S
             refine l_mv 1 S rfl ?_; clear S a; intro a S
             refine l_nil ?_
             refine e_then ?_
             refine wp_ret ?_
             refine e_in_ret ?_
             refine e_then_ret ?_
             have eW : ((strOfNums [K]) ++ ⟨#[13, 10]⟩) = strOfNums (mw.mwire K sv nv dv Bo Fm Num St) := mw.wl10 (by omega)
             rw [eW] at S
             exact r_ret1 S rfl rfl ⟨rfl, H.tail.tail⟩
            ·
             have c82 := bc82
             have c82 := ne_of_beq_false c82
             refine wp_skip ?_
             refine e_in 0 ?_
             refine e_then ?_
             refine wp_seq ?_
             refine c_region ?_
             refine l_mv 1 S rfl ?_; clear S a; intro a S
             refine l_pure S (p_fieldAddr rfl (fun w => fa24_6 w _ _)) rfl rfl rfl ?_; clear S a; intro a S
             refine l_read S H (r_load rfl (List.mem_cons_of_mem _ List.mem_cons_self) rfl (fun w hc => ld1 ag3 hc)) rfl rfl rfl ?_; clear S a; intro a S
             have hcon := nm.sgd_ wb _ B _ (mw.oU K Num St) (mw.oU_bd hNum) H
             refine l_call S rfl rfl Tryz.func18 rfl rfl (hcon) rfl rfl rfl ?_
             rintro e w ⟨rfl, hH⟩
             refine ⟨_, rfl, ?_⟩; clear S a; intro a S
             clear H hcon; have H := hH; clear hH
             refine l_pure S (p_sadd rfl rfl (by have h1 := mw.oS_bd (K := K) (St := St) hS; have h2 := mw.oM_bd (K := K) hFm; have h3 := mw.sdec_len (mw.oN_bd (K := K) hN); have h4 := mw.sdec_len (mw.oU_bd (K := K) (St := St) hNum); have h5 := mw.dtext_len (mw.oF K dv); have h6 : (⟨#[13, 10]⟩ : ByteArray).size = 2 := rfl; have h7 : (⟨#[63]⟩ : ByteArray).size = 1 := rfl; have h8 : (⟨#[58]⟩ : ByteArray).size = 1 := rfl; simp only [mw.sb, mw.sn, List.length_cons, List.length_nil]; omega)) rfl rfl rfl ?_; clear S a; intro a S
             refine l_pure S (p_sadd rfl rfl (by have h1 := mw.oS_bd (K := K) (St := St) hS; have h2 := mw.oM_bd (K := K) hFm; have h3 := mw.sdec_len (mw.oN_bd (K := K) hN); have h4 := mw.sdec_len (mw.oU_bd (K := K) (St := St) hNum); have h5 := mw.dtext_len (mw.oF K dv); have h6 : (⟨#[13, 10]⟩ : ByteArray).size = 2 := rfl; have h7 : (⟨#[63]⟩ : ByteArray).size = 1 := rfl; have h8 : (⟨#[58]⟩ : ByteArray).size = 1 := rfl; simp only [mw.sb, mw.sn, List.length_cons, List.length_nil]; omega)) rfl rfl rfl ?_; clear S a; intro a S
             refine l_mv 1 S rfl ?_; clear S a; intro a S
             refine l_nil ?_
             refine e_then ?_
             refine wp_ret ?_
             have eW : (((strOfNums [K]) ++ (strOfNums (mw.sdec (mw.oU K Num St)))) ++ ⟨#[13, 10]⟩) = strOfNums (mw.mwire K sv nv dv Bo Fm Num St) := mw.wl11 hK bc4 (by assumption) (by omega)
             rw [eW] at S
             exact r_ret1 S rfl rfl ⟨rfl, H.tail.tail⟩
end wr
end Go.Proofs.YtfbfmcjjohiikaaGreatDoor.mw
end
section
namespace Go.Proofs.YtfbfmcjjohiikaaGreatDoor.mw
open Go.Proofs.YtfbfmcjjohiikaaGreatDoor.fx
open Go.RowKit Go.Proofs.HHW Go.Proofs.YtfbfmcjjohiikaaGreatDoorW.PrintWords
namespace la
theorem bld24_0_5 (x0_0 : Int) (x1_0 : ByteArray) : Tryz.prog.built 24 [(0, (.int .i64 x0_0)), (5, (.string x1_0))] = some #[.int .i64 x0_0, .string ⟨#[]⟩, .int .i64 0, .float .f64 0, .bool false, .string x1_0, .int .i64 0, .bool false] := by kernel_rfl
theorem wtxt : strOfNums (mw.mwire 61 ⟨#[]⟩ 0 0 false ⟨#[116, 120, 116]⟩ 0 false) = ⟨#[61, 52, 13, 10, 116, 120, 116, 58, 13, 10]⟩ := by
 have e : mw.mwire 61 ⟨#[]⟩ 0 0 false ⟨#[116, 120, 116]⟩ 0 false = [61, 52, 13, 10, 116, 120, 116, 58, 13, 10] := by
  have h : wq.dec 4 = [52] := wq.dec_small (by decide)
  show mw.bl 61 (0 + 4) _ = _
  unfold mw.bl
  rw [show (0 + 4 : Nat) = 4 from rfl, h]
  rfl
 rw [e]; rfl
set_option maxHeartbeats 2000000 in
theorem lawN_ (w0 : World) (ht0 : Lib.TabIs Tryz.prog w0 "internal/strconv.uint64pow10" .u64 Lib.pow10Tab) (hT0 : fz.PTab 3 w0.heap.size w0) (K : Int) (sv : ByteArray) (nv : Int) (dv : Nat) (Bo : Bool) (Fm : ByteArray) (Num : Int) (St : Bool) (ab : Bool) (hN : -9223372036854775808 ≤ nv ∧ nv ≤ 9223372036854775807) (hNum : -9223372036854775808 ≤ Num ∧ Num ≤ 9223372036854775807) (hF : dv < 18446744073709551616) (h61 : K = 61 → Fm.size = 3) : Calls Tryz.prog 3 #[.agg #[.int .i64 K, .string sv, .int .i64 nv, .float .f64 dv, .bool Bo, .string Fm, .int .i64 Num, .bool St], .bool ab] w0 fun e w' => e = .returned (.bool true) ∧ Below w0.heap.size w0 w' := by
 obtain ⟨B, hBw⟩ : ∃ B, B = w0.heap.size := ⟨_, rfl⟩
 obtain ⟨wb, hwb⟩ : ∃ wb, wb = w0 := ⟨_, rfl⟩
 obtain ⟨L0, hL0⟩ : ∃ L0 : List (Nat × Obj), L0 = [] := ⟨_, rfl⟩
 have H : HH B wb w0 L0 := by subst hBw hwb hL0; exact HH.start _
 have ht : Lib.TabBelow Tryz.prog B wb "internal/strconv.uint64pow10" .u64 Lib.pow10Tab := by subst hBw hwb; exact Lib.tabBelow_of_tabIs ht0
 have hT : fz.PTab 3 B wb := by subst hBw hwb; exact hT0
 refine c_enter (args := [.agg #[.int .i64 K, .string sv, .int .i64 nv, .float .f64 dv, .bool Bo, .string Fm, .int .i64 Num, .bool St], .bool ab]) (k := 69) Tryz.func3 rfl rfl rfl (fun a S => ?_)
 refine wp_seq ?_
 refine c_region ?_
 refine l_box (cs := #[.int .i64 K, .string sv, .int .i64 nv, .float .f64 dv, .bool Bo, .string Fm, .int .i64 Num, .bool St]) S H rfl rfl (fun w => bx) rfl rfl rfl ?_; clear S a H; intro g1 w a H S
 refine l_mv 1 S rfl ?_; clear S a; intro a S
 refine l_nil ?_
 refine e_then ?_
 refine wp_seq ?_
 refine wp_seq ?_
 refine c_region ?_
 refine l_read S H (r_loadn (m := 8) (vs := [.int .i64 K, .string sv, .int .i64 nv, .float .f64 dv, .bool Bo, .string Fm, .int .i64 Num, .bool St]) rfl List.mem_cons_self ag24 sz24 rfl rfl) rfl rfl rfl ?_; clear S a; intro a S
 have hcon := wr.fits_ wb _ B _ K sv nv dv Bo Fm Num St H
 refine l_call S rfl rfl Tryz.func4 rfl rfl (hcon) rfl rfl rfl ?_
 rintro e w ⟨b1, rfl, hH⟩
 refine ⟨_, rfl, ?_⟩; clear S a; intro a S
 clear H hcon; have H := hH; clear hH
 refine l_pure S (p_not rfl) rfl rfl rfl ?_; clear S a; intro a S
 refine l_nil ?_
 refine e_then ?_
 refine c_cond S rfl (fun bc5 => ?_) (fun bc5 => ?_)
 ·
  have c5 := bc5
  replace c5 := not_eq_true_ c5
  refine wp_seq ?_
  refine c_region ?_
  refine l_mv 1 S rfl ?_; clear S a; intro a S
  refine l_nil ?_
  refine e_then ?_
  refine wp_ret ?_
  refine e_then_ret ?_
  first | exact r_ret1 S rfl rfl ⟨rfl, by have := H.below; rw [hBw, hwb] at this; exact this⟩ | exact r_ret1 S rfl rfl ⟨by rw [beq_self_eq_true], by have := H.below; rw [hBw, hwb] at this; exact this⟩ | exact r_ret1 S rfl rfl ⟨by simp, by have := H.below; rw [hBw, hwb] at this; exact this⟩
 ·
  have c5 := bc5
  replace c5 := not_eq_false_ c5
  refine wp_skip ?_
  refine e_then ?_
  refine wp_seq ?_
  refine wp_seq ?_
  refine c_region ?_
  refine l_pure S (p_fieldAddr rfl (fun w => fa24_0 w _ _)) rfl rfl rfl ?_; clear S a; intro a S
  refine l_read S H (r_load rfl List.mem_cons_self rfl (fun w hc => ld1 ag3 hc)) rfl rfl rfl ?_; clear S a; intro a S
  have hcon := wr.typ_ wb _ B _ K H
  refine l_call S rfl rfl Tryz.func5 rfl rfl (hcon) rfl rfl rfl ?_
  rintro e w ⟨b2, rfl, hty, hH⟩
  refine ⟨_, rfl, ?_⟩; clear S a; intro a S
  clear H hcon; have H := hH; clear hH
  refine l_pure S (p_not rfl) rfl rfl rfl ?_; clear S a; intro a S
  refine l_mv 1 S rfl ?_; clear S a; intro a S
  refine l_split (S.of 16 rfl) (fun bc9 => ?_) (fun bc9 => ?_)
  ·
   have c9 := bc9
   replace c9 := not_eq_true_ c9
   refine l_off S rfl rfl rfl rfl bc9 rfl rfl ?_; clear S a; intro a S
   refine l_off S rfl rfl rfl rfl bc9 rfl rfl ?_; clear S a; intro a S
   refine l_off S rfl rfl rfl rfl bc9 rfl rfl ?_; clear S a; intro a S
   refine l_off S rfl rfl rfl rfl bc9 rfl rfl ?_; clear S a; intro a S
   refine l_pure S (p_pick_t rfl bc9 rfl) rfl rfl rfl ?_; clear S a; intro a S
   refine l_mv 1 S rfl ?_; clear S a; intro a S
   refine l_off S rfl rfl rfl rfl rfl rfl rfl ?_; clear S a; intro a S
   refine l_off S rfl rfl rfl rfl rfl rfl rfl ?_; clear S a; intro a S
   refine l_off S rfl rfl rfl rfl rfl rfl rfl ?_; clear S a; intro a S
   refine l_off S rfl rfl rfl rfl rfl rfl rfl ?_; clear S a; intro a S
   refine l_pure S (p_pick_t rfl rfl rfl) rfl rfl rfl ?_; clear S a; intro a S
   refine l_nil ?_
   refine e_then ?_
   refine c_cond (b := true) S rfl (fun _ => ?_) (fun h => by cases h)
   refine wp_seq ?_
   refine c_region ?_
   refine l_mv 1 S rfl ?_; clear S a; intro a S
   refine l_nil ?_
   refine e_then ?_
   refine wp_ret ?_
   refine e_then_ret ?_
   first | exact r_ret1 S rfl rfl ⟨rfl, by have := H.below; rw [hBw, hwb] at this; exact this⟩ | exact r_ret1 S rfl rfl ⟨by rw [beq_self_eq_true], by have := H.below; rw [hBw, hwb] at this; exact this⟩ | exact r_ret1 S rfl rfl ⟨by simp, by have := H.below; rw [hBw, hwb] at this; exact this⟩
  ·
   have c9 := bc9
   replace c9 := not_eq_false_ c9
   refine l_on S rfl rfl rfl rfl bc9 ?_
   refine l_pure S (p_fieldAddr rfl (fun w => fa24_1 w _ _)) rfl rfl rfl ?_; clear S a; intro a S
   refine l_on S rfl rfl rfl rfl bc9 ?_
   refine l_read S H (r_load rfl List.mem_cons_self rfl (fun w hc => ld1 ag9 hc)) rfl rfl rfl ?_; clear S a; intro a S
   refine l_on S rfl rfl rfl rfl bc9 ?_
   refine l_pure S (p_lens Tryz.underlying9 rfl) rfl rfl rfl ?_; clear S a; intro a S
   refine l_on S rfl rfl rfl rfl bc9 ?_
   refine l_pure S (p_gtr rfl rfl) rfl rfl rfl ?_; clear S a; intro a S
   refine l_pure S (p_pick_f rfl bc9 rfl) rfl rfl rfl ?_; clear S a; intro a S
   refine l_mv 1 S rfl ?_; clear S a; intro a S
   refine l_split (S.of 22 rfl) (fun bc15 => ?_) (fun bc15 => ?_)
   ·
    have c15 := bc15
    have c15 := of_decide_eq_true c15
    refine l_off S rfl rfl rfl rfl bc15 rfl rfl ?_; clear S a; intro a S
    refine l_off S rfl rfl rfl rfl bc15 rfl rfl ?_; clear S a; intro a S
    refine l_off S rfl rfl rfl rfl bc15 rfl rfl ?_; clear S a; intro a S
    refine l_off S rfl rfl rfl rfl bc15 rfl rfl ?_; clear S a; intro a S
    refine l_pure S (p_pick_t rfl bc15 rfl) rfl rfl rfl ?_; clear S a; intro a S
    refine l_nil ?_
    refine e_then ?_
    refine c_cond (b := true) S rfl (fun _ => ?_) (fun h => by cases h)
    refine wp_seq ?_
    refine c_region ?_
    refine l_mv 1 S rfl ?_; clear S a; intro a S
    refine l_nil ?_
    refine e_then ?_
    refine wp_ret ?_
    refine e_then_ret ?_
    first | exact r_ret1 S rfl rfl ⟨rfl, by have := H.below; rw [hBw, hwb] at this; exact this⟩ | exact r_ret1 S rfl rfl ⟨by rw [beq_self_eq_true], by have := H.below; rw [hBw, hwb] at this; exact this⟩ | exact r_ret1 S rfl rfl ⟨by simp, by have := H.below; rw [hBw, hwb] at this; exact this⟩
   ·
    have c15 := bc15
    have c15 := of_decide_eq_false c15
    refine l_on S rfl rfl rfl rfl bc15 ?_
    refine l_pure S (p_fieldAddr rfl (fun w => fa24_5 w _ _)) rfl rfl rfl ?_; clear S a; intro a S
    refine l_on S rfl rfl rfl rfl bc15 ?_
    refine l_read S H (r_load rfl List.mem_cons_self rfl (fun w hc => ld1 ag9 hc)) rfl rfl rfl ?_; clear S a; intro a S
    refine l_on S rfl rfl rfl rfl bc15 ?_
    refine l_pure S (p_lens Tryz.underlying9 rfl) rfl rfl rfl ?_; clear S a; intro a S
    refine l_on S rfl rfl rfl rfl bc15 ?_
    refine l_pure S (p_gtr rfl rfl) rfl rfl rfl ?_; clear S a; intro a S
    refine l_pure S (p_pick_f rfl bc15 rfl) rfl rfl rfl ?_; clear S a; intro a S
    refine l_nil ?_
    refine e_then ?_
    refine c_cond S rfl (fun bc20 => ?_) (fun bc20 => ?_)
    ·
     have c20 := bc20
     have c20 := of_decide_eq_true c20
     refine wp_seq ?_
     refine c_region ?_
     refine l_mv 1 S rfl ?_; clear S a; intro a S
     refine l_nil ?_
     refine e_then ?_
     refine wp_ret ?_
     refine e_then_ret ?_
     first | exact r_ret1 S rfl rfl ⟨rfl, by have := H.below; rw [hBw, hwb] at this; exact this⟩ | exact r_ret1 S rfl rfl ⟨by rw [beq_self_eq_true], by have := H.below; rw [hBw, hwb] at this; exact this⟩ | exact r_ret1 S rfl rfl ⟨by simp, by have := H.below; rw [hBw, hwb] at this; exact this⟩
    ·
     have c20 := bc20
     have c20 := of_decide_eq_false c20
     refine wp_skip ?_
     refine e_then ?_
     refine wp_seq ?_
     refine c_region ?_
     refine l_read S H (r_loadn (m := 8) (vs := [.int .i64 K, .string sv, .int .i64 nv, .float .f64 dv, .bool Bo, .string Fm, .int .i64 Num, .bool St]) rfl List.mem_cons_self ag24 sz24 rfl rfl) rfl rfl rfl ?_; clear S a; intro a S
     refine l_mv 1 S rfl ?_; clear S a; intro a S
     have hb1 : sv.size ≤ 2000 := by omega
     have hb2 : Fm.size ≤ 100 := by omega
     have hK := hty (by assumption)
     have hcon := wi.write_ w (Lib.tabBelow_of_tabIs (ht.on H.below).here) (mw.ptab_on hT H) K sv nv dv Bo Fm Num St ab (mw.mwire K sv nv dv Bo Fm Num St) (mw.mwire_pos _ _ _ _ _ _ _ _) (fun wb w0 B L0 H => mr.mar_ wb w0 B L0 K sv nv dv Bo Fm Num St hK hb1 hb2 hN hNum hF h61 ab H)
     refine l_call S rfl rfl Tryz.func6 rfl rfl (hcon) rfl rfl rfl ?_
     rintro e w ⟨rfl, hb⟩
     refine ⟨_, rfl, ?_⟩; clear S a; intro a S
     replace H := H.later hb; clear hb hcon
     refine l_mv 5 S rfl ?_; clear S a; intro a S
     refine l_nil ?_
     refine e_then ?_
     refine wp_seq ?_
     refine wp_seq ?_
     refine c_region ?_
     refine l_pure S (p_fieldAddr rfl (fun w => fa24_0 w _ _)) rfl rfl rfl ?_; clear S a; intro a S
     refine l_read S H (r_load rfl List.mem_cons_self rfl (fun w hc => ld1 ag3 hc)) rfl rfl rfl ?_; clear S a; intro a S
     refine l_pure S (p_eql rfl rfl) rfl rfl rfl ?_; clear S a; intro a S
     refine l_mv 1 S rfl ?_; clear S a; intro a S
     refine l_split (S.of 37 rfl) (fun bc24 => ?_) (fun bc24 => ?_)
     ·
      have c24 := bc24
      have c24 := eq_of_beq c24
      refine l_on S rfl rfl rfl rfl bc24 ?_
      refine l_pure S (p_fieldAddr rfl (fun w => fa24_5 w _ _)) rfl rfl rfl ?_; clear S a; intro a S
      refine l_on S rfl rfl rfl rfl bc24 ?_
      refine l_read S H (r_load rfl List.mem_cons_self rfl (fun w hc => ld1 ag9 hc)) rfl rfl rfl ?_; clear S a; intro a S
      refine l_on S rfl rfl rfl rfl bc24 ?_
      refine l_pure S (p_lens Tryz.underlying9 rfl) rfl rfl rfl ?_; clear S a; intro a S
      refine l_on S rfl rfl rfl rfl bc24 ?_
      refine l_pure S (p_neq rfl rfl) rfl rfl rfl ?_; clear S a; intro a S
      refine l_pure S (p_pick_t rfl bc24 rfl) rfl rfl rfl ?_; clear S a; intro a S
      refine l_nil ?_
      refine e_then ?_
      refine c_cond S rfl (fun c26 => by have c26 := bne_iff_ne.1 c26; exfalso; omega) (fun c26 => ?_)
      have c26 := bne_eq_false_iff_eq.1 c26
      refine wp_skip ?_
      refine e_then ?_
      refine wp_seq ?_
      refine c_region ?_
      refine l_mv 1 S rfl ?_; clear S a; intro a S
      refine l_pure S (p_eql rfl rfl) rfl rfl rfl ?_; clear S a; intro a S
      refine l_mv 1 S rfl ?_; clear S a; intro a S
      refine l_on S rfl rfl rfl rfl rfl ?_
      refine l_pure S (p_move rfl) rfl rfl rfl ?_; clear S a; intro a S
      refine l_on S rfl rfl rfl rfl rfl ?_
      refine l_read S H (r_loadn (m := 8) (vs := [.int .i64 K, .string sv, .int .i64 nv, .float .f64 dv, .bool Bo, .string Fm, .int .i64 Num, .bool St]) rfl List.mem_cons_self ag24 sz24 rfl rfl) rfl rfl rfl ?_; clear S a; intro a S
      refine l_on S rfl rfl rfl rfl rfl ?_
      have hcon := wr.wire_ wb _ B _ ht hT K sv nv dv Bo Fm Num St hK h61 hb1 hb2 hN hNum hF H
      refine l_call S rfl rfl Tryz.func7 rfl rfl (hcon) rfl rfl rfl ?_
      rintro e w ⟨rfl, hH⟩
      refine ⟨_, rfl, ?_⟩; clear S a; intro a S
      clear H hcon; have H := hH; clear hH
      refine l_on S rfl rfl rfl rfl rfl ?_
      refine l_pure S (p_seql rfl rfl) rfl rfl rfl ?_; clear S a; intro a S
      refine l_pure S (p_pick_t rfl rfl rfl) rfl rfl rfl ?_; clear S a; intro a S
      refine l_mv 1 S rfl ?_; clear S a; intro a S
      refine l_nil ?_
      refine e_then ?_
      refine wp_ret ?_
      first | exact r_ret1 S rfl rfl ⟨rfl, by have := H.below; rw [hBw, hwb] at this; exact this⟩ | exact r_ret1 S rfl rfl ⟨by rw [beq_self_eq_true], by have := H.below; rw [hBw, hwb] at this; exact this⟩ | exact r_ret1 S rfl rfl ⟨by simp, by have := H.below; rw [hBw, hwb] at this; exact this⟩
     ·
      have c24 := bc24
      have c24 := ne_of_beq_false c24
      refine l_off S rfl rfl rfl rfl bc24 rfl rfl ?_; clear S a; intro a S
      refine l_off S rfl rfl rfl rfl bc24 rfl rfl ?_; clear S a; intro a S
      refine l_off S rfl rfl rfl rfl bc24 rfl rfl ?_; clear S a; intro a S
      refine l_off S rfl rfl rfl rfl bc24 rfl rfl ?_; clear S a; intro a S
      refine l_pure S (p_pick_f rfl bc24 rfl) rfl rfl rfl ?_; clear S a; intro a S
      refine l_nil ?_
      refine e_then ?_
      refine c_cond (b := false) S rfl (fun h => by cases h) (fun _ => ?_)
      refine wp_skip ?_
      refine e_then ?_
      refine wp_seq ?_
      refine c_region ?_
      refine l_mv 1 S rfl ?_; clear S a; intro a S
      refine l_pure S (p_eql rfl rfl) rfl rfl rfl ?_; clear S a; intro a S
      refine l_mv 1 S rfl ?_; clear S a; intro a S
      refine l_on S rfl rfl rfl rfl rfl ?_
      refine l_pure S (p_move rfl) rfl rfl rfl ?_; clear S a; intro a S
      refine l_on S rfl rfl rfl rfl rfl ?_
      refine l_read S H (r_loadn (m := 8) (vs := [.int .i64 K, .string sv, .int .i64 nv, .float .f64 dv, .bool Bo, .string Fm, .int .i64 Num, .bool St]) rfl List.mem_cons_self ag24 sz24 rfl rfl) rfl rfl rfl ?_; clear S a; intro a S
      refine l_on S rfl rfl rfl rfl rfl ?_
      have hcon := wr.wire_ wb _ B _ ht hT K sv nv dv Bo Fm Num St hK h61 hb1 hb2 hN hNum hF H
      refine l_call S rfl rfl Tryz.func7 rfl rfl (hcon) rfl rfl rfl ?_
      rintro e w ⟨rfl, hH⟩
      refine ⟨_, rfl, ?_⟩; clear S a; intro a S
      clear H hcon; have H := hH; clear hH
      refine l_on S rfl rfl rfl rfl rfl ?_
      refine l_pure S (p_seql rfl rfl) rfl rfl rfl ?_; clear S a; intro a S
      refine l_pure S (p_pick_t rfl rfl rfl) rfl rfl rfl ?_; clear S a; intro a S
      refine l_mv 1 S rfl ?_; clear S a; intro a S
      refine l_nil ?_
      refine e_then ?_
      refine wp_ret ?_
      first | exact r_ret1 S rfl rfl ⟨rfl, by have := H.below; rw [hBw, hwb] at this; exact this⟩ | exact r_ret1 S rfl rfl ⟨by rw [beq_self_eq_true], by have := H.below; rw [hBw, hwb] at this; exact this⟩ | exact r_ret1 S rfl rfl ⟨by simp, by have := H.below; rw [hBw, hwb] at this; exact this⟩
set_option maxHeartbeats 2000000 in
theorem lawE_ (w0 : World) (ht0 : Lib.TabIs Tryz.prog w0 "internal/strconv.uint64pow10" .u64 Lib.pow10Tab) (hT0 : fz.PTab 3 w0.heap.size w0) (sv : ByteArray) (nv : Int) (dv : Nat) (Bo : Bool) (Fm : ByteArray) (Num : Int) (St : Bool) (ab : Bool) (hN : -9223372036854775808 ≤ nv ∧ nv ≤ 9223372036854775807) (hNum : -9223372036854775808 ≤ Num ∧ Num ≤ 9223372036854775807) (hF : dv < 18446744073709551616) (h3 : Fm.size ≠ 3) : Calls Tryz.prog 3 #[.agg #[.int .i64 61, .string sv, .int .i64 nv, .float .f64 dv, .bool Bo, .string Fm, .int .i64 Num, .bool St], .bool ab] w0 fun e w' => e = .returned (.bool true) ∧ Below w0.heap.size w0 w' := by
 obtain ⟨B, hBw⟩ : ∃ B, B = w0.heap.size := ⟨_, rfl⟩
 obtain ⟨wb, hwb⟩ : ∃ wb, wb = w0 := ⟨_, rfl⟩
 obtain ⟨L0, hL0⟩ : ∃ L0 : List (Nat × Obj), L0 = [] := ⟨_, rfl⟩
 have H : HH B wb w0 L0 := by subst hBw hwb hL0; exact HH.start _
 have ht : Lib.TabBelow Tryz.prog B wb "internal/strconv.uint64pow10" .u64 Lib.pow10Tab := by subst hBw hwb; exact Lib.tabBelow_of_tabIs ht0
 have hT : fz.PTab 3 B wb := by subst hBw hwb; exact hT0
 refine c_enter (args := [.agg #[.int .i64 61, .string sv, .int .i64 nv, .float .f64 dv, .bool Bo, .string Fm, .int .i64 Num, .bool St], .bool ab]) (k := 69) Tryz.func3 rfl rfl rfl (fun a S => ?_)
 refine wp_seq ?_
 refine c_region ?_
 refine l_box (cs := #[.int .i64 61, .string sv, .int .i64 nv, .float .f64 dv, .bool Bo, .string Fm, .int .i64 Num, .bool St]) S H rfl rfl (fun w => bx) rfl rfl rfl ?_; clear S a H; intro g1 w a H S
 refine l_mv 1 S rfl ?_; clear S a; intro a S
 refine l_nil ?_
 refine e_then ?_
 refine wp_seq ?_
 refine wp_seq ?_
 refine c_region ?_
 refine l_read S H (r_loadn (m := 8) (vs := [.int .i64 61, .string sv, .int .i64 nv, .float .f64 dv, .bool Bo, .string Fm, .int .i64 Num, .bool St]) rfl List.mem_cons_self ag24 sz24 rfl rfl) rfl rfl rfl ?_; clear S a; intro a S
 have hcon := wr.fits_ wb _ B _ 61 sv nv dv Bo Fm Num St H
 refine l_call S rfl rfl Tryz.func4 rfl rfl (hcon) rfl rfl rfl ?_
 rintro e w ⟨b1, rfl, hH⟩
 refine ⟨_, rfl, ?_⟩; clear S a; intro a S
 clear H hcon; have H := hH; clear hH
 refine l_pure S (p_not rfl) rfl rfl rfl ?_; clear S a; intro a S
 refine l_nil ?_
 refine e_then ?_
 refine c_cond S rfl (fun bc5 => ?_) (fun bc5 => ?_)
 ·
  have c5 := bc5
  replace c5 := not_eq_true_ c5
  refine wp_seq ?_
  refine c_region ?_
  refine l_mv 1 S rfl ?_; clear S a; intro a S
  refine l_nil ?_
  refine e_then ?_
  refine wp_ret ?_
  refine e_then_ret ?_
  first | exact r_ret1 S rfl rfl ⟨rfl, by have := H.below; rw [hBw, hwb] at this; exact this⟩ | exact r_ret1 S rfl rfl ⟨by rw [beq_self_eq_true], by have := H.below; rw [hBw, hwb] at this; exact this⟩ | exact r_ret1 S rfl rfl ⟨by simp, by have := H.below; rw [hBw, hwb] at this; exact this⟩
 ·
  have c5 := bc5
  replace c5 := not_eq_false_ c5
  refine wp_skip ?_
  refine e_then ?_
  refine wp_seq ?_
  refine wp_seq ?_
  refine c_region ?_
  refine l_pure S (p_fieldAddr rfl (fun w => fa24_0 w _ _)) rfl rfl rfl ?_; clear S a; intro a S
  refine l_read S H (r_load rfl List.mem_cons_self rfl (fun w hc => ld1 ag3 hc)) rfl rfl rfl ?_; clear S a; intro a S
  have hcon := wr.typ_ wb _ B _ 61 H
  refine l_call S rfl rfl Tryz.func5 rfl rfl (hcon) rfl rfl rfl ?_
  rintro e w ⟨b2, rfl, hty, hH⟩
  refine ⟨_, rfl, ?_⟩; clear S a; intro a S
  clear H hcon; have H := hH; clear hH
  refine l_pure S (p_not rfl) rfl rfl rfl ?_; clear S a; intro a S
  refine l_mv 1 S rfl ?_; clear S a; intro a S
  refine l_split (S.of 16 rfl) (fun bc9 => ?_) (fun bc9 => ?_)
  ·
   have c9 := bc9
   replace c9 := not_eq_true_ c9
   refine l_off S rfl rfl rfl rfl bc9 rfl rfl ?_; clear S a; intro a S
   refine l_off S rfl rfl rfl rfl bc9 rfl rfl ?_; clear S a; intro a S
   refine l_off S rfl rfl rfl rfl bc9 rfl rfl ?_; clear S a; intro a S
   refine l_off S rfl rfl rfl rfl bc9 rfl rfl ?_; clear S a; intro a S
   refine l_pure S (p_pick_t rfl bc9 rfl) rfl rfl rfl ?_; clear S a; intro a S
   refine l_mv 1 S rfl ?_; clear S a; intro a S
   refine l_off S rfl rfl rfl rfl rfl rfl rfl ?_; clear S a; intro a S
   refine l_off S rfl rfl rfl rfl rfl rfl rfl ?_; clear S a; intro a S
   refine l_off S rfl rfl rfl rfl rfl rfl rfl ?_; clear S a; intro a S
   refine l_off S rfl rfl rfl rfl rfl rfl rfl ?_; clear S a; intro a S
   refine l_pure S (p_pick_t rfl rfl rfl) rfl rfl rfl ?_; clear S a; intro a S
   refine l_nil ?_
   refine e_then ?_
   refine c_cond (b := true) S rfl (fun _ => ?_) (fun h => by cases h)
   refine wp_seq ?_
   refine c_region ?_
   refine l_mv 1 S rfl ?_; clear S a; intro a S
   refine l_nil ?_
   refine e_then ?_
   refine wp_ret ?_
   refine e_then_ret ?_
   first | exact r_ret1 S rfl rfl ⟨rfl, by have := H.below; rw [hBw, hwb] at this; exact this⟩ | exact r_ret1 S rfl rfl ⟨by rw [beq_self_eq_true], by have := H.below; rw [hBw, hwb] at this; exact this⟩ | exact r_ret1 S rfl rfl ⟨by simp, by have := H.below; rw [hBw, hwb] at this; exact this⟩
  ·
   have c9 := bc9
   replace c9 := not_eq_false_ c9
   refine l_on S rfl rfl rfl rfl bc9 ?_
   refine l_pure S (p_fieldAddr rfl (fun w => fa24_1 w _ _)) rfl rfl rfl ?_; clear S a; intro a S
   refine l_on S rfl rfl rfl rfl bc9 ?_
   refine l_read S H (r_load rfl List.mem_cons_self rfl (fun w hc => ld1 ag9 hc)) rfl rfl rfl ?_; clear S a; intro a S
   refine l_on S rfl rfl rfl rfl bc9 ?_
   refine l_pure S (p_lens Tryz.underlying9 rfl) rfl rfl rfl ?_; clear S a; intro a S
   refine l_on S rfl rfl rfl rfl bc9 ?_
   refine l_pure S (p_gtr rfl rfl) rfl rfl rfl ?_; clear S a; intro a S
   refine l_pure S (p_pick_f rfl bc9 rfl) rfl rfl rfl ?_; clear S a; intro a S
   refine l_mv 1 S rfl ?_; clear S a; intro a S
   refine l_split (S.of 22 rfl) (fun bc15 => ?_) (fun bc15 => ?_)
   ·
    have c15 := bc15
    have c15 := of_decide_eq_true c15
    refine l_off S rfl rfl rfl rfl bc15 rfl rfl ?_; clear S a; intro a S
    refine l_off S rfl rfl rfl rfl bc15 rfl rfl ?_; clear S a; intro a S
    refine l_off S rfl rfl rfl rfl bc15 rfl rfl ?_; clear S a; intro a S
    refine l_off S rfl rfl rfl rfl bc15 rfl rfl ?_; clear S a; intro a S
    refine l_pure S (p_pick_t rfl bc15 rfl) rfl rfl rfl ?_; clear S a; intro a S
    refine l_nil ?_
    refine e_then ?_
    refine c_cond (b := true) S rfl (fun _ => ?_) (fun h => by cases h)
    refine wp_seq ?_
    refine c_region ?_
    refine l_mv 1 S rfl ?_; clear S a; intro a S
    refine l_nil ?_
    refine e_then ?_
    refine wp_ret ?_
    refine e_then_ret ?_
    first | exact r_ret1 S rfl rfl ⟨rfl, by have := H.below; rw [hBw, hwb] at this; exact this⟩ | exact r_ret1 S rfl rfl ⟨by rw [beq_self_eq_true], by have := H.below; rw [hBw, hwb] at this; exact this⟩ | exact r_ret1 S rfl rfl ⟨by simp, by have := H.below; rw [hBw, hwb] at this; exact this⟩
   ·
    have c15 := bc15
    have c15 := of_decide_eq_false c15
    refine l_on S rfl rfl rfl rfl bc15 ?_
    refine l_pure S (p_fieldAddr rfl (fun w => fa24_5 w _ _)) rfl rfl rfl ?_; clear S a; intro a S
    refine l_on S rfl rfl rfl rfl bc15 ?_
    refine l_read S H (r_load rfl List.mem_cons_self rfl (fun w hc => ld1 ag9 hc)) rfl rfl rfl ?_; clear S a; intro a S
    refine l_on S rfl rfl rfl rfl bc15 ?_
    refine l_pure S (p_lens Tryz.underlying9 rfl) rfl rfl rfl ?_; clear S a; intro a S
    refine l_on S rfl rfl rfl rfl bc15 ?_
    refine l_pure S (p_gtr rfl rfl) rfl rfl rfl ?_; clear S a; intro a S
    refine l_pure S (p_pick_f rfl bc15 rfl) rfl rfl rfl ?_; clear S a; intro a S
    refine l_nil ?_
    refine e_then ?_
    refine c_cond S rfl (fun bc20 => ?_) (fun bc20 => ?_)
    ·
     have c20 := bc20
     have c20 := of_decide_eq_true c20
     refine wp_seq ?_
     refine c_region ?_
     refine l_mv 1 S rfl ?_; clear S a; intro a S
     refine l_nil ?_
     refine e_then ?_
     refine wp_ret ?_
     refine e_then_ret ?_
     first | exact r_ret1 S rfl rfl ⟨rfl, by have := H.below; rw [hBw, hwb] at this; exact this⟩ | exact r_ret1 S rfl rfl ⟨by rw [beq_self_eq_true], by have := H.below; rw [hBw, hwb] at this; exact this⟩ | exact r_ret1 S rfl rfl ⟨by simp, by have := H.below; rw [hBw, hwb] at this; exact this⟩
    ·
     have c20 := bc20
     have c20 := of_decide_eq_false c20
     refine wp_skip ?_
     refine e_then ?_
     refine wp_seq ?_
     refine c_region ?_
     refine l_read S H (r_loadn (m := 8) (vs := [.int .i64 61, .string sv, .int .i64 nv, .float .f64 dv, .bool Bo, .string Fm, .int .i64 Num, .bool St]) rfl List.mem_cons_self ag24 sz24 rfl rfl) rfl rfl rfl ?_; clear S a; intro a S
     refine l_mv 1 S rfl ?_; clear S a; intro a S
     have hb1 : sv.size ≤ 2000 := by omega
     have hb2 : Fm.size ≤ 100 := by omega
     have hcon := wi.writeE_ w (Lib.tabBelow_of_tabIs (ht.on H.below).here) (mw.ptab_on hT H) 61 sv nv dv Bo Fm Num St ab (fun wb w0 B L0 H => by
      cases ab
      ·
       exact wi.marEf_ wb w0 B L0 sv nv dv Bo Fm Num St hb1 hb2 h3 H
      ·
       exact wi.marEt_ wb w0 B L0 sv nv dv Bo Fm Num St hb1 hb2 h3 H)
     refine l_call S rfl rfl Tryz.func6 rfl rfl (hcon) rfl rfl rfl ?_
     rintro e w ⟨rfl, hb⟩
     refine ⟨_, rfl, ?_⟩; clear S a; intro a S
     replace H := H.later hb; clear hb hcon
     rw [show strOfNums [] = ⟨#[]⟩ from rfl] at S
     refine l_mv 5 S rfl ?_; clear S a; intro a S
     refine l_nil ?_
     refine e_then ?_
     refine wp_seq ?_
     refine wp_seq ?_
     refine c_region ?_
     refine l_pure S (p_fieldAddr rfl (fun w => fa24_0 w _ _)) rfl rfl rfl ?_; clear S a; intro a S
     refine l_read S H (r_load rfl List.mem_cons_self rfl (fun w hc => ld1 ag3 hc)) rfl rfl rfl ?_; clear S a; intro a S
     refine l_pure S (p_eql rfl rfl) rfl rfl rfl ?_; clear S a; intro a S
     refine l_mv 1 S rfl ?_; clear S a; intro a S
     refine l_on S rfl rfl rfl rfl rfl ?_
     refine l_pure S (p_fieldAddr rfl (fun w => fa24_5 w _ _)) rfl rfl rfl ?_; clear S a; intro a S
     refine l_on S rfl rfl rfl rfl rfl ?_
     refine l_read S H (r_load rfl List.mem_cons_self rfl (fun w hc => ld1 ag9 hc)) rfl rfl rfl ?_; clear S a; intro a S
     refine l_on S rfl rfl rfl rfl rfl ?_
     refine l_pure S (p_lens Tryz.underlying9 rfl) rfl rfl rfl ?_; clear S a; intro a S
     refine l_on S rfl rfl rfl rfl rfl ?_
     refine l_pure S (p_neq rfl rfl) rfl rfl rfl ?_; clear S a; intro a S
     refine l_pure S (p_pick_t rfl rfl rfl) rfl rfl rfl ?_; clear S a; intro a S
     refine l_nil ?_
     refine e_then ?_
     refine c_cond S rfl (fun c25 => ?_) (fun c25 => by have c25 := bne_eq_false_iff_eq.1 c25; exfalso; omega)
     have c25 := bne_iff_ne.1 c25
     refine wp_seq ?_
     refine c_region ?_
     refine l_pure S (p_bld (ps := [(0, .const (.int .i64 61)), (5, .const (.string ⟨#[116, 120, 116]⟩))]) rfl (bld24_0_5 _ _)) rfl rfl rfl ?_; clear S a; intro a S
     refine l_mv 1 S rfl ?_; clear S a; intro a S
     have hcon := wi.write_ w (Lib.tabBelow_of_tabIs (ht.on H.below).here) (mw.ptab_on hT H) 61 ⟨#[]⟩ 0 0 false ⟨#[116, 120, 116]⟩ 0 false ab (mw.mwire 61 ⟨#[]⟩ 0 0 false ⟨#[116, 120, 116]⟩ 0 false) (mw.mwire_pos _ _ _ _ _ _ _ _) (fun wb w0 B L0 H => mr.mar_ wb w0 B L0 61 ⟨#[]⟩ 0 0 false ⟨#[116, 120, 116]⟩ 0 false (by unfold mw.typed; omega) (by decide) (by decide) (by decide) (by decide) (by decide) (fun _ => rfl) ab H)
     refine l_call S rfl rfl Tryz.func6 rfl rfl (hcon) rfl rfl rfl ?_
     rintro e w ⟨rfl, hb⟩
     refine ⟨_, rfl, ?_⟩; clear S a; intro a S
     replace H := H.later hb; clear hb hcon
     rw [show strOfNums (mw.mwire 61 ⟨#[]⟩ 0 0 false ⟨#[116, 120, 116]⟩ 0 false) = ⟨#[61, 52, 13, 10, 116, 120, 116, 58, 13, 10]⟩ from wtxt] at S
     refine l_mv 5 S rfl ?_; clear S a; intro a S
     refine l_nil ?_
     refine e_then ?_
     refine wp_seq ?_
     refine c_region ?_
     refine l_mv 1 S rfl ?_; clear S a; intro a S
     refine l_pure S (p_eql rfl rfl) rfl rfl rfl ?_; clear S a; intro a S
     refine l_mv 1 S rfl ?_; clear S a; intro a S
     refine l_on S rfl rfl rfl rfl rfl ?_
     refine l_pure S (p_move rfl) rfl rfl rfl ?_; clear S a; intro a S
     refine l_on S rfl rfl rfl rfl rfl ?_
     refine l_pure S (p_seql rfl rfl) rfl rfl rfl ?_; clear S a; intro a S
     refine l_pure S (p_pick_t rfl rfl rfl) rfl rfl rfl ?_; clear S a; intro a S
     refine l_mv 1 S rfl ?_; clear S a; intro a S
     refine l_on S rfl rfl rfl rfl (beq_self_eq_true _) ?_
     refine l_pure S (p_move rfl) rfl rfl rfl ?_; clear S a; intro a S
     refine l_on S rfl rfl rfl rfl (beq_self_eq_true _) ?_
     refine l_pure S (p_eql rfl rfl) rfl rfl rfl ?_; clear S a; intro a S
     refine l_pure S (p_pick_t rfl (beq_self_eq_true _) rfl) rfl rfl rfl ?_; clear S a; intro a S
     refine l_mv 1 S rfl ?_; clear S a; intro a S
     refine l_on S rfl rfl rfl rfl rfl ?_
     refine l_pure S (p_move rfl) rfl rfl rfl ?_; clear S a; intro a S
     refine l_on S rfl rfl rfl rfl rfl ?_
     refine l_pure S (p_seql rfl rfl) rfl rfl rfl ?_; clear S a; intro a S
     refine l_pure S (p_pick_t rfl rfl rfl) rfl rfl rfl ?_; clear S a; intro a S
     refine l_mv 1 S rfl ?_; clear S a; intro a S
     refine l_nil ?_
     refine e_then ?_
     refine wp_ret ?_
     refine e_then_ret ?_
     first | exact r_ret1 S rfl rfl ⟨rfl, by have := H.below; rw [hBw, hwb] at this; exact this⟩ | exact r_ret1 S rfl rfl ⟨by rw [beq_self_eq_true], by have := H.below; rw [hBw, hwb] at this; exact this⟩ | exact r_ret1 S rfl rfl ⟨by simp, by have := H.below; rw [hBw, hwb] at this; exact this⟩
theorem law_ (w0 : World) (ht0 : Lib.TabIs Tryz.prog w0 "internal/strconv.uint64pow10" .u64 Lib.pow10Tab) (hT0 : fz.PTab 3 w0.heap.size w0) (K : Int) (sv : ByteArray) (nv : Int) (dv : Nat) (Bo : Bool) (Fm : ByteArray) (Num : Int) (St : Bool) (ab : Bool) (hN : -9223372036854775808 ≤ nv ∧ nv ≤ 9223372036854775807) (hNum : -9223372036854775808 ≤ Num ∧ Num ≤ 9223372036854775807) (hF : dv < 18446744073709551616) : Calls Tryz.prog 3 #[.agg #[.int .i64 K, .string sv, .int .i64 nv, .float .f64 dv, .bool Bo, .string Fm, .int .i64 Num, .bool St], .bool ab] w0 fun e w' => e = .returned (.bool true) ∧ Below w0.heap.size w0 w' := by
 by_cases h : K = 61 ∧ Fm.size ≠ 3
 ·
  obtain ⟨rfl, h3⟩ := h
  exact lawE_ w0 ht0 hT0 sv nv dv Bo Fm Num St ab hN hNum hF h3
 ·
  exact lawN_ w0 ht0 hT0 K sv nv dv Bo Fm Num St ab hN hNum hF (fun e => by omega)
end la
end Go.Proofs.YtfbfmcjjohiikaaGreatDoor.mw
end
