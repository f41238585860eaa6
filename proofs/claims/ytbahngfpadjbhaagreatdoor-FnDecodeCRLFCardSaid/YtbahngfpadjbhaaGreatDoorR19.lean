/- Part of the proof that FnDecodeCRLF answers true at every text, in every world that its card's statement admits; no condition beyond those. -/
import Derived.Test.YtbahngfpadjbhaaGreatDoorProg
import Derived.Test.YtbahngfpadjbhaaGreatDoorR04
import Derived.Test.YtbahngfpadjbhaaGreatDoorR03
set_option linter.unusedVariables false
set_option linter.unusedSimpArgs false
section
namespace Go.Proofs.YtbahngfpadjbhaaGreatDoor.u8
open Go.RowKit Go.Proofs.HHW Go.Proofs.YtbahngfpadjbhaaGreatDoorW.PrintWords
set_option maxHeartbeats 1000000 in
theorem utf8_ (wb w0 : World) (B : Nat) (L0 : List (Nat × Obj)) (s : ByteArray) (H : HH B wb w0 L0) (hs : s.size ≤ 9223372036854775000) : Calls Tryz.prog 86 #[.string s] w0 fun e w' => e = .returned (.bool (up.V s 0)) ∧ HH B wb w' L0 := by
 refine c_enter (args := [.string s]) (k := 80) Tryz.func86 rfl rfl rfl ?_
 refine pS (pG (pP (p_assign rfl) rfl (pL (pT (pS (pS (pG (pP (p_assign rfl) rfl (pL (pT (pB ?_)))))))))));intro a S
 refine c_loop (σ := Nat) (fun s_ a w => match s_ with | i => SL a 81 [] [(0, .string s), (3, .int .i64 (i : Int))] ∧ HH (B) wb w L0 ∧ (i ≤ s.size ∧ up.V s 0 = up.V s i)) (fun s_ => match s_ with | i => s.size - i) 0 ⟨S.only ⟨rfl, rfl, trivial⟩, H, ⟨Nat.zero_le _, rfl⟩⟩ ?_
 clear S a H; rintro i a w ⟨S, H, hinv⟩
 obtain ⟨hi0, hV⟩ := hinv
 revert a;refine pS (pS (pG (pP (p_move rfl) rfl (pP (p_move rfl) rfl (pP (p_lens Tryz.underlying9 rfl) rfl (pP (p_lss rfl rfl) rfl (pL (pT (zc rfl (fun c3 => ?_) (fun c3 => ?_))))))))))
 ·
  have c3 := of_decide_eq_true c3
  refine pK (pT (pB (pS (pG (pP (p_move rfl) rfl (pP (p_move rfl) rfl (pP (p_index rfl rfl (fun w => ix_string Tryz.underlying9 (by omega) (by omega))) rfl (pP (p_assign rfl) rfl (pL (pT (pS (pG (pP (p_assign rfl) rfl (pP (p_assign rfl) rfl (pP (p_assign rfl) rfl (pL (pT ?_)))))))))))))))));intro a S
  refine c_cut (fun a w => ∃ need : Nat, ∃ lo : Int, ∃ hi : Int, SL a 81 [] [(0, .string s), (3, .int .i64 (i : Int)), (5, .int .i64 (need : Int)), (6, .int .u8 lo), (7, .int .u8 hi)] ∧ HH (B) wb w L0 ∧ up.Lead (HHW.bt s (i : Int)) need lo hi) ?_ ?_
  ·
   clear S a H; rintro a w ⟨need, lo, hi, S, H, hinv⟩
   have hneed := hinv.le
   revert a;refine pS (pS (pG (pP (p_assign rfl) rfl (pL (pT (pB ?_))))))
   have hL := hinv; clear hinv
   intro a S
   refine c_loop (σ := Nat × Int × Int) (fun s_ a w => match s_ with | ⟨j, l, h⟩ => SL a 81 [] [(0, .string s), (3, .int .i64 (i : Int)), (5, .int .i64 (need : Int)), (6, .int .u8 l), (7, .int .u8 h), (8, .int .i64 (j : Int))] ∧ HH (B) wb w L0 ∧ (up.Inn s i need lo hi j l h)) (fun s_ => match s_ with | ⟨j, l, h⟩ => need + 1 - j) ⟨1, lo, hi⟩ ⟨S.only ⟨rfl, rfl, rfl, rfl, rfl, rfl, trivial⟩, H, up.Inn.start hneed⟩ ?_
   clear S a H; rintro ⟨j, l, h⟩ a w ⟨S, H, hinv⟩
   have hI := hinv
   have hjj : 1 ≤ j ∧ j ≤ need + 1 := ⟨hI.1, hI.2.1⟩
   have hr := HHW.bt_range s ((i + j : Nat) : Int)
   revert a;refine pS (pS (pG (pP (p_move rfl) rfl (pP (p_move rfl) rfl (pP (p_leq rfl rfl) rfl (pL (pT (zc rfl (fun c5 => ?_) (fun c5 => ?_)))))))))
   ·
    have c5 := of_decide_eq_true c5
    refine pK (pT (pS (pB (pS (pS (pG (pP (p_move rfl) rfl (pP (p_move rfl) rfl (pP (p_add rfl rfl (nat_add (x := i) (y := j) (by omega))) rfl (pP (p_move rfl) rfl (pP (p_lens Tryz.underlying9 rfl) rfl (pP (p_geq rfl rfl) rfl (pP (p_move rfl) rfl ?_)))))))))))));intro a S
    refine l_split (S.of 59 rfl) (fun bc7 => ?_) (fun bc7 => ?_)
    ·
     have c7 := of_decide_eq_true bc7
     revert a;refine pO bc7 rfl (pO bc7 rfl (pO bc7 rfl (pO bc7 rfl (pO bc7 rfl (pO bc7 rfl (pO bc7 rfl (pP (p_pick_t rfl bc7 rfl) rfl (pP (p_move rfl) rfl (pO rfl rfl (pO rfl rfl (pO rfl rfl (pO rfl rfl (pO rfl rfl (pO rfl rfl (pO rfl rfl (pP (p_pick_t rfl rfl rfl) rfl (pL (pT (zt (pS (pG (pP (p_assign rfl) rfl (pL (pT (pZ (pU (pJ (pU (pU (pJ (pU (pJ (pU (pJ (pU ?_)))))))))))))))))))))))))))))))))));intro a S
     exact r_ret1 S rfl rfl ⟨by rw [hV, (up.step (by omega) hL).2 (hI.bad (by omega) (by omega))], H⟩
    have c7 := of_decide_eq_false bc7
    revert a;refine pN bc7 (pP (p_move rfl) rfl (pN bc7 (pP (p_move rfl) rfl (pN bc7 (pP (p_move rfl) rfl (pN bc7 (pP (p_add rfl rfl (nat_add (x := i) (y := j) (by omega))) rfl (pN bc7 (pP (p_index rfl rfl (fun w => ix_string Tryz.underlying9 (by omega) (by omega))) rfl (pN bc7 (pP (p_move rfl) rfl (pN bc7 (pP (p_lss rfl rfl) rfl (pP (p_pick_f rfl bc7 rfl) rfl (pP (p_move rfl) rfl ?_)))))))))))))));intro a S
    refine l_split (S.of 68 rfl) (fun bc13 => ?_) (fun bc13 => ?_)
    ·
     have c13 := of_decide_eq_true bc13
     revert a;refine pO bc13 rfl (pO bc13 rfl (pO bc13 rfl (pO bc13 rfl (pO bc13 rfl (pO bc13 rfl (pO bc13 rfl (pP (p_pick_t rfl bc13 rfl) rfl (pL (pT (zt (pS (pG (pP (p_assign rfl) rfl (pL (pT (pZ (pU (pJ (pU (pU (pJ (pU (pJ (pU (pJ (pU ?_))))))))))))))))))))))))));intro a S
     exact r_ret1 S rfl rfl ⟨by rw [hV, (up.step (by omega) hL).2 (hI.bad (by omega) (by omega))], H⟩
    have c13 := of_decide_eq_false bc13
    revert a;refine pN bc13 (pP (p_move rfl) rfl (pN bc13 (pP (p_move rfl) rfl (pN bc13 (pP (p_move rfl) rfl (pN bc13 (pP (p_add rfl rfl (nat_add (x := i) (y := j) (by omega))) rfl (pN bc13 (pP (p_index rfl rfl (fun w => ix_string Tryz.underlying9 (by omega) (by omega))) rfl (pN bc13 (pP (p_move rfl) rfl (pN bc13 (pP (p_gtr rfl rfl) rfl (pP (p_pick_f rfl bc13 rfl) rfl (pL (pT (zc rfl (fun c18 => ?_) (fun c18 => ?_))))))))))))))))))
    ·
     have c18 := of_decide_eq_true c18
     refine pS (pG (pP (p_assign rfl) rfl (pL (pT (pZ (pU (pJ (pU (pU (pJ (pU (pJ (pU (pJ (pU ?_)))))))))))))));intro a S
     exact r_ret1 S rfl rfl ⟨by rw [hV, (up.step (by omega) hL).2 (hI.bad (by omega) (by omega))], H⟩
    have c18 := of_decide_eq_false c18
    refine pK (pT (pG (pP (p_assign rfl) rfl (pP (p_assign rfl) rfl (pL (pI 4 (pT (pG (pP (p_move rfl) rfl (pP (p_add rfl rfl (nat_add (x := j) (y := 1) (by omega))) rfl (pP (p_assign rfl) rfl (pL (pT ?_)))))))))))));intro a S
    exact ⟨⟨j + 1, 128, 191⟩, ⟨S.only ⟨rfl, rfl, rfl, rfl, rfl, rfl, trivial⟩, H, hI.next (by omega) (by omega) (by omega) (by omega)⟩, (show need + 1 - (j + 1) < need + 1 - j by omega)⟩
   have c5 := of_decide_eq_false c5
   have hok := hI.done (by omega)
   clear hinv; have hinv : up.Lead (HHW.bt s (i : Int)) need lo hi := hL
   refine pX (pV (pV (pW (pT (pG (pP (p_move rfl) rfl (pP (p_move rfl) rfl (pP (p_add rfl rfl (nat_add (x := need) (y := 1) (by omega))) rfl (pP (p_add rfl rfl (nat_add (x := i) (y := (need + 1)) (by omega))) rfl (pP (p_assign rfl) rfl (pL (pI 1 (pT ?_)))))))))))));intro a S
   exact ⟨(i + (need + 1)), ⟨S.only ⟨rfl, rfl, trivial⟩, H, ⟨by omega, hV.trans ((up.step (by omega) hinv).1 hok.1)⟩⟩, (show s.size - (i + (need + 1)) < s.size - i by omega)⟩
  revert a;refine pB (pS (pG (pP (p_move rfl) rfl (pP (p_lss rfl rfl) rfl (pP (p_assign rfl) rfl (pL (pT (zc rfl (fun c21 => ?_) (fun c21 => ?_)))))))))
  ·
   have c21 := of_decide_eq_true c21
   refine pK (pI 2 (pT ?_));intro a S
   exact ⟨0, 128, 191, S.only ⟨rfl, rfl, rfl, rfl, rfl, trivial⟩, H, (by unfold up.Lead; omega)⟩
  have c21 := of_decide_eq_false c21
  refine pS (pG (pP (p_move rfl) rfl (pP (p_geq rfl rfl) rfl (pP (p_move rfl) rfl ?_))));intro a S
  refine l_split (S.of 22 rfl) (fun bc23 => ?_) (fun bc23 => ?_)
  ·
   have c23 := of_decide_eq_true bc23
   revert a;refine pN bc23 (pP (p_move rfl) rfl (pN bc23 (pP (p_leq rfl rfl) rfl (pP (p_pick_t rfl bc23 rfl) rfl (pP (p_assign rfl) rfl (pL (pT (zc rfl (fun c25 => ?_) (fun c25 => ?_)))))))))
   ·
    have c25 := of_decide_eq_true c25
    refine pG (pP (p_assign rfl) rfl (pL (pI 2 (pT ?_))));intro a S
    exact ⟨1, 128, 191, S.only ⟨rfl, rfl, rfl, rfl, rfl, trivial⟩, H, (by unfold up.Lead; omega)⟩
   have c25 := of_decide_eq_false c25
   refine pS (pG (pP (p_move rfl) rfl (pP (p_geq rfl rfl) rfl (pP (p_move rfl) rfl ?_))));intro a S
   refine l_split (S.of 29 rfl) (fun bc27 => ?_) (fun bc27 => ?_)
   ·
    have c27 := of_decide_eq_true bc27
    revert a;refine pN bc27 (pP (p_move rfl) rfl (pN bc27 (pP (p_leq rfl rfl) rfl (pP (p_pick_t rfl bc27 rfl) rfl (pP (p_assign rfl) rfl (pL (pT (zc rfl (fun c29 => ?_) (fun c29 => ?_)))))))))
    ·
     have c29 := of_decide_eq_true c29
     refine pS (pG (pP (p_assign rfl) rfl (pL (pT (pS (pS (pG (pP (p_move rfl) rfl (pP (p_eql rfl rfl) rfl (pL (pT (zc rfl (fun c31 => ?_) (fun c31 => ?_)))))))))))))
     ·
      have c31 := eq_of_beq c31
      refine pG (pP (p_assign rfl) rfl (pL (pT (pS (pG (pP (p_move rfl) rfl (pP (p_eql rfl rfl) rfl (pL (pT (zc rfl (fun c33 => ?_) (fun c33 => ?_)))))))))))
      ·
       have c33 := eq_of_beq c33
       refine pG (pP (p_assign rfl) rfl (pL (pI 2 (pT ?_))));intro a S
       exact ⟨2, 160, 159, S.only ⟨rfl, rfl, rfl, rfl, rfl, trivial⟩, H, (by unfold up.Lead; omega)⟩
      have c33 := ne_of_beq_false c33
      refine pK (pI 2 (pT ?_));intro a S
      exact ⟨2, 160, 191, S.only ⟨rfl, rfl, rfl, rfl, rfl, trivial⟩, H, (by unfold up.Lead; omega)⟩
     have c31 := ne_of_beq_false c31
     refine pK (pT (pS (pG (pP (p_move rfl) rfl (pP (p_eql rfl rfl) rfl (pL (pT (zc rfl (fun c35 => ?_) (fun c35 => ?_)))))))))
     ·
      have c35 := eq_of_beq c35
      refine pG (pP (p_assign rfl) rfl (pL (pI 2 (pT ?_))));intro a S
      exact ⟨2, 128, 159, S.only ⟨rfl, rfl, rfl, rfl, rfl, trivial⟩, H, (by unfold up.Lead; omega)⟩
     have c35 := ne_of_beq_false c35
     refine pK (pI 2 (pT ?_));intro a S
     exact ⟨2, 128, 191, S.only ⟨rfl, rfl, rfl, rfl, rfl, trivial⟩, H, (by unfold up.Lead; omega)⟩
    have c29 := of_decide_eq_false c29
    refine pS (pG (pP (p_move rfl) rfl (pP (p_geq rfl rfl) rfl (pP (p_move rfl) rfl ?_))));intro a S
    refine l_split (S.of 40 rfl) (fun bc37 => ?_) (fun bc37 => ?_)
    ·
     have c37 := of_decide_eq_true bc37
     revert a;refine pN bc37 (pP (p_move rfl) rfl (pN bc37 (pP (p_leq rfl rfl) rfl (pP (p_pick_t rfl bc37 rfl) rfl (pP (p_assign rfl) rfl (pL (pT (zc rfl (fun c39 => ?_) (fun c39 => ?_)))))))))
     ·
      have c39 := of_decide_eq_true c39
      refine pS (pG (pP (p_assign rfl) rfl (pL (pT (pS (pS (pG (pP (p_move rfl) rfl (pP (p_eql rfl rfl) rfl (pL (pT (zc rfl (fun c41 => ?_) (fun c41 => ?_)))))))))))))
      ·
       have c41 := eq_of_beq c41
       refine pG (pP (p_assign rfl) rfl (pL (pT (pS (pG (pP (p_move rfl) rfl (pP (p_eql rfl rfl) rfl (pL (pT (zc rfl (fun c43 => ?_) (fun c43 => ?_)))))))))))
       ·
        have c43 := eq_of_beq c43
        refine pG (pP (p_assign rfl) rfl (pL (pI 2 (pT ?_))));intro a S
        exact ⟨3, 144, 143, S.only ⟨rfl, rfl, rfl, rfl, rfl, trivial⟩, H, (by unfold up.Lead; omega)⟩
       have c43 := ne_of_beq_false c43
       refine pK (pI 2 (pT ?_));intro a S
       exact ⟨3, 144, 191, S.only ⟨rfl, rfl, rfl, rfl, rfl, trivial⟩, H, (by unfold up.Lead; omega)⟩
      have c41 := ne_of_beq_false c41
      refine pK (pT (pS (pG (pP (p_move rfl) rfl (pP (p_eql rfl rfl) rfl (pL (pT (zc rfl (fun c45 => ?_) (fun c45 => ?_)))))))))
      ·
       have c45 := eq_of_beq c45
       refine pG (pP (p_assign rfl) rfl (pL (pI 2 (pT ?_))));intro a S
       exact ⟨3, 128, 143, S.only ⟨rfl, rfl, rfl, rfl, rfl, trivial⟩, H, (by unfold up.Lead; omega)⟩
      have c45 := ne_of_beq_false c45
      refine pK (pI 2 (pT ?_));intro a S
      exact ⟨3, 128, 191, S.only ⟨rfl, rfl, rfl, rfl, rfl, trivial⟩, H, (by unfold up.Lead; omega)⟩
     have c39 := of_decide_eq_false c39
     refine pS (pG (pP (p_assign rfl) rfl (pL (pT (pZ (pJ (pU (pJ (pU (pJ (pU ?_)))))))))));intro a S
     exact r_ret1 S rfl rfl ⟨by rw [hV, up.bad (by omega) (by omega)], H⟩
    have c37 := of_decide_eq_false bc37
    revert a;refine pO bc37 rfl (pO bc37 rfl (pP (p_pick_f rfl bc37 rfl) rfl (pP (p_assign rfl) rfl (pL (pT (zf (pS (pG (pP (p_assign rfl) rfl (pL (pT (pZ (pJ (pU (pJ (pU (pJ (pU ?_))))))))))))))))));intro a S
    exact r_ret1 S rfl rfl ⟨by rw [hV, up.bad (by omega) (by omega)], H⟩
   have c27 := of_decide_eq_false bc27
   revert a;refine pO bc27 rfl (pO bc27 rfl (pP (p_pick_f rfl bc27 rfl) rfl (pP (p_assign rfl) rfl (pL (pT (zf (pS (pG (pP (p_move rfl) rfl (pP (p_geq rfl rfl) rfl (pP (p_move rfl) rfl ?_)))))))))));intro a S
   refine l_split (S.of 40 rfl) (fun bc53 => ?_) (fun bc53 => ?_)
   ·
    have c53 := of_decide_eq_true bc53
    revert a;refine pN bc53 (pP (p_move rfl) rfl (pN bc53 (pP (p_leq rfl rfl) rfl (pP (p_pick_t rfl bc53 rfl) rfl (pP (p_assign rfl) rfl (pL (pT (zc rfl (fun c55 => ?_) (fun c55 => ?_)))))))))
    ·
     have c55 := of_decide_eq_true c55
     refine pS (pG (pP (p_assign rfl) rfl (pL (pT (pS (pS (pG (pP (p_move rfl) rfl (pP (p_eql rfl rfl) rfl (pL (pT (zc rfl (fun c57 => ?_) (fun c57 => ?_)))))))))))))
     ·
      have c57 := eq_of_beq c57
      refine pG (pP (p_assign rfl) rfl (pL (pT (pS (pG (pP (p_move rfl) rfl (pP (p_eql rfl rfl) rfl (pL (pT (zc rfl (fun c59 => ?_) (fun c59 => ?_)))))))))))
      ·
       have c59 := eq_of_beq c59
       refine pG (pP (p_assign rfl) rfl (pL (pI 2 (pT ?_))));intro a S
       exact ⟨3, 144, 143, S.only ⟨rfl, rfl, rfl, rfl, rfl, trivial⟩, H, (by unfold up.Lead; omega)⟩
      have c59 := ne_of_beq_false c59
      refine pK (pI 2 (pT ?_));intro a S
      exact ⟨3, 144, 191, S.only ⟨rfl, rfl, rfl, rfl, rfl, trivial⟩, H, (by unfold up.Lead; omega)⟩
     have c57 := ne_of_beq_false c57
     refine pK (pT (pS (pG (pP (p_move rfl) rfl (pP (p_eql rfl rfl) rfl (pL (pT (zc rfl (fun c61 => ?_) (fun c61 => ?_)))))))))
     ·
      have c61 := eq_of_beq c61
      refine pG (pP (p_assign rfl) rfl (pL (pI 2 (pT ?_))));intro a S
      exact ⟨3, 128, 143, S.only ⟨rfl, rfl, rfl, rfl, rfl, trivial⟩, H, (by unfold up.Lead; omega)⟩
     have c61 := ne_of_beq_false c61
     refine pK (pI 2 (pT ?_));intro a S
     exact ⟨3, 128, 191, S.only ⟨rfl, rfl, rfl, rfl, rfl, trivial⟩, H, (by unfold up.Lead; omega)⟩
    have c55 := of_decide_eq_false c55
    refine pS (pG (pP (p_assign rfl) rfl (pL (pT (pZ (pJ (pU (pJ (pU (pJ (pU ?_)))))))))));intro a S
    exact r_ret1 S rfl rfl ⟨by rw [hV, up.bad (by omega) (by omega)], H⟩
   have c53 := of_decide_eq_false bc53
   revert a;refine pO bc53 rfl (pO bc53 rfl (pP (p_pick_f rfl bc53 rfl) rfl (pP (p_assign rfl) rfl (pL (pT (zf (pS (pG (pP (p_assign rfl) rfl (pL (pT (pZ (pJ (pU (pJ (pU (pJ (pU ?_))))))))))))))))));intro a S
   exact r_ret1 S rfl rfl ⟨by rw [hV, up.bad (by omega) (by omega)], H⟩
  have c23 := of_decide_eq_false bc23
  revert a;refine pO bc23 rfl (pO bc23 rfl (pP (p_pick_f rfl bc23 rfl) rfl (pP (p_assign rfl) rfl (pL (pT (zf (pS (pG (pP (p_move rfl) rfl (pP (p_geq rfl rfl) rfl (pP (p_move rfl) rfl ?_)))))))))));intro a S
  refine l_split (S.of 29 rfl) (fun bc69 => ?_) (fun bc69 => ?_)
  ·
   have c69 := of_decide_eq_true bc69
   revert a;refine pN bc69 (pP (p_move rfl) rfl (pN bc69 (pP (p_leq rfl rfl) rfl (pP (p_pick_t rfl bc69 rfl) rfl (pP (p_assign rfl) rfl (pL (pT (zc rfl (fun c71 => ?_) (fun c71 => ?_)))))))))
   ·
    have c71 := of_decide_eq_true c71
    refine pS (pG (pP (p_assign rfl) rfl (pL (pT (pS (pS (pG (pP (p_move rfl) rfl (pP (p_eql rfl rfl) rfl (pL (pT (zc rfl (fun c73 => ?_) (fun c73 => ?_)))))))))))))
    ·
     have c73 := eq_of_beq c73
     refine pG (pP (p_assign rfl) rfl (pL (pT (pS (pG (pP (p_move rfl) rfl (pP (p_eql rfl rfl) rfl (pL (pT (zc rfl (fun c75 => ?_) (fun c75 => ?_)))))))))))
     ·
      have c75 := eq_of_beq c75
      refine pG (pP (p_assign rfl) rfl (pL (pI 2 (pT ?_))));intro a S
      exact ⟨2, 160, 159, S.only ⟨rfl, rfl, rfl, rfl, rfl, trivial⟩, H, (by unfold up.Lead; omega)⟩
     have c75 := ne_of_beq_false c75
     refine pK (pI 2 (pT ?_));intro a S
     exact ⟨2, 160, 191, S.only ⟨rfl, rfl, rfl, rfl, rfl, trivial⟩, H, (by unfold up.Lead; omega)⟩
    have c73 := ne_of_beq_false c73
    refine pK (pT (pS (pG (pP (p_move rfl) rfl (pP (p_eql rfl rfl) rfl (pL (pT (zc rfl (fun c77 => ?_) (fun c77 => ?_)))))))))
    ·
     have c77 := eq_of_beq c77
     refine pG (pP (p_assign rfl) rfl (pL (pI 2 (pT ?_))));intro a S
     exact ⟨2, 128, 159, S.only ⟨rfl, rfl, rfl, rfl, rfl, trivial⟩, H, (by unfold up.Lead; omega)⟩
    have c77 := ne_of_beq_false c77
    refine pK (pI 2 (pT ?_));intro a S
    exact ⟨2, 128, 191, S.only ⟨rfl, rfl, rfl, rfl, rfl, trivial⟩, H, (by unfold up.Lead; omega)⟩
   have c71 := of_decide_eq_false c71
   refine pS (pG (pP (p_move rfl) rfl (pP (p_geq rfl rfl) rfl (pP (p_move rfl) rfl ?_))));intro a S
   refine l_split (S.of 40 rfl) (fun bc79 => ?_) (fun bc79 => ?_)
   ·
    have c79 := of_decide_eq_true bc79
    revert a;refine pN bc79 (pP (p_move rfl) rfl (pN bc79 (pP (p_leq rfl rfl) rfl (pP (p_pick_t rfl bc79 rfl) rfl (pP (p_assign rfl) rfl (pL (pT (zc rfl (fun c81 => ?_) (fun c81 => ?_)))))))))
    ·
     have c81 := of_decide_eq_true c81
     refine pS (pG (pP (p_assign rfl) rfl (pL (pT (pS (pS (pG (pP (p_move rfl) rfl (pP (p_eql rfl rfl) rfl (pL (pT (zc rfl (fun c83 => ?_) (fun c83 => ?_)))))))))))))
     ·
      have c83 := eq_of_beq c83
      refine pG (pP (p_assign rfl) rfl (pL (pT (pS (pG (pP (p_move rfl) rfl (pP (p_eql rfl rfl) rfl (pL (pT (zc rfl (fun c85 => ?_) (fun c85 => ?_)))))))))))
      ·
       have c85 := eq_of_beq c85
       refine pG (pP (p_assign rfl) rfl (pL (pI 2 (pT ?_))));intro a S
       exact ⟨3, 144, 143, S.only ⟨rfl, rfl, rfl, rfl, rfl, trivial⟩, H, (by unfold up.Lead; omega)⟩
      have c85 := ne_of_beq_false c85
      refine pK (pI 2 (pT ?_));intro a S
      exact ⟨3, 144, 191, S.only ⟨rfl, rfl, rfl, rfl, rfl, trivial⟩, H, (by unfold up.Lead; omega)⟩
     have c83 := ne_of_beq_false c83
     refine pK (pT (pS (pG (pP (p_move rfl) rfl (pP (p_eql rfl rfl) rfl (pL (pT (zc rfl (fun c87 => ?_) (fun c87 => ?_)))))))))
     ·
      have c87 := eq_of_beq c87
      refine pG (pP (p_assign rfl) rfl (pL (pI 2 (pT ?_))));intro a S
      exact ⟨3, 128, 143, S.only ⟨rfl, rfl, rfl, rfl, rfl, trivial⟩, H, (by unfold up.Lead; omega)⟩
     have c87 := ne_of_beq_false c87
     refine pK (pI 2 (pT ?_));intro a S
     exact ⟨3, 128, 191, S.only ⟨rfl, rfl, rfl, rfl, rfl, trivial⟩, H, (by unfold up.Lead; omega)⟩
    have c81 := of_decide_eq_false c81
    refine pS (pG (pP (p_assign rfl) rfl (pL (pT (pZ (pJ (pU (pJ (pU (pJ (pU ?_)))))))))));intro a S
    exact r_ret1 S rfl rfl ⟨by rw [hV, up.bad (by omega) (by omega)], H⟩
   have c79 := of_decide_eq_false bc79
   revert a;refine pO bc79 rfl (pO bc79 rfl (pP (p_pick_f rfl bc79 rfl) rfl (pP (p_assign rfl) rfl (pL (pT (zf (pS (pG (pP (p_assign rfl) rfl (pL (pT (pZ (pJ (pU (pJ (pU (pJ (pU ?_))))))))))))))))));intro a S
   exact r_ret1 S rfl rfl ⟨by rw [hV, up.bad (by omega) (by omega)], H⟩
  have c69 := of_decide_eq_false bc69
  revert a;refine pO bc69 rfl (pO bc69 rfl (pP (p_pick_f rfl bc69 rfl) rfl (pP (p_assign rfl) rfl (pL (pT (zf (pS (pG (pP (p_move rfl) rfl (pP (p_geq rfl rfl) rfl (pP (p_move rfl) rfl ?_)))))))))));intro a S
  refine l_split (S.of 40 rfl) (fun bc95 => ?_) (fun bc95 => ?_)
  ·
   have c95 := of_decide_eq_true bc95
   revert a;refine pN bc95 (pP (p_move rfl) rfl (pN bc95 (pP (p_leq rfl rfl) rfl (pP (p_pick_t rfl bc95 rfl) rfl (pP (p_assign rfl) rfl (pL (pT (zc rfl (fun c97 => ?_) (fun c97 => ?_)))))))))
   ·
    have c97 := of_decide_eq_true c97
    refine pS (pG (pP (p_assign rfl) rfl (pL (pT (pS (pS (pG (pP (p_move rfl) rfl (pP (p_eql rfl rfl) rfl (pL (pT (zc rfl (fun c99 => ?_) (fun c99 => ?_)))))))))))))
    ·
     have c99 := eq_of_beq c99
     refine pG (pP (p_assign rfl) rfl (pL (pT (pS (pG (pP (p_move rfl) rfl (pP (p_eql rfl rfl) rfl (pL (pT (zc rfl (fun c101 => ?_) (fun c101 => ?_)))))))))))
     ·
      have c101 := eq_of_beq c101
      refine pG (pP (p_assign rfl) rfl (pL (pI 2 (pT ?_))));intro a S
      exact ⟨3, 144, 143, S.only ⟨rfl, rfl, rfl, rfl, rfl, trivial⟩, H, (by unfold up.Lead; omega)⟩
     have c101 := ne_of_beq_false c101
     refine pK (pI 2 (pT ?_));intro a S
     exact ⟨3, 144, 191, S.only ⟨rfl, rfl, rfl, rfl, rfl, trivial⟩, H, (by unfold up.Lead; omega)⟩
    have c99 := ne_of_beq_false c99
    refine pK (pT (pS (pG (pP (p_move rfl) rfl (pP (p_eql rfl rfl) rfl (pL (pT (zc rfl (fun c103 => ?_) (fun c103 => ?_)))))))))
    ·
     have c103 := eq_of_beq c103
     refine pG (pP (p_assign rfl) rfl (pL (pI 2 (pT ?_))));intro a S
     exact ⟨3, 128, 143, S.only ⟨rfl, rfl, rfl, rfl, rfl, trivial⟩, H, (by unfold up.Lead; omega)⟩
    have c103 := ne_of_beq_false c103
    refine pK (pI 2 (pT ?_));intro a S
    exact ⟨3, 128, 191, S.only ⟨rfl, rfl, rfl, rfl, rfl, trivial⟩, H, (by unfold up.Lead; omega)⟩
   have c97 := of_decide_eq_false c97
   refine pS (pG (pP (p_assign rfl) rfl (pL (pT (pZ (pJ (pU (pJ (pU (pJ (pU ?_)))))))))));intro a S
   exact r_ret1 S rfl rfl ⟨by rw [hV, up.bad (by omega) (by omega)], H⟩
  have c95 := of_decide_eq_false bc95
  revert a;refine pO bc95 rfl (pO bc95 rfl (pP (p_pick_f rfl bc95 rfl) rfl (pP (p_assign rfl) rfl (pL (pT (zf (pS (pG (pP (p_assign rfl) rfl (pL (pT (pZ (pJ (pU (pJ (pU (pJ (pU ?_))))))))))))))))));intro a S
  exact r_ret1 S rfl rfl ⟨by rw [hV, up.bad (by omega) (by omega)], H⟩
 have c3 := of_decide_eq_false c3
 refine pX (pV (pV (pW (pT (pS (pG (pP (p_assign rfl) rfl (pL (pT (pZ ?_))))))))));intro a S
 exact r_ret1 S rfl rfl ⟨by rw [hV, up.V_end s i (by omega)], H⟩
end Go.Proofs.YtbahngfpadjbhaaGreatDoor.u8
end
