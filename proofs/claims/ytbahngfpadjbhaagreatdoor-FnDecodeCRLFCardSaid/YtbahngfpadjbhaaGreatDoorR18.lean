/- Part of the proof that FnDecodeCRLF answers true at every text, in every world that its card's statement admits; no condition beyond those. -/
import Derived.Test.YtbahngfpadjbhaaGreatDoorR17
import Derived.Test.YtbahngfpadjbhaaGreatDoorR10
import Derived.Test.YtbahngfpadjbhaaGreatDoorR04
import Derived.Test.YtbahngfpadjbhaaGreatDoorR05
set_option linter.unusedVariables false
set_option linter.unusedSimpArgs false
section
namespace Go.Proofs.YtbahngfpadjbhaaGreatDoor.dec
open Go.RowKit Go.Proofs.HHW Go.Proofs.YtbahngfpadjbhaaGreatDoorW.PrintWords Go.Proofs.YtbahngfpadjbhaaGreatDoor.dt
namespace ja
theorem white_ (wb w0 : World) (L0 : dc.Bk) (x : Nat) (H : HH wb.heap.size wb w0 L0) : Calls Tryz.prog 83 #[.int .u8 (x : Int)] w0 fun e w' => e = .returned (.bool (sIn 1 x)) ∧ HH wb.heap.size wb w' L0 := by
 refine c_enter (args := [.int .u8 (x : Int)]) (k := 12) Tryz.func83 rfl rfl rfl ?_
 refine pS (pG (pM 1 rfl (pL (pT (pS (pG (pM 1 rfl (pP (p_eql rfl rfl) rfl (pM 1 rfl ?_)))))))));intro a S
 refine l_split (S.of 5 rfl) (fun bc3 => ?_) (fun bc3 => ?_)
 ·
  have c3 := eq_of_beq bc3
  revert a;refine pO bc3 rfl (pO bc3 rfl (pP (p_pick_t rfl bc3 rfl) rfl (pM 1 rfl (pO rfl rfl (pO rfl rfl (pP (p_pick_t rfl rfl rfl) rfl (pM 1 rfl (pL (pT (pZ ?_))))))))));intro a S
  exact r_ret1 S rfl rfl ⟨(by first | rfl | congr 2; first | (simp [sIn, HHW.odd, *]; done) | (clear S H; rw [Bool.eq_iff_iff]; simp [sIn, HHW.odd]; done) | (clear S H; rw [Bool.eq_iff_iff]; simp [sIn, HHW.odd]; omega) | (clear S H; rw [Bool.eq_iff_iff]; simp [sIn, HHW.odd] at *; omega) | (clear S H; rw [Bool.eq_iff_iff]; simp_all [sIn, HHW.odd]; done) | (clear S H; rw [Bool.eq_iff_iff]; simp_all [sIn, HHW.odd]; omega)), H⟩
 have c3 := ne_of_beq_false bc3
 revert a;refine pN bc3 (pP (p_move rfl) rfl (pN bc3 (pP (p_eql rfl rfl) rfl (pP (p_pick_f rfl bc3 rfl) rfl (pM 1 rfl ?_)))));intro a S
 refine l_split (S.of 9 rfl) (fun bc7 => ?_) (fun bc7 => ?_)
 ·
  have c7 := eq_of_beq bc7
  revert a;refine pO bc7 rfl (pO bc7 rfl (pP (p_pick_t rfl bc7 rfl) rfl (pM 1 rfl (pL (pT (pZ ?_))))));intro a S
  exact r_ret1 S rfl rfl ⟨(by first | rfl | congr 2; first | (simp [sIn, HHW.odd, *]; done) | (clear S H; rw [Bool.eq_iff_iff]; simp [sIn, HHW.odd]; done) | (clear S H; rw [Bool.eq_iff_iff]; simp [sIn, HHW.odd]; omega) | (clear S H; rw [Bool.eq_iff_iff]; simp [sIn, HHW.odd] at *; omega) | (clear S H; rw [Bool.eq_iff_iff]; simp_all [sIn, HHW.odd]; done) | (clear S H; rw [Bool.eq_iff_iff]; simp_all [sIn, HHW.odd]; omega)), H⟩
 have c7 := ne_of_beq_false bc7
 revert a;refine pN bc7 (pP (p_move rfl) rfl (pN bc7 (pP (p_eql rfl rfl) rfl (pP (p_pick_f rfl bc7 rfl) rfl (pM 1 rfl (pL (pT (pZ ?_))))))));intro a S
 exact r_ret1 S rfl rfl ⟨(by first | rfl | congr 2; first | (simp [sIn, HHW.odd, *]; done) | (clear S H; rw [Bool.eq_iff_iff]; simp [sIn, HHW.odd]; done) | (clear S H; rw [Bool.eq_iff_iff]; simp [sIn, HHW.odd]; omega) | (clear S H; rw [Bool.eq_iff_iff]; simp [sIn, HHW.odd] at *; omega) | (clear S H; rw [Bool.eq_iff_iff]; simp_all [sIn, HHW.odd]; done) | (clear S H; rw [Bool.eq_iff_iff]; simp_all [sIn, HHW.odd]; omega)), H⟩
theorem odd_ (wb w0 : World) (L0 : dc.Bk) (x : Nat) (H : HH wb.heap.size wb w0 L0) : Calls Tryz.prog 84 #[.int .u8 (x : Int)] w0 fun e w' => e = .returned (.bool (HHW.odd x)) ∧ HH wb.heap.size wb w' L0 := by
 refine c_enter (args := [.int .u8 (x : Int)]) (k := 8) Tryz.func84 rfl rfl rfl ?_
 refine pS (pG (pM 1 rfl (pL (pT (pS (pG (pM 1 rfl (pP (p_lss rfl rfl) rfl (pM 1 rfl ?_)))))))));intro a S
 refine l_split (S.of 5 rfl) (fun bc3 => ?_) (fun bc3 => ?_)
 ·
  have c3 := of_decide_eq_true bc3
  revert a;refine pO bc3 rfl (pO bc3 rfl (pP (p_pick_t rfl bc3 rfl) rfl (pM 1 rfl (pL (pT (pZ ?_))))));intro a S
  exact r_ret1 S rfl rfl ⟨(by first | rfl | congr 2; first | (simp [sIn, HHW.odd, *]; done) | (clear S H; rw [Bool.eq_iff_iff]; simp [sIn, HHW.odd]; done) | (clear S H; rw [Bool.eq_iff_iff]; simp [sIn, HHW.odd]; omega) | (clear S H; rw [Bool.eq_iff_iff]; simp [sIn, HHW.odd] at *; omega) | (clear S H; rw [Bool.eq_iff_iff]; simp_all [sIn, HHW.odd]; done) | (clear S H; rw [Bool.eq_iff_iff]; simp_all [sIn, HHW.odd]; omega)), H⟩
 have c3 := of_decide_eq_false bc3
 revert a;refine pN bc3 (pP (p_move rfl) rfl (pN bc3 (pP (p_eql rfl rfl) rfl (pP (p_pick_f rfl bc3 rfl) rfl (pM 1 rfl (pL (pT (pZ ?_))))))));intro a S
 exact r_ret1 S rfl rfl ⟨(by first | rfl | congr 2; first | (simp [sIn, HHW.odd, *]; done) | (clear S H; rw [Bool.eq_iff_iff]; simp [sIn, HHW.odd]; done) | (clear S H; rw [Bool.eq_iff_iff]; simp [sIn, HHW.odd]; omega) | (clear S H; rw [Bool.eq_iff_iff]; simp [sIn, HHW.odd] at *; omega) | (clear S H; rw [Bool.eq_iff_iff]; simp_all [sIn, HHW.odd]; done) | (clear S H; rw [Bool.eq_iff_iff]; simp_all [sIn, HHW.odd]; omega)), H⟩
theorem in_ (wb w0 : World) (L0 : dc.Bk) (k x : Nat) (hk : k < 14) (H : HH wb.heap.size wb w0 L0) : Calls Tryz.prog 66 #[.int .i64 (k : Int), .int .u8 (x : Int)] w0 fun e w' => e = .returned (.bool (sIn k x)) ∧ HH wb.heap.size wb w' L0 := by
 refine c_enter (args := [.int .i64 (k : Int), .int .u8 (x : Int)]) (k := 96) Tryz.func66 rfl rfl rfl ?_
 refine pS (pG (pM 1 rfl (pL (pT (pS (pS (pG (pM 1 rfl (pL (pT (pB (pS (pG (pP (p_eql rfl rfl) rfl (pM 1 rfl (pL (pT (zc rfl (fun bc3 => ?_) (fun bc3 => ?_)))))))))))))))))))
 ·
  have c3 := eq_of_beq bc3
  obtain rfl : k = 0 := by omega
  refine pS (pG (pM 1 rfl (pP (p_eql rfl rfl) rfl (pM 1 rfl (pL (pT (pZ (pJ (pU ?_)))))))));intro a S
  first | subst hk2 | obtain rfl : k = 13 := by omega | skip
  exact r_ret1 S rfl rfl ⟨(by first | rfl | congr 2; first | (simp [sIn, HHW.odd, *]; done) | (clear S H; rw [Bool.eq_iff_iff]; simp [sIn, HHW.odd]; done) | (clear S H; rw [Bool.eq_iff_iff]; simp [sIn, HHW.odd]; omega) | (clear S H; rw [Bool.eq_iff_iff]; simp [sIn, HHW.odd] at *; omega) | (clear S H; rw [Bool.eq_iff_iff]; simp_all [sIn, HHW.odd]; done) | (clear S H; rw [Bool.eq_iff_iff]; simp_all [sIn, HHW.odd]; omega)), H⟩
 have c3 := ne_of_beq_false bc3
 refine pS (pG (pP (p_eql rfl rfl) rfl (pM 1 rfl (pL (pT (zc rfl (fun bc6 => ?_) (fun bc6 => ?_)))))))
 ·
  have c6 := eq_of_beq bc6
  obtain rfl : k = 1 := by omega
  refine pS (pG (pM 1 rfl ?_))
  have hcon := white_ wb _ _ x H
  refine pC Tryz.func83 hcon ?_
  rintro e w ⟨rfl, hH⟩
  refine ⟨_, rfl, ?_⟩
  clear H hcon; have H := hH; clear hH
  refine pM 1 rfl (pL (pT (pZ (pJ (pU ?_)))));intro a S
  first | subst hk2 | obtain rfl : k = 13 := by omega | skip
  exact r_ret1 S rfl rfl ⟨(by first | rfl | congr 2; first | (simp [sIn, HHW.odd, *]; done) | (clear S H; rw [Bool.eq_iff_iff]; simp [sIn, HHW.odd]; done) | (clear S H; rw [Bool.eq_iff_iff]; simp [sIn, HHW.odd]; omega) | (clear S H; rw [Bool.eq_iff_iff]; simp [sIn, HHW.odd] at *; omega) | (clear S H; rw [Bool.eq_iff_iff]; simp_all [sIn, HHW.odd]; done) | (clear S H; rw [Bool.eq_iff_iff]; simp_all [sIn, HHW.odd]; omega)), H⟩
 have c6 := ne_of_beq_false bc6
 refine pS (pS (pG (pP (p_eql rfl rfl) rfl (pM 1 rfl (pL (pT (zc rfl (fun bc9 => ?_) (fun bc9 => ?_))))))))
 ·
  have c9 := eq_of_beq bc9
  have hk2 : k = 2 := by omega
  refine pK (pT ?_);intro a S
  refine c_cond S rfl (fun _ => ?_) (fun h => by rw [(beq_iff_eq.2 c9)] at h; cases h)
  revert a;refine pS (pG (pM 1 rfl (pP (p_neq rfl rfl) rfl (pM 1 rfl ?_))));intro a S
  refine l_split (S.of 20 rfl) (fun bc12 => ?_) (fun bc12 => ?_)
  ·
   have c12 := bne_iff_ne.1 bc12
   revert a;refine pN bc12 (pP (p_move rfl) rfl (pN bc12 (pP (p_neq rfl rfl) rfl (pP (p_pick_t rfl bc12 rfl) rfl (pM 1 rfl ?_)))));intro a S
   refine l_split (S.of 24 rfl) (fun bc14 => ?_) (fun bc14 => ?_)
   ·
    have c14 := bne_iff_ne.1 bc14
    revert a;refine pN bc14 (pP (p_move rfl) rfl (pN bc14 (pP (p_neq rfl rfl) rfl (pP (p_pick_t rfl bc14 rfl) rfl (pM 1 rfl ?_)))));intro a S
    refine l_split (S.of 28 rfl) (fun bc16 => ?_) (fun bc16 => ?_)
    ·
     have c16 := bne_iff_ne.1 bc16
     revert a;refine pN bc16 (pP (p_move rfl) rfl (pN bc16 ?_))
     have hcon := odd_ wb _ _ x H
     refine pC Tryz.func84 hcon ?_
     rintro e w ⟨rfl, hH⟩
     refine ⟨_, rfl, ?_⟩
     clear H hcon; have H := hH; clear hH
     refine pN bc16 (pP (p_not rfl) rfl (pP (p_pick_t rfl bc16 rfl) rfl (pM 1 rfl (pL (pT (pZ (pJ (pU ?_))))))));intro a S
     first | subst hk2 | obtain rfl : k = 13 := by omega | skip
     exact r_ret1 S rfl rfl ⟨(by first | rfl | congr 2; first | (simp [sIn, HHW.odd, *]; done) | (clear S H; rw [Bool.eq_iff_iff]; simp [sIn, HHW.odd]; done) | (clear S H; rw [Bool.eq_iff_iff]; simp [sIn, HHW.odd]; omega) | (clear S H; rw [Bool.eq_iff_iff]; simp [sIn, HHW.odd] at *; omega) | (clear S H; rw [Bool.eq_iff_iff]; simp_all [sIn, HHW.odd]; done) | (clear S H; rw [Bool.eq_iff_iff]; simp_all [sIn, HHW.odd]; omega)), H⟩
    have c16 := bne_eq_false_iff_eq.1 bc16
    revert a;refine pO bc16 rfl (pO bc16 rfl (pO bc16 rfl (pP (p_pick_f rfl bc16 rfl) rfl (pM 1 rfl (pL (pT (pZ (pJ (pU ?_)))))))));intro a S
    first | subst hk2 | obtain rfl : k = 13 := by omega | skip
    exact r_ret1 S rfl rfl ⟨(by first | rfl | congr 2; first | (simp [sIn, HHW.odd, *]; done) | (clear S H; rw [Bool.eq_iff_iff]; simp [sIn, HHW.odd]; done) | (clear S H; rw [Bool.eq_iff_iff]; simp [sIn, HHW.odd]; omega) | (clear S H; rw [Bool.eq_iff_iff]; simp [sIn, HHW.odd] at *; omega) | (clear S H; rw [Bool.eq_iff_iff]; simp_all [sIn, HHW.odd]; done) | (clear S H; rw [Bool.eq_iff_iff]; simp_all [sIn, HHW.odd]; omega)), H⟩
   have c14 := bne_eq_false_iff_eq.1 bc14
   revert a;refine pO bc14 rfl (pO bc14 rfl (pP (p_pick_f rfl bc14 rfl) rfl (pM 1 rfl (pO rfl rfl (pO rfl rfl (pO rfl rfl (pP (p_pick_f rfl rfl rfl) rfl (pM 1 rfl (pL (pT (pZ (pJ (pU ?_)))))))))))));intro a S
   first | subst hk2 | obtain rfl : k = 13 := by omega | skip
   exact r_ret1 S rfl rfl ⟨(by first | rfl | congr 2; first | (simp [sIn, HHW.odd, *]; done) | (clear S H; rw [Bool.eq_iff_iff]; simp [sIn, HHW.odd]; done) | (clear S H; rw [Bool.eq_iff_iff]; simp [sIn, HHW.odd]; omega) | (clear S H; rw [Bool.eq_iff_iff]; simp [sIn, HHW.odd] at *; omega) | (clear S H; rw [Bool.eq_iff_iff]; simp_all [sIn, HHW.odd]; done) | (clear S H; rw [Bool.eq_iff_iff]; simp_all [sIn, HHW.odd]; omega)), H⟩
  have c12 := bne_eq_false_iff_eq.1 bc12
  revert a;refine pO bc12 rfl (pO bc12 rfl (pP (p_pick_f rfl bc12 rfl) rfl (pM 1 rfl (pO rfl rfl (pO rfl rfl (pP (p_pick_f rfl rfl rfl) rfl (pM 1 rfl (pO rfl rfl (pO rfl rfl (pO rfl rfl (pP (p_pick_f rfl rfl rfl) rfl (pM 1 rfl (pL (pT (pZ (pJ (pU ?_)))))))))))))))));intro a S
  first | subst hk2 | obtain rfl : k = 13 := by omega | skip
  exact r_ret1 S rfl rfl ⟨(by first | rfl | congr 2; first | (simp [sIn, HHW.odd, *]; done) | (clear S H; rw [Bool.eq_iff_iff]; simp [sIn, HHW.odd]; done) | (clear S H; rw [Bool.eq_iff_iff]; simp [sIn, HHW.odd]; omega) | (clear S H; rw [Bool.eq_iff_iff]; simp [sIn, HHW.odd] at *; omega) | (clear S H; rw [Bool.eq_iff_iff]; simp_all [sIn, HHW.odd]; done) | (clear S H; rw [Bool.eq_iff_iff]; simp_all [sIn, HHW.odd]; omega)), H⟩
 have c9 := ne_of_beq_false bc9
 refine pS (pG (pP (p_eql rfl rfl) rfl (pM 1 rfl (pL (pT (zc rfl (fun bc26 => ?_) (fun bc26 => ?_)))))))
 ·
  have c26 := eq_of_beq bc26
  have hk2 : k = 6 := by omega
  refine pK (pT ?_);intro a S
  refine c_cond S rfl (fun _ => ?_) (fun h => by rw [(beq_iff_eq.2 c26)] at h; cases h)
  revert a;refine pS (pG (pM 1 rfl (pP (p_neq rfl rfl) rfl (pM 1 rfl ?_))));intro a S
  refine l_split (S.of 20 rfl) (fun bc29 => ?_) (fun bc29 => ?_)
  ·
   have c29 := bne_iff_ne.1 bc29
   revert a;refine pN bc29 (pP (p_move rfl) rfl (pN bc29 (pP (p_neq rfl rfl) rfl (pP (p_pick_t rfl bc29 rfl) rfl (pM 1 rfl ?_)))));intro a S
   refine l_split (S.of 24 rfl) (fun bc31 => ?_) (fun bc31 => ?_)
   ·
    have c31 := bne_iff_ne.1 bc31
    revert a;refine pN bc31 (pP (p_move rfl) rfl (pN bc31 (pP (p_neq rfl rfl) rfl (pP (p_pick_t rfl bc31 rfl) rfl (pM 1 rfl ?_)))));intro a S
    refine l_split (S.of 28 rfl) (fun bc33 => ?_) (fun bc33 => ?_)
    ·
     have c33 := bne_iff_ne.1 bc33
     revert a;refine pN bc33 (pP (p_move rfl) rfl (pN bc33 ?_))
     have hcon := odd_ wb _ _ x H
     refine pC Tryz.func84 hcon ?_
     rintro e w ⟨rfl, hH⟩
     refine ⟨_, rfl, ?_⟩
     clear H hcon; have H := hH; clear hH
     refine pN bc33 (pP (p_not rfl) rfl (pP (p_pick_t rfl bc33 rfl) rfl (pM 1 rfl (pL (pT (pZ (pJ (pU ?_))))))));intro a S
     first | subst hk2 | obtain rfl : k = 13 := by omega | skip
     exact r_ret1 S rfl rfl ⟨(by first | rfl | congr 2; first | (simp [sIn, HHW.odd, *]; done) | (clear S H; rw [Bool.eq_iff_iff]; simp [sIn, HHW.odd]; done) | (clear S H; rw [Bool.eq_iff_iff]; simp [sIn, HHW.odd]; omega) | (clear S H; rw [Bool.eq_iff_iff]; simp [sIn, HHW.odd] at *; omega) | (clear S H; rw [Bool.eq_iff_iff]; simp_all [sIn, HHW.odd]; done) | (clear S H; rw [Bool.eq_iff_iff]; simp_all [sIn, HHW.odd]; omega)), H⟩
    have c33 := bne_eq_false_iff_eq.1 bc33
    revert a;refine pO bc33 rfl (pO bc33 rfl (pO bc33 rfl (pP (p_pick_f rfl bc33 rfl) rfl (pM 1 rfl (pL (pT (pZ (pJ (pU ?_)))))))));intro a S
    first | subst hk2 | obtain rfl : k = 13 := by omega | skip
    exact r_ret1 S rfl rfl ⟨(by first | rfl | congr 2; first | (simp [sIn, HHW.odd, *]; done) | (clear S H; rw [Bool.eq_iff_iff]; simp [sIn, HHW.odd]; done) | (clear S H; rw [Bool.eq_iff_iff]; simp [sIn, HHW.odd]; omega) | (clear S H; rw [Bool.eq_iff_iff]; simp [sIn, HHW.odd] at *; omega) | (clear S H; rw [Bool.eq_iff_iff]; simp_all [sIn, HHW.odd]; done) | (clear S H; rw [Bool.eq_iff_iff]; simp_all [sIn, HHW.odd]; omega)), H⟩
   have c31 := bne_eq_false_iff_eq.1 bc31
   revert a;refine pO bc31 rfl (pO bc31 rfl (pP (p_pick_f rfl bc31 rfl) rfl (pM 1 rfl (pO rfl rfl (pO rfl rfl (pO rfl rfl (pP (p_pick_f rfl rfl rfl) rfl (pM 1 rfl (pL (pT (pZ (pJ (pU ?_)))))))))))));intro a S
   first | subst hk2 | obtain rfl : k = 13 := by omega | skip
   exact r_ret1 S rfl rfl ⟨(by first | rfl | congr 2; first | (simp [sIn, HHW.odd, *]; done) | (clear S H; rw [Bool.eq_iff_iff]; simp [sIn, HHW.odd]; done) | (clear S H; rw [Bool.eq_iff_iff]; simp [sIn, HHW.odd]; omega) | (clear S H; rw [Bool.eq_iff_iff]; simp [sIn, HHW.odd] at *; omega) | (clear S H; rw [Bool.eq_iff_iff]; simp_all [sIn, HHW.odd]; done) | (clear S H; rw [Bool.eq_iff_iff]; simp_all [sIn, HHW.odd]; omega)), H⟩
  have c29 := bne_eq_false_iff_eq.1 bc29
  revert a;refine pO bc29 rfl (pO bc29 rfl (pP (p_pick_f rfl bc29 rfl) rfl (pM 1 rfl (pO rfl rfl (pO rfl rfl (pP (p_pick_f rfl rfl rfl) rfl (pM 1 rfl (pO rfl rfl (pO rfl rfl (pO rfl rfl (pP (p_pick_f rfl rfl rfl) rfl (pM 1 rfl (pL (pT (pZ (pJ (pU ?_)))))))))))))))));intro a S
  first | subst hk2 | obtain rfl : k = 13 := by omega | skip
  exact r_ret1 S rfl rfl ⟨(by first | rfl | congr 2; first | (simp [sIn, HHW.odd, *]; done) | (clear S H; rw [Bool.eq_iff_iff]; simp [sIn, HHW.odd]; done) | (clear S H; rw [Bool.eq_iff_iff]; simp [sIn, HHW.odd]; omega) | (clear S H; rw [Bool.eq_iff_iff]; simp [sIn, HHW.odd] at *; omega) | (clear S H; rw [Bool.eq_iff_iff]; simp_all [sIn, HHW.odd]; done) | (clear S H; rw [Bool.eq_iff_iff]; simp_all [sIn, HHW.odd]; omega)), H⟩
 have c26 := ne_of_beq_false bc26
 refine pG (pP (p_eql rfl rfl) rfl (pM 1 rfl (pL (pT (zc rfl (fun bc43 => ?_) (fun bc43 => ?_))))))
 ·
  have c43 := eq_of_beq bc43
  have hk2 : k = 7 := by omega
  refine pS (pG (pM 1 rfl (pP (p_neq rfl rfl) rfl (pM 1 rfl ?_))));intro a S
  refine l_split (S.of 20 rfl) (fun bc45 => ?_) (fun bc45 => ?_)
  ·
   have c45 := bne_iff_ne.1 bc45
   revert a;refine pN bc45 (pP (p_move rfl) rfl (pN bc45 (pP (p_neq rfl rfl) rfl (pP (p_pick_t rfl bc45 rfl) rfl (pM 1 rfl ?_)))));intro a S
   refine l_split (S.of 24 rfl) (fun bc47 => ?_) (fun bc47 => ?_)
   ·
    have c47 := bne_iff_ne.1 bc47
    revert a;refine pN bc47 (pP (p_move rfl) rfl (pN bc47 (pP (p_neq rfl rfl) rfl (pP (p_pick_t rfl bc47 rfl) rfl (pM 1 rfl ?_)))));intro a S
    refine l_split (S.of 28 rfl) (fun bc49 => ?_) (fun bc49 => ?_)
    ·
     have c49 := bne_iff_ne.1 bc49
     revert a;refine pN bc49 (pP (p_move rfl) rfl (pN bc49 ?_))
     have hcon := odd_ wb _ _ x H
     refine pC Tryz.func84 hcon ?_
     rintro e w ⟨rfl, hH⟩
     refine ⟨_, rfl, ?_⟩
     clear H hcon; have H := hH; clear hH
     refine pN bc49 (pP (p_not rfl) rfl (pP (p_pick_t rfl bc49 rfl) rfl (pM 1 rfl (pL (pT (pZ (pJ (pU ?_))))))));intro a S
     first | subst hk2 | obtain rfl : k = 13 := by omega | skip
     exact r_ret1 S rfl rfl ⟨(by first | rfl | congr 2; first | (simp [sIn, HHW.odd, *]; done) | (clear S H; rw [Bool.eq_iff_iff]; simp [sIn, HHW.odd]; done) | (clear S H; rw [Bool.eq_iff_iff]; simp [sIn, HHW.odd]; omega) | (clear S H; rw [Bool.eq_iff_iff]; simp [sIn, HHW.odd] at *; omega) | (clear S H; rw [Bool.eq_iff_iff]; simp_all [sIn, HHW.odd]; done) | (clear S H; rw [Bool.eq_iff_iff]; simp_all [sIn, HHW.odd]; omega)), H⟩
    have c49 := bne_eq_false_iff_eq.1 bc49
    revert a;refine pO bc49 rfl (pO bc49 rfl (pO bc49 rfl (pP (p_pick_f rfl bc49 rfl) rfl (pM 1 rfl (pL (pT (pZ (pJ (pU ?_)))))))));intro a S
    first | subst hk2 | obtain rfl : k = 13 := by omega | skip
    exact r_ret1 S rfl rfl ⟨(by first | rfl | congr 2; first | (simp [sIn, HHW.odd, *]; done) | (clear S H; rw [Bool.eq_iff_iff]; simp [sIn, HHW.odd]; done) | (clear S H; rw [Bool.eq_iff_iff]; simp [sIn, HHW.odd]; omega) | (clear S H; rw [Bool.eq_iff_iff]; simp [sIn, HHW.odd] at *; omega) | (clear S H; rw [Bool.eq_iff_iff]; simp_all [sIn, HHW.odd]; done) | (clear S H; rw [Bool.eq_iff_iff]; simp_all [sIn, HHW.odd]; omega)), H⟩
   have c47 := bne_eq_false_iff_eq.1 bc47
   revert a;refine pO bc47 rfl (pO bc47 rfl (pP (p_pick_f rfl bc47 rfl) rfl (pM 1 rfl (pO rfl rfl (pO rfl rfl (pO rfl rfl (pP (p_pick_f rfl rfl rfl) rfl (pM 1 rfl (pL (pT (pZ (pJ (pU ?_)))))))))))));intro a S
   first | subst hk2 | obtain rfl : k = 13 := by omega | skip
   exact r_ret1 S rfl rfl ⟨(by first | rfl | congr 2; first | (simp [sIn, HHW.odd, *]; done) | (clear S H; rw [Bool.eq_iff_iff]; simp [sIn, HHW.odd]; done) | (clear S H; rw [Bool.eq_iff_iff]; simp [sIn, HHW.odd]; omega) | (clear S H; rw [Bool.eq_iff_iff]; simp [sIn, HHW.odd] at *; omega) | (clear S H; rw [Bool.eq_iff_iff]; simp_all [sIn, HHW.odd]; done) | (clear S H; rw [Bool.eq_iff_iff]; simp_all [sIn, HHW.odd]; omega)), H⟩
  have c45 := bne_eq_false_iff_eq.1 bc45
  revert a;refine pO bc45 rfl (pO bc45 rfl (pP (p_pick_f rfl bc45 rfl) rfl (pM 1 rfl (pO rfl rfl (pO rfl rfl (pP (p_pick_f rfl rfl rfl) rfl (pM 1 rfl (pO rfl rfl (pO rfl rfl (pO rfl rfl (pP (p_pick_f rfl rfl rfl) rfl (pM 1 rfl (pL (pT (pZ (pJ (pU ?_)))))))))))))))));intro a S
  first | subst hk2 | obtain rfl : k = 13 := by omega | skip
  exact r_ret1 S rfl rfl ⟨(by first | rfl | congr 2; first | (simp [sIn, HHW.odd, *]; done) | (clear S H; rw [Bool.eq_iff_iff]; simp [sIn, HHW.odd]; done) | (clear S H; rw [Bool.eq_iff_iff]; simp [sIn, HHW.odd]; omega) | (clear S H; rw [Bool.eq_iff_iff]; simp [sIn, HHW.odd] at *; omega) | (clear S H; rw [Bool.eq_iff_iff]; simp_all [sIn, HHW.odd]; done) | (clear S H; rw [Bool.eq_iff_iff]; simp_all [sIn, HHW.odd]; omega)), H⟩
 have c43 := ne_of_beq_false bc43
 refine pS (pG (pP (p_eql rfl rfl) rfl (pM 1 rfl (pL (pT (zc rfl (fun bc59 => ?_) (fun bc59 => ?_)))))))
 ·
  have c59 := eq_of_beq bc59
  obtain rfl : k = 3 := by omega
  refine pS (pG (pM 1 rfl ?_))
  have hcon := odd_ wb _ _ x H
  refine pC Tryz.func84 hcon ?_
  rintro e w ⟨rfl, hH⟩
  refine ⟨_, rfl, ?_⟩
  clear H hcon; have H := hH; clear hH
  refine pM 1 rfl (pL (pT (pZ (pJ (pU ?_)))));intro a S
  first | subst hk2 | obtain rfl : k = 13 := by omega | skip
  exact r_ret1 S rfl rfl ⟨(by first | rfl | congr 2; first | (simp [sIn, HHW.odd, *]; done) | (clear S H; rw [Bool.eq_iff_iff]; simp [sIn, HHW.odd]; done) | (clear S H; rw [Bool.eq_iff_iff]; simp [sIn, HHW.odd]; omega) | (clear S H; rw [Bool.eq_iff_iff]; simp [sIn, HHW.odd] at *; omega) | (clear S H; rw [Bool.eq_iff_iff]; simp_all [sIn, HHW.odd]; done) | (clear S H; rw [Bool.eq_iff_iff]; simp_all [sIn, HHW.odd]; omega)), H⟩
 have c59 := ne_of_beq_false bc59
 refine pS (pG (pP (p_eql rfl rfl) rfl (pM 1 rfl (pL (pT (zc rfl (fun bc62 => ?_) (fun bc62 => ?_)))))))
 ·
  have c62 := eq_of_beq bc62
  obtain rfl : k = 4 := by omega
  refine pS (pG (pM 1 rfl (pP (p_eql rfl rfl) rfl (pM 1 rfl ?_))));intro a S
  refine l_split (S.of 41 rfl) (fun bc64 => ?_) (fun bc64 => ?_)
  ·
   have c64 := eq_of_beq bc64
   revert a;refine pO bc64 rfl (pO bc64 rfl (pP (p_pick_t rfl bc64 rfl) rfl (pM 1 rfl (pL (pT (pZ (pJ (pU ?_))))))));intro a S
   first | subst hk2 | obtain rfl : k = 13 := by omega | skip
   exact r_ret1 S rfl rfl ⟨(by first | rfl | congr 2; first | (simp [sIn, HHW.odd, *]; done) | (clear S H; rw [Bool.eq_iff_iff]; simp [sIn, HHW.odd]; done) | (clear S H; rw [Bool.eq_iff_iff]; simp [sIn, HHW.odd]; omega) | (clear S H; rw [Bool.eq_iff_iff]; simp [sIn, HHW.odd] at *; omega) | (clear S H; rw [Bool.eq_iff_iff]; simp_all [sIn, HHW.odd]; done) | (clear S H; rw [Bool.eq_iff_iff]; simp_all [sIn, HHW.odd]; omega)), H⟩
  have c64 := ne_of_beq_false bc64
  revert a;refine pN bc64 (pP (p_move rfl) rfl (pN bc64 (pP (p_eql rfl rfl) rfl (pP (p_pick_f rfl bc64 rfl) rfl (pM 1 rfl (pL (pT (pZ (pJ (pU ?_))))))))));intro a S
  first | subst hk2 | obtain rfl : k = 13 := by omega | skip
  exact r_ret1 S rfl rfl ⟨(by first | rfl | congr 2; first | (simp [sIn, HHW.odd, *]; done) | (clear S H; rw [Bool.eq_iff_iff]; simp [sIn, HHW.odd]; done) | (clear S H; rw [Bool.eq_iff_iff]; simp [sIn, HHW.odd]; omega) | (clear S H; rw [Bool.eq_iff_iff]; simp [sIn, HHW.odd] at *; omega) | (clear S H; rw [Bool.eq_iff_iff]; simp_all [sIn, HHW.odd]; done) | (clear S H; rw [Bool.eq_iff_iff]; simp_all [sIn, HHW.odd]; omega)), H⟩
 have c62 := ne_of_beq_false bc62
 refine pS (pG (pP (p_eql rfl rfl) rfl (pM 1 rfl (pL (pT (zc rfl (fun bc68 => ?_) (fun bc68 => ?_)))))))
 ·
  have c68 := eq_of_beq bc68
  obtain rfl : k = 5 := by omega
  refine pS (pG (pM 1 rfl (pP (p_neq rfl rfl) rfl (pM 1 rfl ?_))));intro a S
  refine l_split (S.of 49 rfl) (fun bc70 => ?_) (fun bc70 => ?_)
  ·
   have c70 := bne_iff_ne.1 bc70
   revert a;refine pN bc70 (pP (p_move rfl) rfl (pN bc70 (pP (p_neq rfl rfl) rfl (pP (p_pick_t rfl bc70 rfl) rfl (pM 1 rfl ?_)))));intro a S
   refine l_split (S.of 53 rfl) (fun bc72 => ?_) (fun bc72 => ?_)
   ·
    have c72 := bne_iff_ne.1 bc72
    revert a;refine pN bc72 (pP (p_move rfl) rfl (pN bc72 ?_))
    have hcon := odd_ wb _ _ x H
    refine pC Tryz.func84 hcon ?_
    rintro e w ⟨rfl, hH⟩
    refine ⟨_, rfl, ?_⟩
    clear H hcon; have H := hH; clear hH
    refine pN bc72 (pP (p_not rfl) rfl (pP (p_pick_t rfl bc72 rfl) rfl (pM 1 rfl (pL (pT (pZ (pJ (pU ?_))))))));intro a S
    first | subst hk2 | obtain rfl : k = 13 := by omega | skip
    exact r_ret1 S rfl rfl ⟨(by first | rfl | congr 2; first | (simp [sIn, HHW.odd, *]; done) | (clear S H; rw [Bool.eq_iff_iff]; simp [sIn, HHW.odd]; done) | (clear S H; rw [Bool.eq_iff_iff]; simp [sIn, HHW.odd]; omega) | (clear S H; rw [Bool.eq_iff_iff]; simp [sIn, HHW.odd] at *; omega) | (clear S H; rw [Bool.eq_iff_iff]; simp_all [sIn, HHW.odd]; done) | (clear S H; rw [Bool.eq_iff_iff]; simp_all [sIn, HHW.odd]; omega)), H⟩
   have c72 := bne_eq_false_iff_eq.1 bc72
   revert a;refine pO bc72 rfl (pO bc72 rfl (pO bc72 rfl (pP (p_pick_f rfl bc72 rfl) rfl (pM 1 rfl (pL (pT (pZ (pJ (pU ?_)))))))));intro a S
   first | subst hk2 | obtain rfl : k = 13 := by omega | skip
   exact r_ret1 S rfl rfl ⟨(by first | rfl | congr 2; first | (simp [sIn, HHW.odd, *]; done) | (clear S H; rw [Bool.eq_iff_iff]; simp [sIn, HHW.odd]; done) | (clear S H; rw [Bool.eq_iff_iff]; simp [sIn, HHW.odd]; omega) | (clear S H; rw [Bool.eq_iff_iff]; simp [sIn, HHW.odd] at *; omega) | (clear S H; rw [Bool.eq_iff_iff]; simp_all [sIn, HHW.odd]; done) | (clear S H; rw [Bool.eq_iff_iff]; simp_all [sIn, HHW.odd]; omega)), H⟩
  have c70 := bne_eq_false_iff_eq.1 bc70
  revert a;refine pO bc70 rfl (pO bc70 rfl (pP (p_pick_f rfl bc70 rfl) rfl (pM 1 rfl (pO rfl rfl (pO rfl rfl (pO rfl rfl (pP (p_pick_f rfl rfl rfl) rfl (pM 1 rfl (pL (pT (pZ (pJ (pU ?_)))))))))))));intro a S
  first | subst hk2 | obtain rfl : k = 13 := by omega | skip
  exact r_ret1 S rfl rfl ⟨(by first | rfl | congr 2; first | (simp [sIn, HHW.odd, *]; done) | (clear S H; rw [Bool.eq_iff_iff]; simp [sIn, HHW.odd]; done) | (clear S H; rw [Bool.eq_iff_iff]; simp [sIn, HHW.odd]; omega) | (clear S H; rw [Bool.eq_iff_iff]; simp [sIn, HHW.odd] at *; omega) | (clear S H; rw [Bool.eq_iff_iff]; simp_all [sIn, HHW.odd]; done) | (clear S H; rw [Bool.eq_iff_iff]; simp_all [sIn, HHW.odd]; omega)), H⟩
 have c68 := ne_of_beq_false bc68
 refine pS (pG (pP (p_eql rfl rfl) rfl (pM 1 rfl (pL (pT (zc rfl (fun bc79 => ?_) (fun bc79 => ?_)))))))
 ·
  have c79 := eq_of_beq bc79
  obtain rfl : k = 8 := by omega
  refine pS (pG (pM 1 rfl (pP (p_neq rfl rfl) rfl (pM 1 rfl (pL (pT (pZ (pJ (pU ?_)))))))));intro a S
  first | subst hk2 | obtain rfl : k = 13 := by omega | skip
  exact r_ret1 S rfl rfl ⟨(by first | rfl | congr 2; first | (simp [sIn, HHW.odd, *]; done) | (clear S H; rw [Bool.eq_iff_iff]; simp [sIn, HHW.odd]; done) | (clear S H; rw [Bool.eq_iff_iff]; simp [sIn, HHW.odd]; omega) | (clear S H; rw [Bool.eq_iff_iff]; simp [sIn, HHW.odd] at *; omega) | (clear S H; rw [Bool.eq_iff_iff]; simp_all [sIn, HHW.odd]; done) | (clear S H; rw [Bool.eq_iff_iff]; simp_all [sIn, HHW.odd]; omega)), H⟩
 have c79 := ne_of_beq_false bc79
 refine pS (pG (pP (p_eql rfl rfl) rfl (pM 1 rfl (pL (pT (zc rfl (fun bc82 => ?_) (fun bc82 => ?_)))))))
 ·
  have c82 := eq_of_beq bc82
  obtain rfl : k = 9 := by omega
  refine pS (pG (pM 1 rfl (pP (p_neq rfl rfl) rfl (pM 1 rfl ?_))));intro a S
  refine l_split (S.of 66 rfl) (fun bc84 => ?_) (fun bc84 => ?_)
  ·
   have c84 := bne_iff_ne.1 bc84
   revert a;refine pN bc84 (pP (p_move rfl) rfl (pN bc84 ?_))
   have hcon := white_ wb _ _ x H
   refine pC Tryz.func83 hcon ?_
   rintro e w ⟨rfl, hH⟩
   refine ⟨_, rfl, ?_⟩
   clear H hcon; have H := hH; clear hH
   refine pN bc84 (pP (p_not rfl) rfl (pP (p_pick_t rfl bc84 rfl) rfl (pM 1 rfl (pL (pT (pZ (pJ (pU ?_))))))));intro a S
   first | subst hk2 | obtain rfl : k = 13 := by omega | skip
   exact r_ret1 S rfl rfl ⟨(by first | rfl | congr 2; first | (simp [sIn, HHW.odd, *]; done) | (clear S H; rw [Bool.eq_iff_iff]; simp [sIn, HHW.odd]; done) | (clear S H; rw [Bool.eq_iff_iff]; simp [sIn, HHW.odd]; omega) | (clear S H; rw [Bool.eq_iff_iff]; simp [sIn, HHW.odd] at *; omega) | (clear S H; rw [Bool.eq_iff_iff]; simp_all [sIn, HHW.odd]; done) | (clear S H; rw [Bool.eq_iff_iff]; simp_all [sIn, HHW.odd]; omega)), H⟩
  have c84 := bne_eq_false_iff_eq.1 bc84
  revert a;refine pO bc84 rfl (pO bc84 rfl (pO bc84 rfl (pP (p_pick_f rfl bc84 rfl) rfl (pM 1 rfl (pL (pT (pZ (pJ (pU ?_)))))))));intro a S
  first | subst hk2 | obtain rfl : k = 13 := by omega | skip
  exact r_ret1 S rfl rfl ⟨(by first | rfl | congr 2; first | (simp [sIn, HHW.odd, *]; done) | (clear S H; rw [Bool.eq_iff_iff]; simp [sIn, HHW.odd]; done) | (clear S H; rw [Bool.eq_iff_iff]; simp [sIn, HHW.odd]; omega) | (clear S H; rw [Bool.eq_iff_iff]; simp [sIn, HHW.odd] at *; omega) | (clear S H; rw [Bool.eq_iff_iff]; simp_all [sIn, HHW.odd]; done) | (clear S H; rw [Bool.eq_iff_iff]; simp_all [sIn, HHW.odd]; omega)), H⟩
 have c82 := ne_of_beq_false bc82
 refine pS (pG (pP (p_eql rfl rfl) rfl (pM 1 rfl (pL (pT (zc rfl (fun bc89 => ?_) (fun bc89 => ?_)))))))
 ·
  have c89 := eq_of_beq bc89
  obtain rfl : k = 10 := by omega
  refine pS (pG (pM 1 rfl (pP (p_eql rfl rfl) rfl (pM 1 rfl ?_))));intro a S
  refine l_split (S.of 75 rfl) (fun bc91 => ?_) (fun bc91 => ?_)
  ·
   have c91 := eq_of_beq bc91
   revert a;refine pO bc91 rfl (pO bc91 rfl (pO bc91 rfl ?_));intro a S
   refine l_offU S rfl rfl rfl rfl rfl rfl ?_; clear S a; intro a S
   refine l_offU S rfl rfl rfl rfl rfl rfl ?_; clear S a; intro a S
   revert a;refine pO bc91 rfl (pP (p_pick_t rfl bc91 rfl) rfl (pM 1 rfl (pL (pT (pZ (pJ (pU ?_)))))));intro a S
   first | subst hk2 | obtain rfl : k = 13 := by omega | skip
   exact r_ret1 S rfl rfl ⟨(by first | rfl | congr 2; first | (simp [sIn, HHW.odd, *]; done) | (clear S H; rw [Bool.eq_iff_iff]; simp [sIn, HHW.odd]; done) | (clear S H; rw [Bool.eq_iff_iff]; simp [sIn, HHW.odd]; omega) | (clear S H; rw [Bool.eq_iff_iff]; simp [sIn, HHW.odd] at *; omega) | (clear S H; rw [Bool.eq_iff_iff]; simp_all [sIn, HHW.odd]; done) | (clear S H; rw [Bool.eq_iff_iff]; simp_all [sIn, HHW.odd]; omega)), H⟩
  have c91 := ne_of_beq_false bc91
  revert a;refine pN bc91 (pP (p_move rfl) rfl (pN bc91 (pP (p_geq rfl rfl) rfl (pN bc91 (pP (p_move rfl) rfl ?_)))));intro a S
  refine l_split (S.of 78 rfl) (fun bc94 => ?_) (fun bc94 => ?_)
  ·
   have c94 := of_decide_eq_true bc94
   revert a;refine pN bc94 (pP (p_move rfl) rfl (pN bc94 (pP (p_leq rfl rfl) rfl (pN bc91 (pP (p_pick_t rfl bc94 rfl) rfl (pP (p_pick_f rfl bc91 rfl) rfl (pM 1 rfl (pL (pT (pZ (pJ (pU ?_))))))))))));intro a S
   first | subst hk2 | obtain rfl : k = 13 := by omega | skip
   exact r_ret1 S rfl rfl ⟨(by first | rfl | congr 2; first | (simp [sIn, HHW.odd, *]; done) | (clear S H; rw [Bool.eq_iff_iff]; simp [sIn, HHW.odd]; done) | (clear S H; rw [Bool.eq_iff_iff]; simp [sIn, HHW.odd]; omega) | (clear S H; rw [Bool.eq_iff_iff]; simp [sIn, HHW.odd] at *; omega) | (clear S H; rw [Bool.eq_iff_iff]; simp_all [sIn, HHW.odd]; done) | (clear S H; rw [Bool.eq_iff_iff]; simp_all [sIn, HHW.odd]; omega)), H⟩
  have c94 := of_decide_eq_false bc94
  revert a;refine pO bc94 rfl (pO bc94 rfl (pN bc91 (pP (p_pick_f rfl bc94 rfl) rfl (pP (p_pick_f rfl bc91 rfl) rfl (pM 1 rfl (pL (pT (pZ (pJ (pU ?_))))))))));intro a S
  first | subst hk2 | obtain rfl : k = 13 := by omega | skip
  exact r_ret1 S rfl rfl ⟨(by first | rfl | congr 2; first | (simp [sIn, HHW.odd, *]; done) | (clear S H; rw [Bool.eq_iff_iff]; simp [sIn, HHW.odd]; done) | (clear S H; rw [Bool.eq_iff_iff]; simp [sIn, HHW.odd]; omega) | (clear S H; rw [Bool.eq_iff_iff]; simp [sIn, HHW.odd] at *; omega) | (clear S H; rw [Bool.eq_iff_iff]; simp_all [sIn, HHW.odd]; done) | (clear S H; rw [Bool.eq_iff_iff]; simp_all [sIn, HHW.odd]; omega)), H⟩
 have c89 := ne_of_beq_false bc89
 refine pS (pG (pP (p_eql rfl rfl) rfl (pM 1 rfl (pL (pT (zc rfl (fun bc98 => ?_) (fun bc98 => ?_)))))))
 ·
  have c98 := eq_of_beq bc98
  obtain rfl : k = 11 := by omega
  refine pS (pG (pM 1 rfl ?_))
  have hcon := odd_ wb _ _ x H
  refine pC Tryz.func84 hcon ?_
  rintro e w ⟨rfl, hH⟩
  refine ⟨_, rfl, ?_⟩
  clear H hcon; have H := hH; clear hH
  refine pP (p_not rfl) rfl (pM 1 rfl (pL (pT (pZ (pJ (pU ?_))))));intro a S
  first | subst hk2 | obtain rfl : k = 13 := by omega | skip
  exact r_ret1 S rfl rfl ⟨(by first | rfl | congr 2; first | (simp [sIn, HHW.odd, *]; done) | (clear S H; rw [Bool.eq_iff_iff]; simp [sIn, HHW.odd]; done) | (clear S H; rw [Bool.eq_iff_iff]; simp [sIn, HHW.odd]; omega) | (clear S H; rw [Bool.eq_iff_iff]; simp [sIn, HHW.odd] at *; omega) | (clear S H; rw [Bool.eq_iff_iff]; simp_all [sIn, HHW.odd]; done) | (clear S H; rw [Bool.eq_iff_iff]; simp_all [sIn, HHW.odd]; omega)), H⟩
 have c98 := ne_of_beq_false bc98
 refine pS (pG (pP (p_eql rfl rfl) rfl (pM 1 rfl (pL (pT (zc rfl (fun bc102 => ?_) (fun bc102 => ?_)))))))
 ·
  have c102 := eq_of_beq bc102
  obtain rfl : k = 12 := by omega
  refine pS (pG (pM 1 rfl (pP (p_neq rfl rfl) rfl (pM 1 rfl ?_))));intro a S
  refine l_split (S.of 92 rfl) (fun bc104 => ?_) (fun bc104 => ?_)
  ·
   have c104 := bne_iff_ne.1 bc104
   revert a;refine pN bc104 (pP (p_move rfl) rfl (pN bc104 (pP (p_neq rfl rfl) rfl (pP (p_pick_t rfl bc104 rfl) rfl (pM 1 rfl (pL (pT (pZ (pJ (pU ?_))))))))));intro a S
   first | subst hk2 | obtain rfl : k = 13 := by omega | skip
   exact r_ret1 S rfl rfl ⟨(by first | rfl | congr 2; first | (simp [sIn, HHW.odd, *]; done) | (clear S H; rw [Bool.eq_iff_iff]; simp [sIn, HHW.odd]; done) | (clear S H; rw [Bool.eq_iff_iff]; simp [sIn, HHW.odd]; omega) | (clear S H; rw [Bool.eq_iff_iff]; simp [sIn, HHW.odd] at *; omega) | (clear S H; rw [Bool.eq_iff_iff]; simp_all [sIn, HHW.odd]; done) | (clear S H; rw [Bool.eq_iff_iff]; simp_all [sIn, HHW.odd]; omega)), H⟩
  have c104 := bne_eq_false_iff_eq.1 bc104
  revert a;refine pO bc104 rfl (pO bc104 rfl (pP (p_pick_f rfl bc104 rfl) rfl (pM 1 rfl (pL (pT (pZ (pJ (pU ?_))))))));intro a S
  first | subst hk2 | obtain rfl : k = 13 := by omega | skip
  exact r_ret1 S rfl rfl ⟨(by first | rfl | congr 2; first | (simp [sIn, HHW.odd, *]; done) | (clear S H; rw [Bool.eq_iff_iff]; simp [sIn, HHW.odd]; done) | (clear S H; rw [Bool.eq_iff_iff]; simp [sIn, HHW.odd]; omega) | (clear S H; rw [Bool.eq_iff_iff]; simp [sIn, HHW.odd] at *; omega) | (clear S H; rw [Bool.eq_iff_iff]; simp_all [sIn, HHW.odd]; done) | (clear S H; rw [Bool.eq_iff_iff]; simp_all [sIn, HHW.odd]; omega)), H⟩
 have c102 := ne_of_beq_false bc102
 refine pK (pI 0 (pT (pS (pG (pM 1 rfl (pP (p_neq rfl rfl) rfl (pM 1 rfl (pL (pT (pZ ?_))))))))));intro a S
 first | subst hk2 | obtain rfl : k = 13 := by omega | skip
 exact r_ret1 S rfl rfl ⟨(by first | rfl | congr 2; first | (simp [sIn, HHW.odd, *]; done) | (clear S H; rw [Bool.eq_iff_iff]; simp [sIn, HHW.odd]; done) | (clear S H; rw [Bool.eq_iff_iff]; simp [sIn, HHW.odd]; omega) | (clear S H; rw [Bool.eq_iff_iff]; simp [sIn, HHW.odd] at *; omega) | (clear S H; rw [Bool.eq_iff_iff]; simp_all [sIn, HHW.odd]; done) | (clear S H; rw [Bool.eq_iff_iff]; simp_all [sIn, HHW.odd]; omega)), H⟩
theorem esc0 (wb w0 : World) (L0 : dc.Bk) (x : Nat) (hx : x < 256) (H : HH wb.heap.size wb w0 L0) : Calls Tryz.prog 96 #[.int .i64 0, .int .u8 (x : Int)] w0 fun e w' => (∃ (dv : Int) (b : Bool), e = .returned (.tuple #[.int .u8 dv, .bool b]) ∧ b = decide (hOf 0 x ≠ 0) ∧ (hOf 0 x ≠ 0 → dv = (hOf 0 x : Int))) ∧ HH wb.heap.size wb w' L0 := by
 refine c_enter (args := [.int .i64 0, .int .u8 (x : Int)]) (k := 41) Tryz.func96 rfl rfl rfl ?_
 refine pS (pG (pM 2 rfl (pL (pT (pS (pS (pG (pM 1 rfl (pL (pT (pB (pS (pG (pP (p_eql rfl rfl) rfl (pM 1 rfl (pL (pT (zt (pS (pG (pM 2 rfl (pP (p_eql rfl rfl) rfl (pM 1 rfl ?_)))))))))))))))))))))));intro a S
 refine l_split (S.of 12 rfl) (fun bc5 => ?_) (fun bc5 => ?_)
 ·
  have c5 := eq_of_beq bc5
  revert a;refine pO bc5 rfl (pO bc5 rfl (pP (p_pick_t rfl bc5 rfl) rfl (pM 2 rfl (pL (pT (pZ (pJ (pU ?_))))))))
  have hh := hOf0 hx
  intro a S
  refine r_ret2 S rfl rfl rfl ⟨⟨_, _, rfl, ?_, ?_⟩, H⟩
  ·
   first | rfl | (clear S H; rw [Bool.eq_iff_iff]; simp_all; done) | (clear S H; rw [hh, Bool.eq_iff_iff]; simp; split <;> simp_all <;> omega) | (clear S H; rw [hh, Bool.eq_iff_iff]; simp; (repeat' split) <;> simp_all <;> omega)
  intro h0; clear S H; rw [hh] at h0 ⊢; revert h0; (repeat' split) <;> simp_all <;> omega
 have c5 := ne_of_beq_false bc5
 revert a;refine pN bc5 (pP (p_move rfl) rfl (pN bc5 (pP (p_eql rfl rfl) rfl (pP (p_pick_f rfl bc5 rfl) rfl (pM 2 rfl (pL (pT (pZ (pJ (pU ?_))))))))))
 have hh := hOf0 hx
 intro a S
 refine r_ret2 S rfl rfl rfl ⟨⟨_, _, rfl, ?_, ?_⟩, H⟩
 ·
  first | rfl | (clear S H; rw [Bool.eq_iff_iff]; simp_all; done) | (clear S H; rw [hh, Bool.eq_iff_iff]; simp; split <;> simp_all <;> omega) | (clear S H; rw [hh, Bool.eq_iff_iff]; simp; (repeat' split) <;> simp_all <;> omega)
 intro h0; clear S H; rw [hh] at h0 ⊢; revert h0; (repeat' split) <;> simp_all <;> omega
theorem esc1 (wb w0 : World) (L0 : dc.Bk) (x : Nat) (hx : x < 256) (H : HH wb.heap.size wb w0 L0) : Calls Tryz.prog 96 #[.int .i64 1, .int .u8 (x : Int)] w0 fun e w' => (∃ (dv : Int) (b : Bool), e = .returned (.tuple #[.int .u8 dv, .bool b]) ∧ b = decide (hOf 1 x ≠ 0) ∧ (hOf 1 x ≠ 0 → dv = (hOf 1 x : Int))) ∧ HH wb.heap.size wb w' L0 := by
 refine c_enter (args := [.int .i64 1, .int .u8 (x : Int)]) (k := 41) Tryz.func96 rfl rfl rfl ?_
 refine pS (pG (pM 2 rfl (pL (pT (pS (pS (pG (pM 1 rfl (pL (pT (pB (pS (pG (pP (p_eql rfl rfl) rfl (pM 1 rfl (pL (pT (zf (pS (pG (pP (p_eql rfl rfl) rfl (pM 1 rfl (pL (pT (zf (pK (pI 0 (pT (pS (pG (pM 2 rfl (pP (p_eql rfl rfl) rfl (pM 1 rfl ?_)))))))))))))))))))))))))))))))));intro a S
 refine l_split (S.of 35 rfl) (fun bc7 => ?_) (fun bc7 => ?_)
 ·
  have c7 := eq_of_beq bc7
  revert a;refine pO bc7 rfl (pO bc7 rfl (pP (p_pick_t rfl bc7 rfl) rfl (pM 1 rfl (pO rfl rfl (pO rfl rfl (pP (p_pick_t rfl rfl rfl) rfl (pM 2 rfl (pL (pT (pZ ?_))))))))))
  have hh := hOf1 hx
  intro a S
  refine r_ret2 S rfl rfl rfl ⟨⟨_, _, rfl, ?_, ?_⟩, H⟩
  ·
   first | rfl | (clear S H; rw [Bool.eq_iff_iff]; simp_all; done) | (clear S H; rw [hh, Bool.eq_iff_iff]; simp; split <;> simp_all <;> omega) | (clear S H; rw [hh, Bool.eq_iff_iff]; simp; (repeat' split) <;> simp_all <;> omega)
  intro h0; clear S H; rw [hh] at h0 ⊢; revert h0; (repeat' split) <;> simp_all <;> omega
 have c7 := ne_of_beq_false bc7
 revert a;refine pN bc7 (pP (p_move rfl) rfl (pN bc7 (pP (p_eql rfl rfl) rfl (pP (p_pick_f rfl bc7 rfl) rfl (pM 1 rfl ?_)))));intro a S
 refine l_split (S.of 39 rfl) (fun bc11 => ?_) (fun bc11 => ?_)
 ·
  have c11 := eq_of_beq bc11
  revert a;refine pO bc11 rfl (pO bc11 rfl (pP (p_pick_t rfl bc11 rfl) rfl (pM 2 rfl (pL (pT (pZ ?_))))))
  have hh := hOf1 hx
  intro a S
  refine r_ret2 S rfl rfl rfl ⟨⟨_, _, rfl, ?_, ?_⟩, H⟩
  ·
   first | rfl | (clear S H; rw [Bool.eq_iff_iff]; simp_all; done) | (clear S H; rw [hh, Bool.eq_iff_iff]; simp; split <;> simp_all <;> omega) | (clear S H; rw [hh, Bool.eq_iff_iff]; simp; (repeat' split) <;> simp_all <;> omega)
  intro h0; clear S H; rw [hh] at h0 ⊢; revert h0; (repeat' split) <;> simp_all <;> omega
 have c11 := ne_of_beq_false bc11
 revert a;refine pN bc11 (pP (p_move rfl) rfl (pN bc11 (pP (p_eql rfl rfl) rfl (pP (p_pick_f rfl bc11 rfl) rfl (pM 2 rfl (pL (pT (pZ ?_))))))))
 have hh := hOf1 hx
 intro a S
 refine r_ret2 S rfl rfl rfl ⟨⟨_, _, rfl, ?_, ?_⟩, H⟩
 ·
  first | rfl | (clear S H; rw [Bool.eq_iff_iff]; simp_all; done) | (clear S H; rw [hh, Bool.eq_iff_iff]; simp; split <;> simp_all <;> omega) | (clear S H; rw [hh, Bool.eq_iff_iff]; simp; (repeat' split) <;> simp_all <;> omega)
 intro h0; clear S H; rw [hh] at h0 ⊢; revert h0; (repeat' split) <;> simp_all <;> omega
theorem esc2 (wb w0 : World) (L0 : dc.Bk) (x : Nat) (hx : x < 256) (H : HH wb.heap.size wb w0 L0) : Calls Tryz.prog 96 #[.int .i64 2, .int .u8 (x : Int)] w0 fun e w' => (∃ (dv : Int) (b : Bool), e = .returned (.tuple #[.int .u8 dv, .bool b]) ∧ b = decide (hOf 2 x ≠ 0) ∧ (hOf 2 x ≠ 0 → dv = (hOf 2 x : Int))) ∧ HH wb.heap.size wb w' L0 := by
 refine c_enter (args := [.int .i64 2, .int .u8 (x : Int)]) (k := 41) Tryz.func96 rfl rfl rfl ?_
 refine pS (pG (pM 2 rfl (pL (pT (pS (pS (pG (pM 1 rfl (pL (pT (pB (pS (pG (pP (p_eql rfl rfl) rfl (pM 1 rfl (pL (pT (zf (pS (pG (pP (p_eql rfl rfl) rfl (pM 1 rfl (pL (pT (zf (pK (pI 0 (pT (pS (pG (pM 2 rfl (pP (p_eql rfl rfl) rfl (pM 1 rfl ?_)))))))))))))))))))))))))))))))));intro a S
 refine l_split (S.of 35 rfl) (fun bc7 => ?_) (fun bc7 => ?_)
 ·
  have c7 := eq_of_beq bc7
  revert a;refine pO bc7 rfl (pO bc7 rfl (pP (p_pick_t rfl bc7 rfl) rfl (pM 1 rfl (pO rfl rfl (pO rfl rfl (pP (p_pick_t rfl rfl rfl) rfl (pM 2 rfl (pL (pT (pZ ?_))))))))))
  have hh := hOf2 hx
  intro a S
  refine r_ret2 S rfl rfl rfl ⟨⟨_, _, rfl, ?_, ?_⟩, H⟩
  ·
   first | rfl | (clear S H; rw [Bool.eq_iff_iff]; simp_all; done) | (clear S H; rw [hh, Bool.eq_iff_iff]; simp; split <;> simp_all <;> omega) | (clear S H; rw [hh, Bool.eq_iff_iff]; simp; (repeat' split) <;> simp_all <;> omega)
  intro h0; clear S H; rw [hh] at h0 ⊢; revert h0; (repeat' split) <;> simp_all <;> omega
 have c7 := ne_of_beq_false bc7
 revert a;refine pN bc7 (pP (p_move rfl) rfl (pN bc7 (pP (p_eql rfl rfl) rfl (pP (p_pick_f rfl bc7 rfl) rfl (pM 1 rfl ?_)))));intro a S
 refine l_split (S.of 39 rfl) (fun bc11 => ?_) (fun bc11 => ?_)
 ·
  have c11 := eq_of_beq bc11
  revert a;refine pO bc11 rfl (pO bc11 rfl (pP (p_pick_t rfl bc11 rfl) rfl (pM 2 rfl (pL (pT (pZ ?_))))))
  have hh := hOf2 hx
  intro a S
  refine r_ret2 S rfl rfl rfl ⟨⟨_, _, rfl, ?_, ?_⟩, H⟩
  ·
   first | rfl | (clear S H; rw [Bool.eq_iff_iff]; simp_all; done) | (clear S H; rw [hh, Bool.eq_iff_iff]; simp; split <;> simp_all <;> omega) | (clear S H; rw [hh, Bool.eq_iff_iff]; simp; (repeat' split) <;> simp_all <;> omega)
  intro h0; clear S H; rw [hh] at h0 ⊢; revert h0; (repeat' split) <;> simp_all <;> omega
 have c11 := ne_of_beq_false bc11
 revert a;refine pN bc11 (pP (p_move rfl) rfl (pN bc11 (pP (p_eql rfl rfl) rfl (pP (p_pick_f rfl bc11 rfl) rfl (pM 2 rfl (pL (pT (pZ ?_))))))))
 have hh := hOf2 hx
 intro a S
 refine r_ret2 S rfl rfl rfl ⟨⟨_, _, rfl, ?_, ?_⟩, H⟩
 ·
  first | rfl | (clear S H; rw [Bool.eq_iff_iff]; simp_all; done) | (clear S H; rw [hh, Bool.eq_iff_iff]; simp; split <;> simp_all <;> omega) | (clear S H; rw [hh, Bool.eq_iff_iff]; simp; (repeat' split) <;> simp_all <;> omega)
 intro h0; clear S H; rw [hh] at h0 ⊢; revert h0; (repeat' split) <;> simp_all <;> omega
theorem esc3 (wb w0 : World) (L0 : dc.Bk) (x : Nat) (hx : x < 256) (H : HH wb.heap.size wb w0 L0) : Calls Tryz.prog 96 #[.int .i64 3, .int .u8 (x : Int)] w0 fun e w' => (∃ (dv : Int) (b : Bool), e = .returned (.tuple #[.int .u8 dv, .bool b]) ∧ b = decide (hOf 3 x ≠ 0) ∧ (hOf 3 x ≠ 0 → dv = (hOf 3 x : Int))) ∧ HH wb.heap.size wb w' L0 := by
 refine c_enter (args := [.int .i64 3, .int .u8 (x : Int)]) (k := 41) Tryz.func96 rfl rfl rfl ?_
 refine pS (pG (pM 2 rfl (pL (pT (pS (pS (pG (pM 1 rfl (pL (pT (pB (pS (pG (pP (p_eql rfl rfl) rfl (pM 1 rfl (pL (pT (zf (pS (pG (pP (p_eql rfl rfl) rfl (pM 1 rfl (pL (pT (zf (pK (pI 0 (pT (pS (pG (pM 2 rfl (pP (p_eql rfl rfl) rfl (pM 1 rfl ?_)))))))))))))))))))))))))))))))));intro a S
 refine l_split (S.of 35 rfl) (fun bc7 => ?_) (fun bc7 => ?_)
 ·
  have c7 := eq_of_beq bc7
  revert a;refine pO bc7 rfl (pO bc7 rfl (pP (p_pick_t rfl bc7 rfl) rfl (pM 1 rfl (pO rfl rfl (pO rfl rfl (pP (p_pick_t rfl rfl rfl) rfl (pM 2 rfl (pL (pT (pZ ?_))))))))))
  have hh := hOf3 hx
  intro a S
  refine r_ret2 S rfl rfl rfl ⟨⟨_, _, rfl, ?_, ?_⟩, H⟩
  ·
   first | rfl | (clear S H; rw [Bool.eq_iff_iff]; simp_all; done) | (clear S H; rw [hh, Bool.eq_iff_iff]; simp; split <;> simp_all <;> omega) | (clear S H; rw [hh, Bool.eq_iff_iff]; simp; (repeat' split) <;> simp_all <;> omega)
  intro h0; clear S H; rw [hh] at h0 ⊢; revert h0; (repeat' split) <;> simp_all <;> omega
 have c7 := ne_of_beq_false bc7
 revert a;refine pN bc7 (pP (p_move rfl) rfl (pN bc7 (pP (p_eql rfl rfl) rfl (pP (p_pick_f rfl bc7 rfl) rfl (pM 1 rfl ?_)))));intro a S
 refine l_split (S.of 39 rfl) (fun bc11 => ?_) (fun bc11 => ?_)
 ·
  have c11 := eq_of_beq bc11
  revert a;refine pO bc11 rfl (pO bc11 rfl (pP (p_pick_t rfl bc11 rfl) rfl (pM 2 rfl (pL (pT (pZ ?_))))))
  have hh := hOf3 hx
  intro a S
  refine r_ret2 S rfl rfl rfl ⟨⟨_, _, rfl, ?_, ?_⟩, H⟩
  ·
   first | rfl | (clear S H; rw [Bool.eq_iff_iff]; simp_all; done) | (clear S H; rw [hh, Bool.eq_iff_iff]; simp; split <;> simp_all <;> omega) | (clear S H; rw [hh, Bool.eq_iff_iff]; simp; (repeat' split) <;> simp_all <;> omega)
  intro h0; clear S H; rw [hh] at h0 ⊢; revert h0; (repeat' split) <;> simp_all <;> omega
 have c11 := ne_of_beq_false bc11
 revert a;refine pN bc11 (pP (p_move rfl) rfl (pN bc11 (pP (p_eql rfl rfl) rfl (pP (p_pick_f rfl bc11 rfl) rfl (pM 2 rfl (pL (pT (pZ ?_))))))))
 have hh := hOf3 hx
 intro a S
 refine r_ret2 S rfl rfl rfl ⟨⟨_, _, rfl, ?_, ?_⟩, H⟩
 ·
  first | rfl | (clear S H; rw [Bool.eq_iff_iff]; simp_all; done) | (clear S H; rw [hh, Bool.eq_iff_iff]; simp; split <;> simp_all <;> omega) | (clear S H; rw [hh, Bool.eq_iff_iff]; simp; (repeat' split) <;> simp_all <;> omega)
 intro h0; clear S H; rw [hh] at h0 ⊢; revert h0; (repeat' split) <;> simp_all <;> omega
theorem esc4 (wb w0 : World) (L0 : dc.Bk) (x : Nat) (hx : x < 256) (H : HH wb.heap.size wb w0 L0) : Calls Tryz.prog 96 #[.int .i64 4, .int .u8 (x : Int)] w0 fun e w' => (∃ (dv : Int) (b : Bool), e = .returned (.tuple #[.int .u8 dv, .bool b]) ∧ b = decide (hOf 4 x ≠ 0) ∧ (hOf 4 x ≠ 0 → dv = (hOf 4 x : Int))) ∧ HH wb.heap.size wb w' L0 := by
 refine c_enter (args := [.int .i64 4, .int .u8 (x : Int)]) (k := 41) Tryz.func96 rfl rfl rfl ?_
 refine pS (pG (pM 2 rfl (pL (pT (pS (pS (pG (pM 1 rfl (pL (pT (pB (pS (pG (pP (p_eql rfl rfl) rfl (pM 1 rfl (pL (pT (zf (pS (pG (pP (p_eql rfl rfl) rfl (pM 1 rfl (pL (pT (zt (pS (pS (pG (pM 1 rfl (pL (pT (pB (pS (pG (pP (p_eql rfl rfl) rfl (pM 1 rfl (pL (pT (zc rfl (fun bc7 => ?_) (fun bc7 => ?_))))))))))))))))))))))))))))))))))))))))
 ·
  have c7 := eq_of_beq bc7
  refine pS (pG (pM 2 rfl (pL (pT (pZ (pJ (pU (pJ (pU ?_)))))))))
  have hh := hOf4 hx
  intro a S
  refine r_ret2 S rfl rfl rfl ⟨⟨_, _, rfl, ?_, ?_⟩, H⟩
  ·
   first | rfl | (clear S H; rw [Bool.eq_iff_iff]; simp_all; done) | (clear S H; rw [hh, Bool.eq_iff_iff]; simp; split <;> simp_all <;> omega) | (clear S H; rw [hh, Bool.eq_iff_iff]; simp; (repeat' split) <;> simp_all <;> omega)
  intro h0; clear S H; rw [hh] at h0 ⊢; revert h0; (repeat' split) <;> simp_all <;> omega
 have c7 := ne_of_beq_false bc7
 refine pS (pG (pP (p_eql rfl rfl) rfl (pM 1 rfl (pL (pT (zc rfl (fun bc10 => ?_) (fun bc10 => ?_)))))))
 ·
  have c10 := eq_of_beq bc10
  refine pS (pG (pM 2 rfl (pL (pT (pZ (pJ (pU (pJ (pU ?_)))))))))
  have hh := hOf4 hx
  intro a S
  refine r_ret2 S rfl rfl rfl ⟨⟨_, _, rfl, ?_, ?_⟩, H⟩
  ·
   first | rfl | (clear S H; rw [Bool.eq_iff_iff]; simp_all; done) | (clear S H; rw [hh, Bool.eq_iff_iff]; simp; split <;> simp_all <;> omega) | (clear S H; rw [hh, Bool.eq_iff_iff]; simp; (repeat' split) <;> simp_all <;> omega)
  intro h0; clear S H; rw [hh] at h0 ⊢; revert h0; (repeat' split) <;> simp_all <;> omega
 have c10 := ne_of_beq_false bc10
 refine pS (pG (pP (p_eql rfl rfl) rfl (pM 1 rfl (pL (pT (zc rfl (fun bc13 => ?_) (fun bc13 => ?_)))))))
 ·
  have c13 := eq_of_beq bc13
  refine pS (pG (pM 2 rfl (pL (pT (pZ (pJ (pU (pJ (pU ?_)))))))))
  have hh := hOf4 hx
  intro a S
  refine r_ret2 S rfl rfl rfl ⟨⟨_, _, rfl, ?_, ?_⟩, H⟩
  ·
   first | rfl | (clear S H; rw [Bool.eq_iff_iff]; simp_all; done) | (clear S H; rw [hh, Bool.eq_iff_iff]; simp; split <;> simp_all <;> omega) | (clear S H; rw [hh, Bool.eq_iff_iff]; simp; (repeat' split) <;> simp_all <;> omega)
  intro h0; clear S H; rw [hh] at h0 ⊢; revert h0; (repeat' split) <;> simp_all <;> omega
 have c13 := ne_of_beq_false bc13
 refine pK (pI 1 (pT (pS (pG (pM 2 rfl (pP (p_eql rfl rfl) rfl (pM 1 rfl ?_)))))));intro a S
 refine l_split (S.of 28 rfl) (fun bc16 => ?_) (fun bc16 => ?_)
 ·
  have c16 := eq_of_beq bc16
  revert a;refine pO bc16 rfl (pO bc16 rfl (pP (p_pick_t rfl bc16 rfl) rfl (pM 2 rfl (pL (pT (pZ (pJ (pU ?_))))))))
  have hh := hOf4 hx
  intro a S
  refine r_ret2 S rfl rfl rfl ⟨⟨_, _, rfl, ?_, ?_⟩, H⟩
  ·
   first | rfl | (clear S H; rw [Bool.eq_iff_iff]; simp_all; done) | (clear S H; rw [hh, Bool.eq_iff_iff]; simp; split <;> simp_all <;> omega) | (clear S H; rw [hh, Bool.eq_iff_iff]; simp; (repeat' split) <;> simp_all <;> omega)
  intro h0; clear S H; rw [hh] at h0 ⊢; revert h0; (repeat' split) <;> simp_all <;> omega
 have c16 := ne_of_beq_false bc16
 revert a;refine pN bc16 (pP (p_move rfl) rfl (pN bc16 (pP (p_eql rfl rfl) rfl (pP (p_pick_f rfl bc16 rfl) rfl (pM 2 rfl (pL (pT (pZ (pJ (pU ?_))))))))))
 have hh := hOf4 hx
 intro a S
 refine r_ret2 S rfl rfl rfl ⟨⟨_, _, rfl, ?_, ?_⟩, H⟩
 ·
  first | rfl | (clear S H; rw [Bool.eq_iff_iff]; simp_all; done) | (clear S H; rw [hh, Bool.eq_iff_iff]; simp; split <;> simp_all <;> omega) | (clear S H; rw [hh, Bool.eq_iff_iff]; simp; (repeat' split) <;> simp_all <;> omega)
 intro h0; clear S H; rw [hh] at h0 ⊢; revert h0; (repeat' split) <;> simp_all <;> omega
theorem end_ (wb w0 : World) (L0 : dc.Bk) (s : ByteArray) (hs : s.size ≤ 1000000) (H : HH wb.heap.size wb w0 L0) : Calls Tryz.prog 67 #[.string s] w0 fun e w' => e = .returned (.tuple #[.int .i64 ((dc.eol (ints s) 0).2.1 : Int), .bool (dc.eol (ints s) 0).1]) ∧ HH wb.heap.size wb w' L0 := by
 refine c_enter (args := [.string s]) (k := 22) Tryz.func67 rfl rfl rfl ?_
 refine pS (pG (pM 2 rfl (pL (pT (pS (pB (pS (pG (pM 1 rfl (pP (p_seql rfl rfl) rfl ?_))))))))));intro a S
 rw [sE] at S
 revert a;refine pM 1 rfl (pL (pT (zc rfl (fun bc3 => ?_) (fun bc3 => ?_))))
 ·
  have c3 := of_decide_eq_true bc3
  refine pS (pG (pM 2 rfl (pL (pT (pZ (pJ (pU ?_)))))))
  have hl := ints_len s
  have e01 : (ints s).getD (0 + 1) 0 = (ints s).getD 1 0 := rfl
  have hR : dc.eol (ints s) 0 = (true, 0, 0) := if_pos (by omega)
  intro a S
  rw [hR]
  exact r_ret2 S rfl rfl rfl ⟨rfl, H⟩
 have c3 := of_decide_eq_false bc3
 refine pS (pG (pM 1 rfl (pP (p_index rfl rfl (fun w => ix_string Tryz.underlying9 (by omega) (by omega))) rfl ?_)))
 obtain ⟨b5, hb5, lb5, nb5, gb5⟩ := bt_natI s (0 : Int) (0) (by first | rfl | omega)
 intro a S
 rw [hb5] at S
 revert a;refine pP (p_eql rfl rfl) rfl (pM 1 rfl (pL (pT (zc rfl (fun bc7 => ?_) (fun bc7 => ?_)))))
 ·
  have c7 := eq_of_beq bc7
  refine pS (pG (pM 2 rfl (pL (pT (pZ (pJ (pU ?_)))))))
  have hl := ints_len s
  have e01 : (ints s).getD (0 + 1) 0 = (ints s).getD 1 0 := rfl
  have hR : dc.eol (ints s) 0 = (true, 1, 1) := (if_neg (by omega)).trans ((if_pos (by omega)))
  intro a S
  rw [hR]
  exact r_ret2 S rfl rfl rfl ⟨rfl, H⟩
 have c7 := ne_of_beq_false bc7
 refine pS (pG (pM 1 rfl (pP (p_index rfl rfl (fun w => ix_string Tryz.underlying9 (by omega) (by omega))) rfl ?_)))
 obtain ⟨b9, hb9, lb9, nb9, gb9⟩ := bt_natI s (0 : Int) (0) (by first | rfl | omega)
 intro a S
 rw [hb9] at S
 revert a;refine pP (p_neq rfl rfl) rfl (pM 1 rfl (pL (pT (zc rfl (fun bc11 => ?_) (fun bc11 => ?_)))))
 ·
  have c11 := bne_iff_ne.1 bc11
  refine pS (pG (pM 2 rfl (pL (pT (pZ (pJ (pU ?_)))))))
  have hl := ints_len s
  have e01 : (ints s).getD (0 + 1) 0 = (ints s).getD 1 0 := rfl
  have hR : dc.eol (ints s) 0 = (false, 0, 0) := (if_neg (by omega)).trans ((if_neg (by omega)).trans ((if_neg (by omega))))
  intro a S
  rw [hR]
  exact r_ret2 S rfl rfl rfl ⟨rfl, H⟩
 have c11 := bne_eq_false_iff_eq.1 bc11
 refine pS (pG (pM 1 rfl (pP (p_lens Tryz.underlying9 rfl) rfl (pP (p_eql rfl rfl) rfl (pM 1 rfl (pL (pT (zc rfl (fun bc14 => ?_) (fun bc14 => ?_)))))))))
 ·
  have c14 := eq_of_beq bc14
  refine pS (pG (pM 2 rfl (pL (pT (pZ (pJ (pU ?_)))))))
  have hl := ints_len s
  have e01 : (ints s).getD (0 + 1) 0 = (ints s).getD 1 0 := rfl
  have hR : dc.eol (ints s) 0 = (true, 1, 0) := (if_neg (by omega)).trans ((if_neg (by omega)).trans ((if_pos (by omega)).trans ((if_pos (by omega)))))
  intro a S
  rw [hR]
  exact r_ret2 S rfl rfl rfl ⟨rfl, H⟩
 have c14 := ne_of_beq_false bc14
 refine pS (pG (pM 1 rfl (pP (p_index rfl rfl (fun w => ix_string Tryz.underlying9 (by omega) (by omega))) rfl ?_)))
 obtain ⟨b16, hb16, lb16, nb16, gb16⟩ := bt_natI s (1 : Int) (1) (by first | rfl | omega)
 intro a S
 rw [hb16] at S
 revert a;refine pP (p_eql rfl rfl) rfl (pM 1 rfl (pL (pT (zc rfl (fun bc18 => ?_) (fun bc18 => ?_)))))
 ·
  have c18 := eq_of_beq bc18
  refine pS (pG (pM 2 rfl (pL (pT (pZ (pJ (pU ?_)))))))
  have hl := ints_len s
  have e01 : (ints s).getD (0 + 1) 0 = (ints s).getD 1 0 := rfl
  have hR : dc.eol (ints s) 0 = (true, 2, 1) := (if_neg (by omega)).trans ((if_neg (by omega)).trans ((if_pos (by omega)).trans ((if_neg (by omega)).trans ((if_pos (by omega))))))
  intro a S
  rw [hR]
  exact r_ret2 S rfl rfl rfl ⟨rfl, H⟩
 have c18 := ne_of_beq_false bc18
 refine pK (pI 0 (pT (pS (pG (pM 2 rfl (pL (pT (pZ ?_))))))))
 have hl := ints_len s
 have e01 : (ints s).getD (0 + 1) 0 = (ints s).getD 1 0 := rfl
 have hR : dc.eol (ints s) 0 = (false, 0, 0) := (if_neg (by omega)).trans ((if_neg (by omega)).trans ((if_pos (by omega)).trans ((if_neg (by omega)).trans ((if_neg (by omega))))))
 intro a S
 rw [hR]
 exact r_ret2 S rfl rfl rfl ⟨rfl, H⟩
theorem breaks_ (wb w0 : World) (L0 : dc.Bk) (s : ByteArray) (hs : s.size ≤ 1000000) (H : HH wb.heap.size wb w0 L0) : Calls Tryz.prog 98 #[.string s] w0 fun e w' => (∃ n : Nat, e = .returned (.int .i64 (n : Int)) ∧ n ≤ 1000000) ∧ HH wb.heap.size wb w' L0 := by
 refine c_enter (args := [.string s]) (k := 17) Tryz.func98 rfl rfl rfl ?_
 refine pS (pG (pM 1 rfl (pL (pT (pS (pG (pM 1 rfl (pL (pT (pS (pS (pG (pM 1 rfl (pL (pT (pB ?_))))))))))))))));intro a S
 refine c_loop (σ := Nat × Nat) (fun s_ a w => match s_ with | ⟨j, n⟩ => SL a 18 [] [(0, .string s), (3, .int .i64 (n : Int)), (4, .int .i64 (j : Int))] ∧ HH (wb.heap.size) wb w L0 ∧ (j ≤ s.size ∧ n ≤ j)) (fun s_ => match s_ with | ⟨j, n⟩ => s.size - j) ⟨0, 0⟩ ⟨S.only ⟨rfl, rfl, rfl, trivial⟩, H, ⟨Nat.zero_le _, Nat.le_refl _⟩⟩ ?_
 clear S a H; rintro ⟨j, n⟩ a w ⟨S, H, hinv⟩
 obtain ⟨hj, hn⟩ := hinv
 revert a;refine pS (pS (pG (pM 2 rfl (pP (p_lens Tryz.underlying9 rfl) rfl (pP (p_lss rfl rfl) rfl (pL (pT (zc rfl (fun bc2 => ?_) (fun bc2 => ?_)))))))))
 ·
  have c2 := of_decide_eq_true bc2
  refine pK (pT (pS (pB (pS (pG (pM 2 rfl (pP (p_index rfl rfl (fun w => ix_string Tryz.underlying9 (by omega) (by omega))) rfl ?_)))))))
  obtain ⟨b3, hb3, lb3, nb3, gb3⟩ := bt_natI s (((j : Nat) : Int)) (j) (by first | rfl | omega)
  intro a S
  rw [hb3] at S
  revert a;refine pP (p_eql rfl rfl) rfl (pL (pT (zc rfl (fun bc5 => ?_) (fun bc5 => ?_))))
  ·
   have c5 := eq_of_beq bc5
   refine pG (pM 1 rfl (pP (p_add rfl rfl (nat_add (x := n) (y := 1) (by omega))) rfl (pM 1 rfl (pL (pI 1 (pT (pG (pM 1 rfl (pP (p_add rfl rfl (nat_add (x := j) (y := 1) (by omega))) rfl (pM 1 rfl (pL (pT ?_))))))))))));intro a S
   exact ⟨⟨j + 1, n + 1⟩, ⟨S.only ⟨rfl, rfl, rfl, trivial⟩, H, ⟨by omega, by omega⟩⟩, (show s.size - (j + 1) < s.size - j from by omega)⟩
  have c5 := ne_of_beq_false bc5
  refine pK (pI 1 (pT (pG (pM 1 rfl (pP (p_add rfl rfl (nat_add (x := j) (y := 1) (by omega))) rfl (pM 1 rfl (pL (pT ?_))))))));intro a S
  exact ⟨⟨j + 1, n⟩, ⟨S.only ⟨rfl, rfl, rfl, trivial⟩, H, ⟨by omega, by omega⟩⟩, (show s.size - (j + 1) < s.size - j from by omega)⟩
 have c2 := of_decide_eq_false bc2
 refine pX (pV (pV (pW (pT (pS (pG (pM 2 rfl (pL (pT (pZ ?_))))))))));intro a S
 exact r_ret1 S rfl rfl ⟨⟨n, rfl, by omega⟩, H⟩
end ja
end Go.Proofs.YtbahngfpadjbhaaGreatDoor.dec
end
section
namespace Go.Proofs.YtbahngfpadjbhaaGreatDoor.dec
open Go.Proofs.YtbahngfpadjbhaaGreatDoor.fx
open Go.RowKit Go.Proofs.HHW Go.Proofs.YtbahngfpadjbhaaGreatDoorW.PrintWords Go.Proofs.YtbahngfpadjbhaaGreatDoor.dt
namespace jb
theorem bld38_0_1_2 (x0_0 : Bool) (x1_0 : Int) (x2_0 : Int) : Tryz.prog.built 38 [(0, (.bool x0_0)), (1, (.int .i64 x1_0)), (2, (.int .i64 x2_0))] = some #[.bool x0_0, .int .i64 x1_0, .int .i64 x2_0, .bool false] := by kernel_rfl
theorem done_ (wb w0 : World) (g : Nat) (s : ByteArray) (q : Nat) (part : Int) (fr : Nat) (L0 : dc.Bk) (hs : s.size ≤ 100000)  (H : HH wb.heap.size wb w0 ((g, Obj.cells #[.string s, .int .i64 ((q : Nat) : Int), .int .i64 part, .int .i64 ((fr : Nat) : Int)] 73 (0, 0)) :: L0)) : Calls Tryz.prog 31 #[.pointer (some ⟨g, 0, none⟩)] w0 fun e w' => e = .returned (.bool (decide ((q : Int) ≥ (s.size : Int)))) ∧ HH wb.heap.size wb w' ((g, Obj.cells #[.string s, .int .i64 ((q : Nat) : Int), .int .i64 part, .int .i64 ((fr : Nat) : Int)] 73 (0, 0)) :: L0) := by
 refine c_enter (args := [.pointer (some ⟨g, 0, none⟩)]) (k := 12) Tryz.func31 rfl rfl rfl ?_
 refine pS (pG (pM 1 rfl (pL (pT (pS ?_)))));intro a S
 refine d_start (id := 1) [] 11 (bA 11 0) H rfl rfl rfl (fun w H => ?_)
 revert a;refine qM [0,1,4,5] rfl (qA 2 fa73_1 rfl rfl rfl rfl (qE 3 H rfl rfl rfl m0 rfl ag3 rfl (qA 6 fa73_0 rfl rfl rfl rfl (qE 7 H rfl rfl rfl m0 rfl ag9 rfl (qP 8 rfl (p_lens Tryz.underlying9 rfl) rfl (qP 9 rfl (p_geq rfl rfl) rfl (qM [10] rfl (qD (pT (pZ ?_))))))))));intro a S
 exact r_ret1 S rfl rfl ⟨rfl, H⟩
theorem next_ (wb w0 : World) (g : Nat) (s : ByteArray) (q : Nat) (part : Int) (fr : Nat) (L0 : dc.Bk) (hs : s.size ≤ 100000) (k : Nat) (hk : k < 14) (H : HH wb.heap.size wb w0 ((g, Obj.cells #[.string s, .int .i64 ((q : Nat) : Int), .int .i64 part, .int .i64 ((fr : Nat) : Int)] 73 (0, 0)) :: L0)) : Calls Tryz.prog 65 #[.pointer (some ⟨g, 0, none⟩), .int .i64 (k : Int)] w0 fun e w' => ∃ b : Bool, e = .returned (.bool b) ∧ (b = true ↔ q < s.size ∧ sIn k ((ints s).getD q 0).toNat = true) ∧ HH wb.heap.size wb w' ((g, Obj.cells #[.string s, .int .i64 ((q : Nat) : Int), .int .i64 part, .int .i64 ((fr : Nat) : Int)] 73 (0, 0)) :: L0) := by
 have hsO := hk
 refine c_enter (args := [.pointer (some ⟨g, 0, none⟩), .int .i64 (k : Int)]) (k := 26) Tryz.func65 rfl rfl rfl ?_
 refine pS (pG (pM 1 rfl (pL (pT (pS ?_)))));intro a S
 refine d_start (id := 1) [] 24 (bA 24 0) H rfl rfl rfl (fun w H => ?_)
 revert a;refine qM [0,1,4,5] rfl (qA 2 fa73_1 rfl rfl rfl rfl (qE 3 H rfl rfl rfl m0 rfl ag3 rfl (qA 6 fa73_0 rfl rfl rfl rfl (qE 7 H rfl rfl rfl m0 rfl ag9 rfl (qP 8 rfl (p_lens Tryz.underlying9 rfl) rfl (qP 9 rfl (p_lss rfl rfl) rfl (qM [10] rfl ?_)))))));intro a S
 refine d_split (S.of 15 rfl) (fun bc3 => ?_) (fun bc3 => ?_)
 ·
  have c3 := of_decide_eq_true bc3
  revert a;refine qW 11 rfl (p_move rfl) bc3 rfl (qW 12 rfl (p_move rfl) bc3 rfl (qW 13 rfl (p_nilCheck rfl) bc3 rfl (qX 14 fa73_0 rfl rfl rfl bc3 rfl (qF 15 H rfl rfl rfl m0 rfl ag9 bc3 rfl (qW 16 rfl (p_move rfl) bc3 rfl (qW 17 rfl (p_nilCheck rfl) bc3 rfl (qX 18 fa73_1 rfl rfl rfl bc3 rfl (qF 19 H rfl rfl rfl m0 rfl ag3 bc3 rfl (qW 20 rfl (p_index rfl rfl (fun w => ix_string Tryz.underlying9 (by omega) (by omega))) bc3 rfl ?_)))))))))
  obtain ⟨b4, hb4, lb4, nb4, gb4⟩ := bt_natI s (((q : Nat) : Int)) (q) (by first | rfl | omega)
  intro a S
  rw [hb4] at S
  have hcon := dec.ja.in_ wb _ _ (k) b4 (by first | omega | exact hsO) H
  refine d_call (i := 21) (bA 24 4194303) S rfl rfl rfl Tryz.func66 rfl rfl hcon (wanted_on S rfl rfl rfl rfl bc3) rfl rfl (by kernel_rfl) rfl ?_
  rintro e w ⟨rfl, hH⟩
  refine ⟨_, rfl, hH, ?_⟩;clear S a
  clear H hcon; have H := hH; clear hH
  refine qP 22 rfl (p_pick_t rfl bc3 rfl) rfl (qM [23] rfl (qD (pT (pZ ?_))));intro a S
  exact r_ret1 S rfl rfl ⟨_, rfl, ⟨fun h => ⟨by omega, by rw [nb4]; exact h⟩, fun h => by rw [← nb4]; exact h.2⟩, H⟩
 have c3 := of_decide_eq_false bc3
 revert a;refine qO 11 rfl bc3 rfl (qO 12 rfl bc3 rfl (qO 13 rfl bc3 rfl (qO 14 rfl bc3 rfl (qO 15 rfl bc3 rfl (qO 16 rfl bc3 rfl (qO 17 rfl bc3 rfl (qO 18 rfl bc3 rfl (qO 19 rfl bc3 rfl (qO 20 rfl bc3 rfl (qO 21 rfl bc3 rfl (qP 22 rfl (p_pick_f rfl bc3 rfl) rfl (qM [23] rfl (qD (pT (pZ ?_)))))))))))))));intro a S
 exact r_ret1 S rfl rfl ⟨_, rfl, ⟨fun h => (by cases h), fun h => (by omega)⟩, H⟩
theorem run_ (wb w0 : World) (g : Nat) (s : ByteArray) (q : Nat) (part : Int) (fr : Nat) (L0 : dc.Bk) (hs : s.size ≤ 100000) (k : Nat) (hk : k < 14) (hq : q ≤ s.size) (H : HH wb.heap.size wb w0 ((g, Obj.cells #[.string s, .int .i64 ((q : Nat) : Int), .int .i64 part, .int .i64 ((fr : Nat) : Int)] 73 (0, 0)) :: L0)) : Calls Tryz.prog 29 #[.pointer (some ⟨g, 0, none⟩), .int .i64 (k : Int)] w0 fun e w' => ∃ m : ByteArray, e = .returned (.string m) ∧ m.size = run k (ints s) q - q ∧ HH wb.heap.size wb w' ((g, Obj.cells #[.string s, .int .i64 ((run k (ints s) q : Nat) : Int), .int .i64 part, .int .i64 ((fr : Nat) : Int)] 73 (0, 0)) :: L0) := by
 refine c_enter (args := [.pointer (some ⟨g, 0, none⟩), .int .i64 (k : Int)]) (k := 28) Tryz.func29 rfl rfl rfl ?_
 refine pS (pG (pM 1 rfl (pL (pT (pS (pG (pM 2 rfl (pA fa73_1 rfl rfl rfl (pD H rfl rfl m0 rfl ag3 rfl (pM 1 rfl (pL (pT (pS (pB ?_))))))))))))));intro a S
 refine c_loop (σ := Nat) (fun s_ a w => match s_ with | j => SL a 30 [] [(0, .pointer (some ⟨g, 0, none⟩)), (1, .int .i64 (k : Int)), (5, .int .i64 (q : Int))] ∧ HH (wb.heap.size) wb w ((g, Obj.cells #[.string s, .int .i64 ((j : Nat) : Int), .int .i64 part, .int .i64 ((fr : Nat) : Int)] 73 (0, 0)) :: L0) ∧ (q ≤ j ∧ j ≤ s.size ∧ run k (ints s) q = run k (ints s) j)) (fun s_ => match s_ with | j => s.size - j) q ⟨S.only ⟨rfl, rfl, rfl, trivial⟩, H, ⟨Nat.le_refl _, hq, rfl⟩⟩ ?_
 clear S a H; rintro j a w ⟨S, H, hinv⟩
 obtain ⟨hqj, hjs, hrun⟩ := hinv
 revert a;refine pS (pS (pG (pM 2 rfl ?_)))
 have hcon := jb.next_ _ _ _ _ _ _ _ _ hs k hk H
 refine pC Tryz.func65 hcon ?_
 rintro e w ⟨n1, rfl, hn1, hH⟩
 refine ⟨_, rfl, ?_⟩
 clear H hcon; have H := hH; clear hH
 refine pL (pT (zc rfl (fun bc2 => ?_) (fun bc2 => ?_)))
 ·
  have c2 := bc2
  have hn := hn1.1 c2
  have hlt := hn.1
  refine pK (pT (pB (pG (pM 2 rfl (pA fa73_1 rfl rfl rfl (pD H rfl rfl m0 rfl ag3 rfl (pP (p_add rfl rfl (nat_add (x := j) (y := 1) (by omega))) rfl (pM 1 rfl (pA fa73_1 rfl rfl rfl (pE H rfl rfl rfl .here (by first | decide | simp [Value.cells]) sz3 ?_))))))))));clear H;intro w H
  refine pL (pI 1 (pT ?_));intro a S
  exact ⟨(j + 1), ⟨S.only ⟨rfl, rfl, rfl, trivial⟩, H, ⟨by omega, by omega, by rw [hrun]; exact run_step (by rw [ints_len]; exact hn.1) hn.2⟩⟩, (show s.size - (j + 1) < s.size - j from by have := hn.1; omega)⟩
 have c2 := bc2
 have hstop : run k (ints s) j = j := by
  by_cases h : j < s.size
  ·
   exact run_stop (by rw [ints_len]; exact h) (by
    cases hc : sIn k ((ints s).getD j 0).toNat with
    | false => rfl
    | true => rw [hn1.2 ⟨h, hc⟩] at c2; cases c2)
  ·
   exact run_end (by rw [ints_len]; omega)
 refine pX (pV (pV (pW (pT (pS ?_)))));intro a S
 refine d_start (id := 4) [] 11 (bA 11 0) H rfl rfl rfl (fun w H => ?_)
 revert a;refine qM [0,1,4,5,6] rfl (qA 2 fa73_0 rfl rfl rfl rfl (qE 3 H rfl rfl rfl m0 rfl ag9 rfl (qA 7 fa73_1 rfl rfl rfl rfl (qE 8 H rfl rfl rfl m0 rfl ag3 rfl (qP 9 rfl (p_slice rfl (o_some rfl) (o_some rfl) (fun _ _ => o_none) (fun w => sl_string Tryz.underlying9 (by omega) (by omega) (by omega))) rfl ?_)))));intro a S
 simp only [Int.toNat_natCast] at S
 revert a;refine qM [10] rfl (qD (pT (pZ ?_)));intro a S
 rw [hrun, hstop]
 exact r_ret1 S rfl rfl ⟨_, rfl, by rw [ByteArray.size_extract]; omega, H⟩
theorem place_ (wb w0 : World) (g : Nat) (s : ByteArray) (q : Nat) (part : Int) (fr : Nat) (L0 : dc.Bk) (hs : s.size ≤ 100000) (p : Nat) (hp : p ≤ s.size) (hfr : fr ≤ 100000) (H : HH wb.heap.size wb w0 ((g, Obj.cells #[.string s, .int .i64 ((q : Nat) : Int), .int .i64 part, .int .i64 ((fr : Nat) : Int)] 73 (0, 0)) :: L0)) : Calls Tryz.prog 87 #[.pointer (some ⟨g, 0, none⟩), .int .i64 (p : Int)] w0 fun e w' => ∃ l k : Int, e = .returned (.agg #[.bool true, .int .i64 l, .int .i64 k, .bool false]) ∧ HH wb.heap.size wb w' ((g, Obj.cells #[.string s, .int .i64 ((q : Nat) : Int), .int .i64 part, .int .i64 ((fr : Nat) : Int)] 73 (0, 0)) :: L0) := by
 refine c_enter (args := [.pointer (some ⟨g, 0, none⟩), .int .i64 (p : Int)]) (k := 40) Tryz.func87 rfl rfl rfl ?_
 refine pS (pG ?_);intro a S
 refine l_alloc (cs := #[.bool false, .int .i64 0, .int .i64 0, .bool false]) S H rfl (fun w => al zv38) rfl rfl rfl ?_; clear S a H; intro gf w a H S
 revert a;refine pL (pT (pS (pG (pM 2 rfl (pA fa73_3 rfl rfl rfl (pD H rfl rfl m1 rfl ag3 rfl (pM 1 rfl (pL (pT (pS (pS (pG (pM 2 rfl (pA fa73_3 rfl rfl rfl (pD H rfl rfl m1 rfl ag3 rfl (pM 1 rfl (pL (pT (pB ?_)))))))))))))))))));intro a S
 refine c_loop (σ := Nat × Nat) (fun s_ a w => match s_ with | ⟨j, m⟩ => SL a 42 [] [(0, .pointer (some ⟨g, 0, none⟩)), (1, .int .i64 (p : Int)), (4, .pointer (some ⟨gf, 0, none⟩)), (5, .int .i64 (m : Int)), (6, .int .i64 (j : Int))] ∧ HH (wb.heap.size) wb w ((gf, Obj.cells #[.bool false, .int .i64 0, .int .i64 0, .bool false] 38 (0, 0)) :: (g, Obj.cells #[.string s, .int .i64 ((q : Nat) : Int), .int .i64 part, .int .i64 ((fr : Nat) : Int)] 73 (0, 0)) :: L0) ∧ (m ≤ 100000 ∧ j ≤ 100000)) (fun s_ => match s_ with | ⟨j, m⟩ => p - j) ⟨fr, fr⟩ ⟨S.only ⟨rfl, rfl, rfl, rfl, rfl, trivial⟩, H, ⟨hfr, hfr⟩⟩ ?_
 clear S a H; rintro ⟨j, m⟩ a w ⟨S, H, hinv⟩
 obtain ⟨hm, hj⟩ := hinv
 revert a;refine pS (pS (pG (pM 2 rfl (pP (p_lss rfl rfl) rfl (pL (pT (zc rfl (fun bc2 => ?_) (fun bc2 => ?_))))))))
 ·
  have c2 := of_decide_eq_true bc2
  refine pK (pT (pS (pB (pS (pG (pM 2 rfl (pA fa73_0 rfl rfl rfl (pD H rfl rfl m1 rfl ag9 rfl (pM 1 rfl (pP (p_index rfl rfl (fun w => ix_string Tryz.underlying9 (by omega) (by omega))) rfl ?_))))))))))
  obtain ⟨b3, hb3, lb3, nb3, gb3⟩ := bt_natI s (((j : Nat) : Int)) (j) (by first | rfl | omega)
  intro a S
  rw [hb3] at S
  revert a;refine pP (p_eql rfl rfl) rfl (pL (pT (zc rfl (fun bc5 => ?_) (fun bc5 => ?_))))
  ·
   have c5 := eq_of_beq bc5
   refine pG (pM 1 rfl (pP (p_add rfl rfl (nat_add (x := j) (y := 1) (by omega))) rfl (pM 1 rfl (pL (pI 1 (pT (pG (pM 1 rfl (pP (p_add rfl rfl (nat_add (x := j) (y := 1) (by omega))) rfl (pM 1 rfl (pL (pT ?_))))))))))));intro a S
   exact ⟨⟨j + 1, j + 1⟩, ⟨S.only ⟨rfl, rfl, rfl, rfl, rfl, trivial⟩, H, ⟨by omega, by omega⟩⟩, (show p - (j + 1) < p - j from by omega)⟩
  have c5 := ne_of_beq_false bc5
  refine pK (pI 1 (pT (pG (pM 1 rfl (pP (p_add rfl rfl (nat_add (x := j) (y := 1) (by omega))) rfl (pM 1 rfl (pL (pT ?_))))))));intro a S
  exact ⟨⟨j + 1, m⟩, ⟨S.only ⟨rfl, rfl, rfl, rfl, rfl, trivial⟩, H, ⟨by omega, by omega⟩⟩, (show p - (j + 1) < p - j from by omega)⟩
 have c2 := of_decide_eq_false bc2
 refine pX (pV (pV (pW (pT (pS (pG (pM 2 rfl (pA fa73_0 rfl rfl rfl (pD H rfl rfl m1 rfl ag9 rfl (pM 1 rfl (pP (p_slice rfl (fun _ _ => o_none) (o_some rfl) (fun _ _ => o_none) (fun w => sl_string_hi Tryz.underlying9 (by omega) (by omega))) rfl ?_)))))))))));intro a S
 simp only [Int.toNat_natCast] at S
 have hcon := dec.ja.breaks_ wb _ _ (s.extract (0) (p)) (by rw [ByteArray.size_extract]; omega) H
 revert a;refine pC Tryz.func98 hcon ?_
 rintro e w ⟨⟨n, rfl, hn⟩, hH⟩
 refine ⟨_, rfl, ?_⟩
 clear H hcon; have H := hH; clear hH
 refine pP (p_add rfl rfl (nat_add (x := 1) (y := n) (by omega))) rfl (pM 2 rfl (pP (p_sub (r := (p : Int) - (m : Int)) rfl rfl (IntWalk.i64_in _ (by omega))) rfl (pP (p_add (r := (p : Int) - (m : Int) + 1) rfl rfl (IntWalk.i64_in _ (by omega))) rfl (pP (p_bld (ps := [(0, .const (.bool true)), (1, .tmp 36), (2, .tmp 40)]) rfl (bld38_0_1_2 _ _ _)) rfl (pF [.bool true, .int .i64 (((1 + n) : Nat) : Int), .int .i64 ((p : Int) - (m : Int) + 1), .bool false] H rfl rfl sz38 .here ?_)))));clear H;intro w H
 refine pL (pT (pZ ?_));intro a S
 refine r_retc1 S rfl rfl (lva (cs := [.bool true, .int .i64 (((1 + n) : Nat) : Int), .int .i64 ((p : Int) - (m : Int) + 1), .bool false]) ag38 sz38 rfl H m0) ⟨_, _, rfl, H.tail⟩
end jb
end Go.Proofs.YtbahngfpadjbhaaGreatDoor.dec
end
