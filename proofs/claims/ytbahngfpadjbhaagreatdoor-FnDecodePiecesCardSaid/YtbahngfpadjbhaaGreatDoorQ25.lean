/- Part of the proof that FnDecodePieces answers true, as its card states it: whatever the text and the two rows of sizes, in every world that the statement admits. No condition beyond those of the statement. -/
import Derived.Test.YtbahngfpadjbhaaGreatDoorQ17
import Derived.Test.YtbahngfpadjbhaaGreatDoorQ24
import Derived.Test.YtbahngfpadjbhaaGreatDoorQ04
section
namespace Go.Proofs.YtbahngfpadjbhaaGreatDoor.dec
open Go.RowKit Go.Proofs.HHW Go.Proofs.YtbahngfpadjbhaaGreatDoorW.PrintWords Go.Proofs.YtbahngfpadjbhaaGreatDoor.dt
set_option linter.unusedVariables false
set_option linter.unusedSimpArgs false
namespace ka
set_option maxHeartbeats 1000000 in
theorem law_ (w0 : World) (s : ByteArray) (Az : Option Addr) (zs : List Int) (cz : Nat) (Ay : Option Addr) (ys : List Int) (cy : Nat) (hW : Wb 118 1 2 3 0 w0) (hCz : (Kd.int .i64).C w0 Az zs.length zs) (hzc : zs.length ≤ cz) (hCy : (Kd.int .i64).C w0 Ay ys.length ys) (hyc : ys.length ≤ cy) : Calls Tryz.prog 4 #[.string s, .slice Az zs.length cz, .slice Ay ys.length cy] w0 fun e w' => e = .returned (.bool true) ∧ Below w0.heap.size w0 w' := by
 have H := HH.start w0
 refine c_enter (args := [.string s, .slice Az zs.length cz, .slice Ay ys.length cy]) (k := 78) Tryz.func4 rfl rfl rfl ?_
 refine pS (pG (pM 1 rfl (pL (pT (pS (pS (pG (pM 1 rfl (pP (p_lens Tryz.underlying9 rfl) rfl (pP (p_gtr rfl rfl) rfl (pM 1 rfl ?_)))))))))));intro a S
 refine l_split (S.of 16 rfl) (fun bc3 => ?_) (fun bc3 => ?_)
 ·
  have c3 := of_decide_eq_true bc3
  revert a;refine pO bc3 rfl (pO bc3 rfl (pO bc3 rfl (pP (p_pick_t rfl bc3 rfl) rfl (pM 1 rfl (pO rfl rfl (pO rfl rfl (pO rfl rfl (pP (p_pick_t rfl rfl rfl) rfl (pL (pT (zt (pS (pG (pM 1 rfl (pL (pT (pZ (pU ?_))))))))))))))))));intro a S
  first | exact r_ret1 S rfl rfl ⟨rfl, H.below⟩ | exact r_ret1 S rfl rfl ⟨by rw [beq_self_eq_true], H.below⟩
 have c3 := of_decide_eq_false bc3
 revert a;refine pN bc3 (pP (p_move rfl) rfl (pN bc3 (pP (p_len Tryz.underlying30 rfl) rfl (pN bc3 (pP (p_gtr rfl rfl) rfl (pP (p_pick_f rfl bc3 rfl) rfl (pM 1 rfl ?_)))))));intro a S
 refine l_split (S.of 21 rfl) (fun bc9 => ?_) (fun bc9 => ?_)
 ·
  have c9 := of_decide_eq_true bc9
  revert a;refine pO bc9 rfl (pO bc9 rfl (pO bc9 rfl (pP (p_pick_t rfl bc9 rfl) rfl (pL (pT (zt (pS (pG (pM 1 rfl (pL (pT (pZ (pU ?_)))))))))))));intro a S
  first | exact r_ret1 S rfl rfl ⟨rfl, H.below⟩ | exact r_ret1 S rfl rfl ⟨by rw [beq_self_eq_true], H.below⟩
 have c9 := of_decide_eq_false bc9
 revert a;refine pN bc9 (pP (p_move rfl) rfl (pN bc9 (pP (p_len Tryz.underlying30 rfl) rfl (pN bc9 (pP (p_gtr rfl rfl) rfl (pP (p_pick_f rfl bc9 rfl) rfl (pL (pT (zc rfl (fun bc14 => ?_) (fun bc14 => ?_))))))))))
 ·
  have c14 := of_decide_eq_true bc14
  refine pS (pG (pM 1 rfl (pL (pT (pZ (pU ?_))))));intro a S
  first | exact r_ret1 S rfl rfl ⟨rfl, H.below⟩ | exact r_ret1 S rfl rfl ⟨by rw [beq_self_eq_true], H.below⟩
 have c14 := of_decide_eq_false bc14
 refine pK (pT (pS (pS (pG (pM 1 rfl (pP (p_lens Tryz.underlying9 rfl) rfl (pP (p_gtr rfl rfl) rfl (pM 1 rfl ?_))))))));intro a S
 refine l_split (S.of 29 rfl) (fun bc17 => ?_) (fun bc17 => ?_)
 ·
  have c17 := of_decide_eq_true bc17
  revert a;refine pO bc17 rfl (pO bc17 rfl (pO bc17 rfl (pP (p_pick_t rfl bc17 rfl) rfl (pM 1 rfl (pO rfl rfl (pO rfl rfl (pO rfl rfl (pP (p_pick_t rfl rfl rfl) rfl (pL (pT (zt (pS (pG (pM 1 rfl (pL (pT (pZ (pU ?_))))))))))))))))));intro a S
  first | exact r_ret1 S rfl rfl ⟨rfl, H.below⟩ | exact r_ret1 S rfl rfl ⟨by rw [beq_self_eq_true], H.below⟩
 have c17 := of_decide_eq_false bc17
 revert a;refine pN bc17 (pP (p_move rfl) rfl (pN bc17 (pP (p_len Tryz.underlying30 rfl) rfl (pN bc17 (pP (p_gtr rfl rfl) rfl (pP (p_pick_f rfl bc17 rfl) rfl (pM 1 rfl ?_)))))));intro a S
 refine l_split (S.of 34 rfl) (fun bc23 => ?_) (fun bc23 => ?_)
 ·
  have c23 := of_decide_eq_true bc23
  revert a;refine pO bc23 rfl (pO bc23 rfl (pO bc23 rfl (pP (p_pick_t rfl bc23 rfl) rfl (pL (pT (zt (pS (pG (pM 1 rfl (pL (pT (pZ (pU ?_)))))))))))));intro a S
  first | exact r_ret1 S rfl rfl ⟨rfl, H.below⟩ | exact r_ret1 S rfl rfl ⟨by rw [beq_self_eq_true], H.below⟩
 have c23 := of_decide_eq_false bc23
 revert a;refine pN bc23 (pP (p_move rfl) rfl (pN bc23 (pP (p_len Tryz.underlying30 rfl) rfl (pN bc23 (pP (p_gtr rfl rfl) rfl (pP (p_pick_f rfl bc23 rfl) rfl (pL (pT (zc rfl (fun bc28 => ?_) (fun bc28 => ?_))))))))))
 ·
  have c28 := of_decide_eq_true bc28
  refine pS (pG (pM 1 rfl (pL (pT (pZ (pU ?_))))));intro a S
  first | exact r_ret1 S rfl rfl ⟨rfl, H.below⟩ | exact r_ret1 S rfl rfl ⟨by rw [beq_self_eq_true], H.below⟩
 have c28 := of_decide_eq_false bc28
 refine pK (pT (pS (pG (pM 1 rfl ?_))))
 have hcon := dec.hq.decodeAll_ w0 _ _ s none [] 0 hW H ⟨rfl, by simp, fun h => absurd h (by simp)⟩ (Nat.le_refl _) (Nat.zero_le _) (by omega)
 refine pC Tryz.func6 hcon ?_
 rintro e w ⟨v1, R1, rfl, hE1, hH⟩
 refine ⟨_, rfl, ?_⟩
 clear H hcon; have H := hH; clear hH
 obtain ⟨A1, c1, rfl⟩ : ∃ A c, v1 = .slice A (all (ints s)).length c := by obtain ⟨xs, ⟨A, c, h1, _⟩, _⟩ := hE1; exact ⟨A, c, h1⟩
 refine pM 5 rfl (pL (pT (pS (pG (pM 2 rfl ?_)))))
 have hcon := dec.hq.decodeAll_ w0 _ _ s Az zs cz hW H hCz hzc (by omega) (by omega)
 refine pC Tryz.func6 hcon ?_
 rintro e w ⟨v2, R2, rfl, hE2, hH⟩
 refine ⟨_, rfl, ?_⟩
 clear H hcon; have H := hH; clear hH
 obtain ⟨A2, c2, rfl⟩ : ∃ A c, v2 = .slice A (all (ints s)).length c := by obtain ⟨xs, ⟨A, c, h1, _⟩, _⟩ := hE2; exact ⟨A, c, h1⟩
 refine pM 5 rfl (pL (pT (pS (pG (pM 2 rfl ?_)))))
 have hcon := dec.hq.decodeAll_ w0 _ _ s Ay ys cy hW H hCy hyc (by omega) (by omega)
 refine pC Tryz.func6 hcon ?_
 rintro e w ⟨v3, R3, rfl, hE3, hH⟩
 refine ⟨_, rfl, ?_⟩
 clear H hcon; have H := hH; clear hH
 obtain ⟨A3, c3, rfl⟩ : ∃ A c, v3 = .slice A (all (ints s)).length c := by obtain ⟨xs, ⟨A, c, h1, _⟩, _⟩ := hE3; exact ⟨A, c, h1⟩
 refine pM 5 rfl (pL (pT (pS (pG (pM 2 rfl (pN rfl (pP (p_move rfl) rfl (pP (p_pick_t rfl rfl rfl) rfl (pM 1 rfl (pN rfl (pP (p_move rfl) rfl (pP (p_pick_t rfl rfl rfl) rfl (pM 1 rfl (pN rfl (pP (p_move rfl) rfl (pN rfl (pP (p_move rfl) rfl (pN rfl ?_))))))))))))))))))
 have hcon := dec.hs.same_ w0 _ _ (all (ints s)) _ _ (hE1.mono fun x hx => by simp [hx]) (hE2.mono fun x hx => by simp [hx]) (all_bd (by rw [ints_len]; omega)).1 (all_bd (by rw [ints_len]; omega)).2 H
 refine pC Tryz.func7 hcon ?_
 rintro e w ⟨rfl, hH⟩
 refine ⟨_, rfl, ?_⟩
 clear H hcon; have H := hH; clear hH
 refine pP (p_pick_t rfl rfl rfl) rfl (pM 1 rfl (pN rfl (pP (p_move rfl) rfl (pN rfl (pP (p_move rfl) rfl (pN rfl ?_))))))
 have hcon := dec.hs.same_ w0 _ _ (all (ints s)) _ _ (hE1.mono fun x hx => by simp [hx]) (hE3.mono fun x hx => by simp [hx]) (all_bd (by rw [ints_len]; omega)).1 (all_bd (by rw [ints_len]; omega)).2 H
 refine pC Tryz.func7 hcon ?_
 rintro e w ⟨rfl, hH⟩
 refine ⟨_, rfl, ?_⟩
 clear H hcon; have H := hH; clear hH
 refine pP (p_pick_t rfl rfl rfl) rfl (pM 1 rfl (pN rfl (pP (p_move rfl) rfl (pN rfl (pP (p_len Tryz.underlying24 rfl) rfl (pN rfl (pP (p_move rfl) rfl (pN rfl ?_))))))))
 have hcon := dec.jh.entries_ w0 _ _ s (by omega) H
 rw [← all_cnt] at hcon
 refine pC Tryz.func8 hcon ?_
 rintro e w ⟨Ae, ce, rfl, hH⟩
 refine ⟨_, rfl, ?_⟩
 clear H hcon; have H := hH; clear hH
 refine pN rfl (pP (p_len Tryz.underlying24 rfl) rfl (pN rfl (pP (p_eql rfl rfl) rfl (pP (p_pick_t rfl rfl rfl) rfl (pM 1 rfl (pL (pT (pZ ?_))))))));intro a S
 first | exact r_ret1 S rfl rfl ⟨rfl, H.below⟩ | exact r_ret1 S rfl rfl ⟨by rw [beq_self_eq_true], H.below⟩
end ka
end Go.Proofs.YtbahngfpadjbhaaGreatDoor.dec
end
