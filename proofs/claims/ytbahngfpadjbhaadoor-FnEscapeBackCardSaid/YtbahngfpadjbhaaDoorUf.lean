/- UTF-8, told by the reference: walked. -/
import Derived.Test.YtbahngfpadjbhaaDoorProg
import Derived.Test.YtbahngfpadjbhaaDoorUp
import Derived.Test.YtbahngfpadjbhaaDoorSv
namespace Go.Proofs.YtbahngfpadjbhaaDoor.u8
open Go.RowKit Go.Proofs.HHW Go.Proofs.YtbahngfpadjbhaaDoorW.PrintWords
set_option linter.unusedVariables false
set_option linter.unusedSimpArgs false

set_option maxHeartbeats 1000000 in
theorem utf8_ (wb w0 : World) (B : Nat) (L0 : List (Nat × Obj)) (s : ByteArray) (H : HH B wb w0 L0) (hs : s.size ≤ 9223372036854775000) : Calls Tryd.prog 7 #[.string s] w0 fun e w' => e = .returned (.bool (up.V s 0)) ∧ HH B wb w' L0 := by
  refine c_enter (args := [.string s]) (k := 80) Tryd.func7 rfl rfl rfl (fun a S => ?_)
  refine wp_seq ?_
  refine c_region ?_
  refine l_pure S (p_assign rfl) rfl rfl rfl ?_; clear S a; intro a S
  refine l_nil ?_
  refine e_then ?_
  refine wp_seq ?_
  refine wp_seq ?_
  refine c_region ?_
  refine l_pure S (p_assign rfl) rfl rfl rfl ?_; clear S a; intro a S
  refine l_nil ?_
  refine e_then ?_
  refine wp_block ?_
  refine c_loop (σ := Nat) (fun s_ a w => match s_ with | i => SL a 81 [] [(0, .string s), (3, .int .i64 (i : Int))] ∧ HH (B) wb w L0 ∧ (i ≤ s.size ∧ up.V s 0 = up.V s i)) (fun s_ => match s_ with | i => s.size - i) 0 ⟨S.only ⟨rfl, rfl, trivial⟩, H, ⟨Nat.zero_le _, rfl⟩⟩ ?_
  clear S a H; rintro i a w ⟨S, H, hinv⟩
  obtain ⟨hi0, hV⟩ := hinv
  refine wp_seq ?_
  refine wp_seq ?_
  refine c_region ?_
  refine l_pure S (p_move rfl) rfl rfl rfl ?_; clear S a; intro a S
  refine l_pure S (p_move rfl) rfl rfl rfl ?_; clear S a; intro a S
  refine l_pure S (p_lens Tryd.underlying9 rfl) rfl rfl rfl ?_; clear S a; intro a S
  refine l_pure S (p_lss rfl rfl) rfl rfl rfl ?_; clear S a; intro a S
  refine l_nil ?_
  refine e_then ?_
  refine c_cond S rfl (fun c3 => ?_) (fun c3 => ?_)
  · skip
    have c3 := of_decide_eq_true c3
    refine wp_skip ?_
    refine e_then ?_
    refine wp_block ?_
    refine wp_seq ?_
    refine c_region ?_
    refine l_pure S (p_move rfl) rfl rfl rfl ?_; clear S a; intro a S
    refine l_pure S (p_move rfl) rfl rfl rfl ?_; clear S a; intro a S
    refine l_pure S (p_index rfl rfl (fun w => ix_string Tryd.underlying9 (by omega) (by omega))) rfl rfl rfl ?_; clear S a; intro a S
    refine l_pure S (p_assign rfl) rfl rfl rfl ?_; clear S a; intro a S
    refine l_nil ?_
    refine e_then ?_
    refine wp_seq ?_
    refine c_region ?_
    refine l_pure S (p_assign rfl) rfl rfl rfl ?_; clear S a; intro a S
    refine l_pure S (p_assign rfl) rfl rfl rfl ?_; clear S a; intro a S
    refine l_pure S (p_assign rfl) rfl rfl rfl ?_; clear S a; intro a S
    refine l_nil ?_
    refine e_then ?_
    refine c_cut (fun a w => ∃ need : Nat, ∃ lo : Int, ∃ hi : Int, SL a 81 [] [(0, .string s), (3, .int .i64 (i : Int)), (5, .int .i64 (need : Int)), (6, .int .u8 lo), (7, .int .u8 hi)] ∧ HH (B) wb w L0 ∧ up.Lead (HHW.bt s (i : Int)) need lo hi) ?_ ?_
    · clear S a H; rintro a w ⟨need, lo, hi, S, H, hinv⟩
      have hneed := hinv.le
      refine wp_seq ?_
      refine wp_seq ?_
      refine c_region ?_
      refine l_pure S (p_assign rfl) rfl rfl rfl ?_; clear S a; intro a S
      refine l_nil ?_
      refine e_then ?_
      refine wp_block ?_
      have hL := hinv; clear hinv
      refine c_loop (σ := Nat × Int × Int) (fun s_ a w => match s_ with | ⟨j, l, h⟩ => SL a 81 [] [(0, .string s), (3, .int .i64 (i : Int)), (5, .int .i64 (need : Int)), (6, .int .u8 l), (7, .int .u8 h), (8, .int .i64 (j : Int))] ∧ HH (B) wb w L0 ∧ (up.Inn s i need lo hi j l h)) (fun s_ => match s_ with | ⟨j, l, h⟩ => need + 1 - j) ⟨1, lo, hi⟩ ⟨S.only ⟨rfl, rfl, rfl, rfl, rfl, rfl, trivial⟩, H, up.Inn.start hneed⟩ ?_
      clear S a H; rintro ⟨j, l, h⟩ a w ⟨S, H, hinv⟩
      have hI := hinv
      have hjj : 1 ≤ j ∧ j ≤ need + 1 := ⟨hI.1, hI.2.1⟩
      have hr := HHW.bt_range s ((i + j : Nat) : Int)
      refine wp_seq ?_
      refine wp_seq ?_
      refine c_region ?_
      refine l_pure S (p_move rfl) rfl rfl rfl ?_; clear S a; intro a S
      refine l_pure S (p_move rfl) rfl rfl rfl ?_; clear S a; intro a S
      refine l_pure S (p_leq rfl rfl) rfl rfl rfl ?_; clear S a; intro a S
      refine l_nil ?_
      refine e_then ?_
      refine c_cond S rfl (fun c5 => ?_) (fun c5 => ?_)
      · skip
        have c5 := of_decide_eq_true c5
        refine wp_skip ?_
        refine e_then ?_
        refine wp_seq ?_
        refine wp_block ?_
        refine wp_seq ?_
        refine wp_seq ?_
        refine c_region ?_
        refine l_pure S (p_move rfl) rfl rfl rfl ?_; clear S a; intro a S
        refine l_pure S (p_move rfl) rfl rfl rfl ?_; clear S a; intro a S
        refine l_pure S (p_add rfl rfl (nat_add (x := i) (y := j) (by omega))) rfl rfl rfl ?_; clear S a; intro a S
        refine l_pure S (p_move rfl) rfl rfl rfl ?_; clear S a; intro a S
        refine l_pure S (p_lens Tryd.underlying9 rfl) rfl rfl rfl ?_; clear S a; intro a S
        refine l_pure S (p_geq rfl rfl) rfl rfl rfl ?_; clear S a; intro a S
        refine l_pure S (p_move rfl) rfl rfl rfl ?_; clear S a; intro a S
        refine l_split (S.of 59 rfl) (fun bc7 => ?_) (fun bc7 => ?_)
        · skip
          have c7 := bc7
          have c7 := of_decide_eq_true c7
          refine l_off S rfl rfl rfl rfl bc7 rfl rfl ?_; clear S a; intro a S
          refine l_off S rfl rfl rfl rfl bc7 rfl rfl ?_; clear S a; intro a S
          refine l_off S rfl rfl rfl rfl bc7 rfl rfl ?_; clear S a; intro a S
          refine l_off S rfl rfl rfl rfl bc7 rfl rfl ?_; clear S a; intro a S
          refine l_off S rfl rfl rfl rfl bc7 rfl rfl ?_; clear S a; intro a S
          refine l_off S rfl rfl rfl rfl bc7 rfl rfl ?_; clear S a; intro a S
          refine l_off S rfl rfl rfl rfl bc7 rfl rfl ?_; clear S a; intro a S
          refine l_pure S (p_pick_t rfl bc7 rfl) rfl rfl rfl ?_; clear S a; intro a S
          refine l_pure S (p_move rfl) rfl rfl rfl ?_; clear S a; intro a S
          refine l_off S rfl rfl rfl rfl rfl rfl rfl ?_; clear S a; intro a S
          refine l_off S rfl rfl rfl rfl rfl rfl rfl ?_; clear S a; intro a S
          refine l_off S rfl rfl rfl rfl rfl rfl rfl ?_; clear S a; intro a S
          refine l_off S rfl rfl rfl rfl rfl rfl rfl ?_; clear S a; intro a S
          refine l_off S rfl rfl rfl rfl rfl rfl rfl ?_; clear S a; intro a S
          refine l_off S rfl rfl rfl rfl rfl rfl rfl ?_; clear S a; intro a S
          refine l_off S rfl rfl rfl rfl rfl rfl rfl ?_; clear S a; intro a S
          refine l_pure S (p_pick_t rfl rfl rfl) rfl rfl rfl ?_; clear S a; intro a S
          refine l_nil ?_
          refine e_then ?_
          refine c_cond (b := true) S rfl (fun _ => ?_) (fun h => by cases h)
          refine wp_seq ?_
          refine c_region ?_
          refine l_pure S (p_assign rfl) rfl rfl rfl ?_; clear S a; intro a S
          refine l_nil ?_
          refine e_then ?_
          refine wp_ret ?_
          refine e_then_ret ?_
          refine e_in_ret ?_
          refine e_then_ret ?_
          refine e_then_ret ?_
          refine e_in_ret ?_
          refine e_then_ret ?_
          refine e_in_ret ?_
          refine e_then_ret ?_
          refine e_in_ret ?_
          refine e_then_ret ?_
          exact r_ret1 S rfl rfl ⟨by rw [hV, (up.step (by omega) hL).2 (hI.bad (by omega) (by omega))], H⟩
        · skip
          have c7 := bc7
          have c7 := of_decide_eq_false c7
          refine l_on S rfl rfl rfl rfl bc7 ?_
          refine l_pure S (p_move rfl) rfl rfl rfl ?_; clear S a; intro a S
          refine l_on S rfl rfl rfl rfl bc7 ?_
          refine l_pure S (p_move rfl) rfl rfl rfl ?_; clear S a; intro a S
          refine l_on S rfl rfl rfl rfl bc7 ?_
          refine l_pure S (p_move rfl) rfl rfl rfl ?_; clear S a; intro a S
          refine l_on S rfl rfl rfl rfl bc7 ?_
          refine l_pure S (p_add rfl rfl (nat_add (x := i) (y := j) (by omega))) rfl rfl rfl ?_; clear S a; intro a S
          refine l_on S rfl rfl rfl rfl bc7 ?_
          refine l_pure S (p_index rfl rfl (fun w => ix_string Tryd.underlying9 (by omega) (by omega))) rfl rfl rfl ?_; clear S a; intro a S
          refine l_on S rfl rfl rfl rfl bc7 ?_
          refine l_pure S (p_move rfl) rfl rfl rfl ?_; clear S a; intro a S
          refine l_on S rfl rfl rfl rfl bc7 ?_
          refine l_pure S (p_lss rfl rfl) rfl rfl rfl ?_; clear S a; intro a S
          refine l_pure S (p_pick_f rfl bc7 rfl) rfl rfl rfl ?_; clear S a; intro a S
          refine l_pure S (p_move rfl) rfl rfl rfl ?_; clear S a; intro a S
          refine l_split (S.of 68 rfl) (fun bc13 => ?_) (fun bc13 => ?_)
          · skip
            have c13 := bc13
            have c13 := of_decide_eq_true c13
            refine l_off S rfl rfl rfl rfl bc13 rfl rfl ?_; clear S a; intro a S
            refine l_off S rfl rfl rfl rfl bc13 rfl rfl ?_; clear S a; intro a S
            refine l_off S rfl rfl rfl rfl bc13 rfl rfl ?_; clear S a; intro a S
            refine l_off S rfl rfl rfl rfl bc13 rfl rfl ?_; clear S a; intro a S
            refine l_off S rfl rfl rfl rfl bc13 rfl rfl ?_; clear S a; intro a S
            refine l_off S rfl rfl rfl rfl bc13 rfl rfl ?_; clear S a; intro a S
            refine l_off S rfl rfl rfl rfl bc13 rfl rfl ?_; clear S a; intro a S
            refine l_pure S (p_pick_t rfl bc13 rfl) rfl rfl rfl ?_; clear S a; intro a S
            refine l_nil ?_
            refine e_then ?_
            refine c_cond (b := true) S rfl (fun _ => ?_) (fun h => by cases h)
            refine wp_seq ?_
            refine c_region ?_
            refine l_pure S (p_assign rfl) rfl rfl rfl ?_; clear S a; intro a S
            refine l_nil ?_
            refine e_then ?_
            refine wp_ret ?_
            refine e_then_ret ?_
            refine e_in_ret ?_
            refine e_then_ret ?_
            refine e_then_ret ?_
            refine e_in_ret ?_
            refine e_then_ret ?_
            refine e_in_ret ?_
            refine e_then_ret ?_
            refine e_in_ret ?_
            refine e_then_ret ?_
            exact r_ret1 S rfl rfl ⟨by rw [hV, (up.step (by omega) hL).2 (hI.bad (by omega) (by omega))], H⟩
          · skip
            have c13 := bc13
            have c13 := of_decide_eq_false c13
            refine l_on S rfl rfl rfl rfl bc13 ?_
            refine l_pure S (p_move rfl) rfl rfl rfl ?_; clear S a; intro a S
            refine l_on S rfl rfl rfl rfl bc13 ?_
            refine l_pure S (p_move rfl) rfl rfl rfl ?_; clear S a; intro a S
            refine l_on S rfl rfl rfl rfl bc13 ?_
            refine l_pure S (p_move rfl) rfl rfl rfl ?_; clear S a; intro a S
            refine l_on S rfl rfl rfl rfl bc13 ?_
            refine l_pure S (p_add rfl rfl (nat_add (x := i) (y := j) (by omega))) rfl rfl rfl ?_; clear S a; intro a S
            refine l_on S rfl rfl rfl rfl bc13 ?_
            refine l_pure S (p_index rfl rfl (fun w => ix_string Tryd.underlying9 (by omega) (by omega))) rfl rfl rfl ?_; clear S a; intro a S
            refine l_on S rfl rfl rfl rfl bc13 ?_
            refine l_pure S (p_move rfl) rfl rfl rfl ?_; clear S a; intro a S
            refine l_on S rfl rfl rfl rfl bc13 ?_
            refine l_pure S (p_gtr rfl rfl) rfl rfl rfl ?_; clear S a; intro a S
            refine l_pure S (p_pick_f rfl bc13 rfl) rfl rfl rfl ?_; clear S a; intro a S
            refine l_nil ?_
            refine e_then ?_
            refine c_cond S rfl (fun c18 => ?_) (fun c18 => ?_)
            · skip
              have c18 := of_decide_eq_true c18
              refine wp_seq ?_
              refine c_region ?_
              refine l_pure S (p_assign rfl) rfl rfl rfl ?_; clear S a; intro a S
              refine l_nil ?_
              refine e_then ?_
              refine wp_ret ?_
              refine e_then_ret ?_
              refine e_in_ret ?_
              refine e_then_ret ?_
              refine e_then_ret ?_
              refine e_in_ret ?_
              refine e_then_ret ?_
              refine e_in_ret ?_
              refine e_then_ret ?_
              refine e_in_ret ?_
              refine e_then_ret ?_
              exact r_ret1 S rfl rfl ⟨by rw [hV, (up.step (by omega) hL).2 (hI.bad (by omega) (by omega))], H⟩
            · skip
              have c18 := of_decide_eq_false c18
              refine wp_skip ?_
              refine e_then ?_
              refine c_region ?_
              refine l_pure S (p_assign rfl) rfl rfl rfl ?_; clear S a; intro a S
              refine l_pure S (p_assign rfl) rfl rfl rfl ?_; clear S a; intro a S
              refine l_nil ?_
              refine e_in 4 ?_
              refine e_then ?_
              refine c_region ?_
              refine l_pure S (p_move rfl) rfl rfl rfl ?_; clear S a; intro a S
              refine l_pure S (p_add rfl rfl (nat_add (x := j) (y := 1) (by omega))) rfl rfl rfl ?_; clear S a; intro a S
              refine l_pure S (p_assign rfl) rfl rfl rfl ?_; clear S a; intro a S
              refine l_nil ?_
              refine e_then ?_
              exact ⟨⟨j + 1, 128, 191⟩, ⟨S.only ⟨rfl, rfl, rfl, rfl, rfl, rfl, trivial⟩, H, hI.next (by omega) (by omega) (by omega) (by omega)⟩, (show need + 1 - (j + 1) < need + 1 - j by omega)⟩
      · skip
        have c5 := of_decide_eq_false c5
        have hok := hI.done (by omega)
        clear hinv; have hinv : up.Lead (HHW.bt s (i : Int)) need lo hi := hL
        refine wp_exit ?_
        refine e_then_exit ?_
        refine e_then_exit ?_
        refine e_in_exit ?_
        refine e_then ?_
        refine c_region ?_
        refine l_pure S (p_move rfl) rfl rfl rfl ?_; clear S a; intro a S
        refine l_pure S (p_move rfl) rfl rfl rfl ?_; clear S a; intro a S
        refine l_pure S (p_add rfl rfl (nat_add (x := need) (y := 1) (by omega))) rfl rfl rfl ?_; clear S a; intro a S
        refine l_pure S (p_add rfl rfl (nat_add (x := i) (y := (need + 1)) (by omega))) rfl rfl rfl ?_; clear S a; intro a S
        refine l_pure S (p_assign rfl) rfl rfl rfl ?_; clear S a; intro a S
        refine l_nil ?_
        refine e_in 1 ?_
        refine e_then ?_
        exact ⟨(i + (need + 1)), ⟨S.only ⟨rfl, rfl, trivial⟩, H, ⟨by omega, hV.trans ((up.step (by omega) hinv).1 hok.1)⟩⟩, (show s.size - (i + (need + 1)) < s.size - i by omega)⟩
    · skip
      refine wp_block ?_
      refine wp_seq ?_
      refine c_region ?_
      refine l_pure S (p_move rfl) rfl rfl rfl ?_; clear S a; intro a S
      refine l_pure S (p_lss rfl rfl) rfl rfl rfl ?_; clear S a; intro a S
      refine l_pure S (p_assign rfl) rfl rfl rfl ?_; clear S a; intro a S
      refine l_nil ?_
      refine e_then ?_
      refine c_cond S rfl (fun c21 => ?_) (fun c21 => ?_)
      · skip
        have c21 := of_decide_eq_true c21
        refine wp_skip ?_
        refine e_in 2 ?_
        refine e_then ?_
        exact ⟨0, 128, 191, S.only ⟨rfl, rfl, rfl, rfl, rfl, trivial⟩, H, (by unfold up.Lead; omega)⟩
      · skip
        have c21 := of_decide_eq_false c21
        refine wp_seq ?_
        refine c_region ?_
        refine l_pure S (p_move rfl) rfl rfl rfl ?_; clear S a; intro a S
        refine l_pure S (p_geq rfl rfl) rfl rfl rfl ?_; clear S a; intro a S
        refine l_pure S (p_move rfl) rfl rfl rfl ?_; clear S a; intro a S
        refine l_split (S.of 22 rfl) (fun bc23 => ?_) (fun bc23 => ?_)
        · skip
          have c23 := bc23
          have c23 := of_decide_eq_true c23
          refine l_on S rfl rfl rfl rfl bc23 ?_
          refine l_pure S (p_move rfl) rfl rfl rfl ?_; clear S a; intro a S
          refine l_on S rfl rfl rfl rfl bc23 ?_
          refine l_pure S (p_leq rfl rfl) rfl rfl rfl ?_; clear S a; intro a S
          refine l_pure S (p_pick_t rfl bc23 rfl) rfl rfl rfl ?_; clear S a; intro a S
          refine l_pure S (p_assign rfl) rfl rfl rfl ?_; clear S a; intro a S
          refine l_nil ?_
          refine e_then ?_
          refine c_cond S rfl (fun c25 => ?_) (fun c25 => ?_)
          · skip
            have c25 := of_decide_eq_true c25
            refine c_region ?_
            refine l_pure S (p_assign rfl) rfl rfl rfl ?_; clear S a; intro a S
            refine l_nil ?_
            refine e_in 2 ?_
            refine e_then ?_
            exact ⟨1, 128, 191, S.only ⟨rfl, rfl, rfl, rfl, rfl, trivial⟩, H, (by unfold up.Lead; omega)⟩
          · skip
            have c25 := of_decide_eq_false c25
            refine wp_seq ?_
            refine c_region ?_
            refine l_pure S (p_move rfl) rfl rfl rfl ?_; clear S a; intro a S
            refine l_pure S (p_geq rfl rfl) rfl rfl rfl ?_; clear S a; intro a S
            refine l_pure S (p_move rfl) rfl rfl rfl ?_; clear S a; intro a S
            refine l_split (S.of 29 rfl) (fun bc27 => ?_) (fun bc27 => ?_)
            · skip
              have c27 := bc27
              have c27 := of_decide_eq_true c27
              refine l_on S rfl rfl rfl rfl bc27 ?_
              refine l_pure S (p_move rfl) rfl rfl rfl ?_; clear S a; intro a S
              refine l_on S rfl rfl rfl rfl bc27 ?_
              refine l_pure S (p_leq rfl rfl) rfl rfl rfl ?_; clear S a; intro a S
              refine l_pure S (p_pick_t rfl bc27 rfl) rfl rfl rfl ?_; clear S a; intro a S
              refine l_pure S (p_assign rfl) rfl rfl rfl ?_; clear S a; intro a S
              refine l_nil ?_
              refine e_then ?_
              refine c_cond S rfl (fun c29 => ?_) (fun c29 => ?_)
              · skip
                have c29 := of_decide_eq_true c29
                refine wp_seq ?_
                refine c_region ?_
                refine l_pure S (p_assign rfl) rfl rfl rfl ?_; clear S a; intro a S
                refine l_nil ?_
                refine e_then ?_
                refine wp_seq ?_
                refine wp_seq ?_
                refine c_region ?_
                refine l_pure S (p_move rfl) rfl rfl rfl ?_; clear S a; intro a S
                refine l_pure S (p_eql rfl rfl) rfl rfl rfl ?_; clear S a; intro a S
                refine l_nil ?_
                refine e_then ?_
                refine c_cond S rfl (fun c31 => ?_) (fun c31 => ?_)
                · skip
                  have c31 := eq_of_beq c31
                  refine c_region ?_
                  refine l_pure S (p_assign rfl) rfl rfl rfl ?_; clear S a; intro a S
                  refine l_nil ?_
                  refine e_then ?_
                  refine wp_seq ?_
                  refine c_region ?_
                  refine l_pure S (p_move rfl) rfl rfl rfl ?_; clear S a; intro a S
                  refine l_pure S (p_eql rfl rfl) rfl rfl rfl ?_; clear S a; intro a S
                  refine l_nil ?_
                  refine e_then ?_
                  refine c_cond S rfl (fun c33 => ?_) (fun c33 => ?_)
                  · skip
                    have c33 := eq_of_beq c33
                    refine c_region ?_
                    refine l_pure S (p_assign rfl) rfl rfl rfl ?_; clear S a; intro a S
                    refine l_nil ?_
                    refine e_in 2 ?_
                    refine e_then ?_
                    exact ⟨2, 160, 159, S.only ⟨rfl, rfl, rfl, rfl, rfl, trivial⟩, H, (by unfold up.Lead; omega)⟩
                  · skip
                    have c33 := ne_of_beq_false c33
                    refine wp_skip ?_
                    refine e_in 2 ?_
                    refine e_then ?_
                    exact ⟨2, 160, 191, S.only ⟨rfl, rfl, rfl, rfl, rfl, trivial⟩, H, (by unfold up.Lead; omega)⟩
                · skip
                  have c31 := ne_of_beq_false c31
                  refine wp_skip ?_
                  refine e_then ?_
                  refine wp_seq ?_
                  refine c_region ?_
                  refine l_pure S (p_move rfl) rfl rfl rfl ?_; clear S a; intro a S
                  refine l_pure S (p_eql rfl rfl) rfl rfl rfl ?_; clear S a; intro a S
                  refine l_nil ?_
                  refine e_then ?_
                  refine c_cond S rfl (fun c35 => ?_) (fun c35 => ?_)
                  · skip
                    have c35 := eq_of_beq c35
                    refine c_region ?_
                    refine l_pure S (p_assign rfl) rfl rfl rfl ?_; clear S a; intro a S
                    refine l_nil ?_
                    refine e_in 2 ?_
                    refine e_then ?_
                    exact ⟨2, 128, 159, S.only ⟨rfl, rfl, rfl, rfl, rfl, trivial⟩, H, (by unfold up.Lead; omega)⟩
                  · skip
                    have c35 := ne_of_beq_false c35
                    refine wp_skip ?_
                    refine e_in 2 ?_
                    refine e_then ?_
                    exact ⟨2, 128, 191, S.only ⟨rfl, rfl, rfl, rfl, rfl, trivial⟩, H, (by unfold up.Lead; omega)⟩
              · skip
                have c29 := of_decide_eq_false c29
                refine wp_seq ?_
                refine c_region ?_
                refine l_pure S (p_move rfl) rfl rfl rfl ?_; clear S a; intro a S
                refine l_pure S (p_geq rfl rfl) rfl rfl rfl ?_; clear S a; intro a S
                refine l_pure S (p_move rfl) rfl rfl rfl ?_; clear S a; intro a S
                refine l_split (S.of 40 rfl) (fun bc37 => ?_) (fun bc37 => ?_)
                · skip
                  have c37 := bc37
                  have c37 := of_decide_eq_true c37
                  refine l_on S rfl rfl rfl rfl bc37 ?_
                  refine l_pure S (p_move rfl) rfl rfl rfl ?_; clear S a; intro a S
                  refine l_on S rfl rfl rfl rfl bc37 ?_
                  refine l_pure S (p_leq rfl rfl) rfl rfl rfl ?_; clear S a; intro a S
                  refine l_pure S (p_pick_t rfl bc37 rfl) rfl rfl rfl ?_; clear S a; intro a S
                  refine l_pure S (p_assign rfl) rfl rfl rfl ?_; clear S a; intro a S
                  refine l_nil ?_
                  refine e_then ?_
                  refine c_cond S rfl (fun c39 => ?_) (fun c39 => ?_)
                  · skip
                    have c39 := of_decide_eq_true c39
                    refine wp_seq ?_
                    refine c_region ?_
                    refine l_pure S (p_assign rfl) rfl rfl rfl ?_; clear S a; intro a S
                    refine l_nil ?_
                    refine e_then ?_
                    refine wp_seq ?_
                    refine wp_seq ?_
                    refine c_region ?_
                    refine l_pure S (p_move rfl) rfl rfl rfl ?_; clear S a; intro a S
                    refine l_pure S (p_eql rfl rfl) rfl rfl rfl ?_; clear S a; intro a S
                    refine l_nil ?_
                    refine e_then ?_
                    refine c_cond S rfl (fun c41 => ?_) (fun c41 => ?_)
                    · skip
                      have c41 := eq_of_beq c41
                      refine c_region ?_
                      refine l_pure S (p_assign rfl) rfl rfl rfl ?_; clear S a; intro a S
                      refine l_nil ?_
                      refine e_then ?_
                      refine wp_seq ?_
                      refine c_region ?_
                      refine l_pure S (p_move rfl) rfl rfl rfl ?_; clear S a; intro a S
                      refine l_pure S (p_eql rfl rfl) rfl rfl rfl ?_; clear S a; intro a S
                      refine l_nil ?_
                      refine e_then ?_
                      refine c_cond S rfl (fun c43 => ?_) (fun c43 => ?_)
                      · skip
                        have c43 := eq_of_beq c43
                        refine c_region ?_
                        refine l_pure S (p_assign rfl) rfl rfl rfl ?_; clear S a; intro a S
                        refine l_nil ?_
                        refine e_in 2 ?_
                        refine e_then ?_
                        exact ⟨3, 144, 143, S.only ⟨rfl, rfl, rfl, rfl, rfl, trivial⟩, H, (by unfold up.Lead; omega)⟩
                      · skip
                        have c43 := ne_of_beq_false c43
                        refine wp_skip ?_
                        refine e_in 2 ?_
                        refine e_then ?_
                        exact ⟨3, 144, 191, S.only ⟨rfl, rfl, rfl, rfl, rfl, trivial⟩, H, (by unfold up.Lead; omega)⟩
                    · skip
                      have c41 := ne_of_beq_false c41
                      refine wp_skip ?_
                      refine e_then ?_
                      refine wp_seq ?_
                      refine c_region ?_
                      refine l_pure S (p_move rfl) rfl rfl rfl ?_; clear S a; intro a S
                      refine l_pure S (p_eql rfl rfl) rfl rfl rfl ?_; clear S a; intro a S
                      refine l_nil ?_
                      refine e_then ?_
                      refine c_cond S rfl (fun c45 => ?_) (fun c45 => ?_)
                      · skip
                        have c45 := eq_of_beq c45
                        refine c_region ?_
                        refine l_pure S (p_assign rfl) rfl rfl rfl ?_; clear S a; intro a S
                        refine l_nil ?_
                        refine e_in 2 ?_
                        refine e_then ?_
                        exact ⟨3, 128, 143, S.only ⟨rfl, rfl, rfl, rfl, rfl, trivial⟩, H, (by unfold up.Lead; omega)⟩
                      · skip
                        have c45 := ne_of_beq_false c45
                        refine wp_skip ?_
                        refine e_in 2 ?_
                        refine e_then ?_
                        exact ⟨3, 128, 191, S.only ⟨rfl, rfl, rfl, rfl, rfl, trivial⟩, H, (by unfold up.Lead; omega)⟩
                  · skip
                    have c39 := of_decide_eq_false c39
                    refine wp_seq ?_
                    refine c_region ?_
                    refine l_pure S (p_assign rfl) rfl rfl rfl ?_; clear S a; intro a S
                    refine l_nil ?_
                    refine e_then ?_
                    refine wp_ret ?_
                    refine e_in_ret ?_
                    refine e_then_ret ?_
                    refine e_in_ret ?_
                    refine e_then_ret ?_
                    refine e_in_ret ?_
                    refine e_then_ret ?_
                    exact r_ret1 S rfl rfl ⟨by rw [hV, up.bad (by omega) (by omega)], H⟩
                · skip
                  have c37 := bc37
                  have c37 := of_decide_eq_false c37
                  refine l_off S rfl rfl rfl rfl bc37 rfl rfl ?_; clear S a; intro a S
                  refine l_off S rfl rfl rfl rfl bc37 rfl rfl ?_; clear S a; intro a S
                  refine l_pure S (p_pick_f rfl bc37 rfl) rfl rfl rfl ?_; clear S a; intro a S
                  refine l_pure S (p_assign rfl) rfl rfl rfl ?_; clear S a; intro a S
                  refine l_nil ?_
                  refine e_then ?_
                  refine c_cond (b := false) S rfl (fun h => by cases h) (fun _ => ?_)
                  refine wp_seq ?_
                  refine c_region ?_
                  refine l_pure S (p_assign rfl) rfl rfl rfl ?_; clear S a; intro a S
                  refine l_nil ?_
                  refine e_then ?_
                  refine wp_ret ?_
                  refine e_in_ret ?_
                  refine e_then_ret ?_
                  refine e_in_ret ?_
                  refine e_then_ret ?_
                  refine e_in_ret ?_
                  refine e_then_ret ?_
                  exact r_ret1 S rfl rfl ⟨by rw [hV, up.bad (by omega) (by omega)], H⟩
            · skip
              have c27 := bc27
              have c27 := of_decide_eq_false c27
              refine l_off S rfl rfl rfl rfl bc27 rfl rfl ?_; clear S a; intro a S
              refine l_off S rfl rfl rfl rfl bc27 rfl rfl ?_; clear S a; intro a S
              refine l_pure S (p_pick_f rfl bc27 rfl) rfl rfl rfl ?_; clear S a; intro a S
              refine l_pure S (p_assign rfl) rfl rfl rfl ?_; clear S a; intro a S
              refine l_nil ?_
              refine e_then ?_
              refine c_cond (b := false) S rfl (fun h => by cases h) (fun _ => ?_)
              refine wp_seq ?_
              refine c_region ?_
              refine l_pure S (p_move rfl) rfl rfl rfl ?_; clear S a; intro a S
              refine l_pure S (p_geq rfl rfl) rfl rfl rfl ?_; clear S a; intro a S
              refine l_pure S (p_move rfl) rfl rfl rfl ?_; clear S a; intro a S
              refine l_split (S.of 40 rfl) (fun bc53 => ?_) (fun bc53 => ?_)
              · skip
                have c53 := bc53
                have c53 := of_decide_eq_true c53
                refine l_on S rfl rfl rfl rfl bc53 ?_
                refine l_pure S (p_move rfl) rfl rfl rfl ?_; clear S a; intro a S
                refine l_on S rfl rfl rfl rfl bc53 ?_
                refine l_pure S (p_leq rfl rfl) rfl rfl rfl ?_; clear S a; intro a S
                refine l_pure S (p_pick_t rfl bc53 rfl) rfl rfl rfl ?_; clear S a; intro a S
                refine l_pure S (p_assign rfl) rfl rfl rfl ?_; clear S a; intro a S
                refine l_nil ?_
                refine e_then ?_
                refine c_cond S rfl (fun c55 => ?_) (fun c55 => ?_)
                · skip
                  have c55 := of_decide_eq_true c55
                  refine wp_seq ?_
                  refine c_region ?_
                  refine l_pure S (p_assign rfl) rfl rfl rfl ?_; clear S a; intro a S
                  refine l_nil ?_
                  refine e_then ?_
                  refine wp_seq ?_
                  refine wp_seq ?_
                  refine c_region ?_
                  refine l_pure S (p_move rfl) rfl rfl rfl ?_; clear S a; intro a S
                  refine l_pure S (p_eql rfl rfl) rfl rfl rfl ?_; clear S a; intro a S
                  refine l_nil ?_
                  refine e_then ?_
                  refine c_cond S rfl (fun c57 => ?_) (fun c57 => ?_)
                  · skip
                    have c57 := eq_of_beq c57
                    refine c_region ?_
                    refine l_pure S (p_assign rfl) rfl rfl rfl ?_; clear S a; intro a S
                    refine l_nil ?_
                    refine e_then ?_
                    refine wp_seq ?_
                    refine c_region ?_
                    refine l_pure S (p_move rfl) rfl rfl rfl ?_; clear S a; intro a S
                    refine l_pure S (p_eql rfl rfl) rfl rfl rfl ?_; clear S a; intro a S
                    refine l_nil ?_
                    refine e_then ?_
                    refine c_cond S rfl (fun c59 => ?_) (fun c59 => ?_)
                    · skip
                      have c59 := eq_of_beq c59
                      refine c_region ?_
                      refine l_pure S (p_assign rfl) rfl rfl rfl ?_; clear S a; intro a S
                      refine l_nil ?_
                      refine e_in 2 ?_
                      refine e_then ?_
                      exact ⟨3, 144, 143, S.only ⟨rfl, rfl, rfl, rfl, rfl, trivial⟩, H, (by unfold up.Lead; omega)⟩
                    · skip
                      have c59 := ne_of_beq_false c59
                      refine wp_skip ?_
                      refine e_in 2 ?_
                      refine e_then ?_
                      exact ⟨3, 144, 191, S.only ⟨rfl, rfl, rfl, rfl, rfl, trivial⟩, H, (by unfold up.Lead; omega)⟩
                  · skip
                    have c57 := ne_of_beq_false c57
                    refine wp_skip ?_
                    refine e_then ?_
                    refine wp_seq ?_
                    refine c_region ?_
                    refine l_pure S (p_move rfl) rfl rfl rfl ?_; clear S a; intro a S
                    refine l_pure S (p_eql rfl rfl) rfl rfl rfl ?_; clear S a; intro a S
                    refine l_nil ?_
                    refine e_then ?_
                    refine c_cond S rfl (fun c61 => ?_) (fun c61 => ?_)
                    · skip
                      have c61 := eq_of_beq c61
                      refine c_region ?_
                      refine l_pure S (p_assign rfl) rfl rfl rfl ?_; clear S a; intro a S
                      refine l_nil ?_
                      refine e_in 2 ?_
                      refine e_then ?_
                      exact ⟨3, 128, 143, S.only ⟨rfl, rfl, rfl, rfl, rfl, trivial⟩, H, (by unfold up.Lead; omega)⟩
                    · skip
                      have c61 := ne_of_beq_false c61
                      refine wp_skip ?_
                      refine e_in 2 ?_
                      refine e_then ?_
                      exact ⟨3, 128, 191, S.only ⟨rfl, rfl, rfl, rfl, rfl, trivial⟩, H, (by unfold up.Lead; omega)⟩
                · skip
                  have c55 := of_decide_eq_false c55
                  refine wp_seq ?_
                  refine c_region ?_
                  refine l_pure S (p_assign rfl) rfl rfl rfl ?_; clear S a; intro a S
                  refine l_nil ?_
                  refine e_then ?_
                  refine wp_ret ?_
                  refine e_in_ret ?_
                  refine e_then_ret ?_
                  refine e_in_ret ?_
                  refine e_then_ret ?_
                  refine e_in_ret ?_
                  refine e_then_ret ?_
                  exact r_ret1 S rfl rfl ⟨by rw [hV, up.bad (by omega) (by omega)], H⟩
              · skip
                have c53 := bc53
                have c53 := of_decide_eq_false c53
                refine l_off S rfl rfl rfl rfl bc53 rfl rfl ?_; clear S a; intro a S
                refine l_off S rfl rfl rfl rfl bc53 rfl rfl ?_; clear S a; intro a S
                refine l_pure S (p_pick_f rfl bc53 rfl) rfl rfl rfl ?_; clear S a; intro a S
                refine l_pure S (p_assign rfl) rfl rfl rfl ?_; clear S a; intro a S
                refine l_nil ?_
                refine e_then ?_
                refine c_cond (b := false) S rfl (fun h => by cases h) (fun _ => ?_)
                refine wp_seq ?_
                refine c_region ?_
                refine l_pure S (p_assign rfl) rfl rfl rfl ?_; clear S a; intro a S
                refine l_nil ?_
                refine e_then ?_
                refine wp_ret ?_
                refine e_in_ret ?_
                refine e_then_ret ?_
                refine e_in_ret ?_
                refine e_then_ret ?_
                refine e_in_ret ?_
                refine e_then_ret ?_
                exact r_ret1 S rfl rfl ⟨by rw [hV, up.bad (by omega) (by omega)], H⟩
        · skip
          have c23 := bc23
          have c23 := of_decide_eq_false c23
          refine l_off S rfl rfl rfl rfl bc23 rfl rfl ?_; clear S a; intro a S
          refine l_off S rfl rfl rfl rfl bc23 rfl rfl ?_; clear S a; intro a S
          refine l_pure S (p_pick_f rfl bc23 rfl) rfl rfl rfl ?_; clear S a; intro a S
          refine l_pure S (p_assign rfl) rfl rfl rfl ?_; clear S a; intro a S
          refine l_nil ?_
          refine e_then ?_
          refine c_cond (b := false) S rfl (fun h => by cases h) (fun _ => ?_)
          refine wp_seq ?_
          refine c_region ?_
          refine l_pure S (p_move rfl) rfl rfl rfl ?_; clear S a; intro a S
          refine l_pure S (p_geq rfl rfl) rfl rfl rfl ?_; clear S a; intro a S
          refine l_pure S (p_move rfl) rfl rfl rfl ?_; clear S a; intro a S
          refine l_split (S.of 29 rfl) (fun bc69 => ?_) (fun bc69 => ?_)
          · skip
            have c69 := bc69
            have c69 := of_decide_eq_true c69
            refine l_on S rfl rfl rfl rfl bc69 ?_
            refine l_pure S (p_move rfl) rfl rfl rfl ?_; clear S a; intro a S
            refine l_on S rfl rfl rfl rfl bc69 ?_
            refine l_pure S (p_leq rfl rfl) rfl rfl rfl ?_; clear S a; intro a S
            refine l_pure S (p_pick_t rfl bc69 rfl) rfl rfl rfl ?_; clear S a; intro a S
            refine l_pure S (p_assign rfl) rfl rfl rfl ?_; clear S a; intro a S
            refine l_nil ?_
            refine e_then ?_
            refine c_cond S rfl (fun c71 => ?_) (fun c71 => ?_)
            · skip
              have c71 := of_decide_eq_true c71
              refine wp_seq ?_
              refine c_region ?_
              refine l_pure S (p_assign rfl) rfl rfl rfl ?_; clear S a; intro a S
              refine l_nil ?_
              refine e_then ?_
              refine wp_seq ?_
              refine wp_seq ?_
              refine c_region ?_
              refine l_pure S (p_move rfl) rfl rfl rfl ?_; clear S a; intro a S
              refine l_pure S (p_eql rfl rfl) rfl rfl rfl ?_; clear S a; intro a S
              refine l_nil ?_
              refine e_then ?_
              refine c_cond S rfl (fun c73 => ?_) (fun c73 => ?_)
              · skip
                have c73 := eq_of_beq c73
                refine c_region ?_
                refine l_pure S (p_assign rfl) rfl rfl rfl ?_; clear S a; intro a S
                refine l_nil ?_
                refine e_then ?_
                refine wp_seq ?_
                refine c_region ?_
                refine l_pure S (p_move rfl) rfl rfl rfl ?_; clear S a; intro a S
                refine l_pure S (p_eql rfl rfl) rfl rfl rfl ?_; clear S a; intro a S
                refine l_nil ?_
                refine e_then ?_
                refine c_cond S rfl (fun c75 => ?_) (fun c75 => ?_)
                · skip
                  have c75 := eq_of_beq c75
                  refine c_region ?_
                  refine l_pure S (p_assign rfl) rfl rfl rfl ?_; clear S a; intro a S
                  refine l_nil ?_
                  refine e_in 2 ?_
                  refine e_then ?_
                  exact ⟨2, 160, 159, S.only ⟨rfl, rfl, rfl, rfl, rfl, trivial⟩, H, (by unfold up.Lead; omega)⟩
                · skip
                  have c75 := ne_of_beq_false c75
                  refine wp_skip ?_
                  refine e_in 2 ?_
                  refine e_then ?_
                  exact ⟨2, 160, 191, S.only ⟨rfl, rfl, rfl, rfl, rfl, trivial⟩, H, (by unfold up.Lead; omega)⟩
              · skip
                have c73 := ne_of_beq_false c73
                refine wp_skip ?_
                refine e_then ?_
                refine wp_seq ?_
                refine c_region ?_
                refine l_pure S (p_move rfl) rfl rfl rfl ?_; clear S a; intro a S
                refine l_pure S (p_eql rfl rfl) rfl rfl rfl ?_; clear S a; intro a S
                refine l_nil ?_
                refine e_then ?_
                refine c_cond S rfl (fun c77 => ?_) (fun c77 => ?_)
                · skip
                  have c77 := eq_of_beq c77
                  refine c_region ?_
                  refine l_pure S (p_assign rfl) rfl rfl rfl ?_; clear S a; intro a S
                  refine l_nil ?_
                  refine e_in 2 ?_
                  refine e_then ?_
                  exact ⟨2, 128, 159, S.only ⟨rfl, rfl, rfl, rfl, rfl, trivial⟩, H, (by unfold up.Lead; omega)⟩
                · skip
                  have c77 := ne_of_beq_false c77
                  refine wp_skip ?_
                  refine e_in 2 ?_
                  refine e_then ?_
                  exact ⟨2, 128, 191, S.only ⟨rfl, rfl, rfl, rfl, rfl, trivial⟩, H, (by unfold up.Lead; omega)⟩
            · skip
              have c71 := of_decide_eq_false c71
              refine wp_seq ?_
              refine c_region ?_
              refine l_pure S (p_move rfl) rfl rfl rfl ?_; clear S a; intro a S
              refine l_pure S (p_geq rfl rfl) rfl rfl rfl ?_; clear S a; intro a S
              refine l_pure S (p_move rfl) rfl rfl rfl ?_; clear S a; intro a S
              refine l_split (S.of 40 rfl) (fun bc79 => ?_) (fun bc79 => ?_)
              · skip
                have c79 := bc79
                have c79 := of_decide_eq_true c79
                refine l_on S rfl rfl rfl rfl bc79 ?_
                refine l_pure S (p_move rfl) rfl rfl rfl ?_; clear S a; intro a S
                refine l_on S rfl rfl rfl rfl bc79 ?_
                refine l_pure S (p_leq rfl rfl) rfl rfl rfl ?_; clear S a; intro a S
                refine l_pure S (p_pick_t rfl bc79 rfl) rfl rfl rfl ?_; clear S a; intro a S
                refine l_pure S (p_assign rfl) rfl rfl rfl ?_; clear S a; intro a S
                refine l_nil ?_
                refine e_then ?_
                refine c_cond S rfl (fun c81 => ?_) (fun c81 => ?_)
                · skip
                  have c81 := of_decide_eq_true c81
                  refine wp_seq ?_
                  refine c_region ?_
                  refine l_pure S (p_assign rfl) rfl rfl rfl ?_; clear S a; intro a S
                  refine l_nil ?_
                  refine e_then ?_
                  refine wp_seq ?_
                  refine wp_seq ?_
                  refine c_region ?_
                  refine l_pure S (p_move rfl) rfl rfl rfl ?_; clear S a; intro a S
                  refine l_pure S (p_eql rfl rfl) rfl rfl rfl ?_; clear S a; intro a S
                  refine l_nil ?_
                  refine e_then ?_
                  refine c_cond S rfl (fun c83 => ?_) (fun c83 => ?_)
                  · skip
                    have c83 := eq_of_beq c83
                    refine c_region ?_
                    refine l_pure S (p_assign rfl) rfl rfl rfl ?_; clear S a; intro a S
                    refine l_nil ?_
                    refine e_then ?_
                    refine wp_seq ?_
                    refine c_region ?_
                    refine l_pure S (p_move rfl) rfl rfl rfl ?_; clear S a; intro a S
                    refine l_pure S (p_eql rfl rfl) rfl rfl rfl ?_; clear S a; intro a S
                    refine l_nil ?_
                    refine e_then ?_
                    refine c_cond S rfl (fun c85 => ?_) (fun c85 => ?_)
                    · skip
                      have c85 := eq_of_beq c85
                      refine c_region ?_
                      refine l_pure S (p_assign rfl) rfl rfl rfl ?_; clear S a; intro a S
                      refine l_nil ?_
                      refine e_in 2 ?_
                      refine e_then ?_
                      exact ⟨3, 144, 143, S.only ⟨rfl, rfl, rfl, rfl, rfl, trivial⟩, H, (by unfold up.Lead; omega)⟩
                    · skip
                      have c85 := ne_of_beq_false c85
                      refine wp_skip ?_
                      refine e_in 2 ?_
                      refine e_then ?_
                      exact ⟨3, 144, 191, S.only ⟨rfl, rfl, rfl, rfl, rfl, trivial⟩, H, (by unfold up.Lead; omega)⟩
                  · skip
                    have c83 := ne_of_beq_false c83
                    refine wp_skip ?_
                    refine e_then ?_
                    refine wp_seq ?_
                    refine c_region ?_
                    refine l_pure S (p_move rfl) rfl rfl rfl ?_; clear S a; intro a S
                    refine l_pure S (p_eql rfl rfl) rfl rfl rfl ?_; clear S a; intro a S
                    refine l_nil ?_
                    refine e_then ?_
                    refine c_cond S rfl (fun c87 => ?_) (fun c87 => ?_)
                    · skip
                      have c87 := eq_of_beq c87
                      refine c_region ?_
                      refine l_pure S (p_assign rfl) rfl rfl rfl ?_; clear S a; intro a S
                      refine l_nil ?_
                      refine e_in 2 ?_
                      refine e_then ?_
                      exact ⟨3, 128, 143, S.only ⟨rfl, rfl, rfl, rfl, rfl, trivial⟩, H, (by unfold up.Lead; omega)⟩
                    · skip
                      have c87 := ne_of_beq_false c87
                      refine wp_skip ?_
                      refine e_in 2 ?_
                      refine e_then ?_
                      exact ⟨3, 128, 191, S.only ⟨rfl, rfl, rfl, rfl, rfl, trivial⟩, H, (by unfold up.Lead; omega)⟩
                · skip
                  have c81 := of_decide_eq_false c81
                  refine wp_seq ?_
                  refine c_region ?_
                  refine l_pure S (p_assign rfl) rfl rfl rfl ?_; clear S a; intro a S
                  refine l_nil ?_
                  refine e_then ?_
                  refine wp_ret ?_
                  refine e_in_ret ?_
                  refine e_then_ret ?_
                  refine e_in_ret ?_
                  refine e_then_ret ?_
                  refine e_in_ret ?_
                  refine e_then_ret ?_
                  exact r_ret1 S rfl rfl ⟨by rw [hV, up.bad (by omega) (by omega)], H⟩
              · skip
                have c79 := bc79
                have c79 := of_decide_eq_false c79
                refine l_off S rfl rfl rfl rfl bc79 rfl rfl ?_; clear S a; intro a S
                refine l_off S rfl rfl rfl rfl bc79 rfl rfl ?_; clear S a; intro a S
                refine l_pure S (p_pick_f rfl bc79 rfl) rfl rfl rfl ?_; clear S a; intro a S
                refine l_pure S (p_assign rfl) rfl rfl rfl ?_; clear S a; intro a S
                refine l_nil ?_
                refine e_then ?_
                refine c_cond (b := false) S rfl (fun h => by cases h) (fun _ => ?_)
                refine wp_seq ?_
                refine c_region ?_
                refine l_pure S (p_assign rfl) rfl rfl rfl ?_; clear S a; intro a S
                refine l_nil ?_
                refine e_then ?_
                refine wp_ret ?_
                refine e_in_ret ?_
                refine e_then_ret ?_
                refine e_in_ret ?_
                refine e_then_ret ?_
                refine e_in_ret ?_
                refine e_then_ret ?_
                exact r_ret1 S rfl rfl ⟨by rw [hV, up.bad (by omega) (by omega)], H⟩
          · skip
            have c69 := bc69
            have c69 := of_decide_eq_false c69
            refine l_off S rfl rfl rfl rfl bc69 rfl rfl ?_; clear S a; intro a S
            refine l_off S rfl rfl rfl rfl bc69 rfl rfl ?_; clear S a; intro a S
            refine l_pure S (p_pick_f rfl bc69 rfl) rfl rfl rfl ?_; clear S a; intro a S
            refine l_pure S (p_assign rfl) rfl rfl rfl ?_; clear S a; intro a S
            refine l_nil ?_
            refine e_then ?_
            refine c_cond (b := false) S rfl (fun h => by cases h) (fun _ => ?_)
            refine wp_seq ?_
            refine c_region ?_
            refine l_pure S (p_move rfl) rfl rfl rfl ?_; clear S a; intro a S
            refine l_pure S (p_geq rfl rfl) rfl rfl rfl ?_; clear S a; intro a S
            refine l_pure S (p_move rfl) rfl rfl rfl ?_; clear S a; intro a S
            refine l_split (S.of 40 rfl) (fun bc95 => ?_) (fun bc95 => ?_)
            · skip
              have c95 := bc95
              have c95 := of_decide_eq_true c95
              refine l_on S rfl rfl rfl rfl bc95 ?_
              refine l_pure S (p_move rfl) rfl rfl rfl ?_; clear S a; intro a S
              refine l_on S rfl rfl rfl rfl bc95 ?_
              refine l_pure S (p_leq rfl rfl) rfl rfl rfl ?_; clear S a; intro a S
              refine l_pure S (p_pick_t rfl bc95 rfl) rfl rfl rfl ?_; clear S a; intro a S
              refine l_pure S (p_assign rfl) rfl rfl rfl ?_; clear S a; intro a S
              refine l_nil ?_
              refine e_then ?_
              refine c_cond S rfl (fun c97 => ?_) (fun c97 => ?_)
              · skip
                have c97 := of_decide_eq_true c97
                refine wp_seq ?_
                refine c_region ?_
                refine l_pure S (p_assign rfl) rfl rfl rfl ?_; clear S a; intro a S
                refine l_nil ?_
                refine e_then ?_
                refine wp_seq ?_
                refine wp_seq ?_
                refine c_region ?_
                refine l_pure S (p_move rfl) rfl rfl rfl ?_; clear S a; intro a S
                refine l_pure S (p_eql rfl rfl) rfl rfl rfl ?_; clear S a; intro a S
                refine l_nil ?_
                refine e_then ?_
                refine c_cond S rfl (fun c99 => ?_) (fun c99 => ?_)
                · skip
                  have c99 := eq_of_beq c99
                  refine c_region ?_
                  refine l_pure S (p_assign rfl) rfl rfl rfl ?_; clear S a; intro a S
                  refine l_nil ?_
                  refine e_then ?_
                  refine wp_seq ?_
                  refine c_region ?_
                  refine l_pure S (p_move rfl) rfl rfl rfl ?_; clear S a; intro a S
                  refine l_pure S (p_eql rfl rfl) rfl rfl rfl ?_; clear S a; intro a S
                  refine l_nil ?_
                  refine e_then ?_
                  refine c_cond S rfl (fun c101 => ?_) (fun c101 => ?_)
                  · skip
                    have c101 := eq_of_beq c101
                    refine c_region ?_
                    refine l_pure S (p_assign rfl) rfl rfl rfl ?_; clear S a; intro a S
                    refine l_nil ?_
                    refine e_in 2 ?_
                    refine e_then ?_
                    exact ⟨3, 144, 143, S.only ⟨rfl, rfl, rfl, rfl, rfl, trivial⟩, H, (by unfold up.Lead; omega)⟩
                  · skip
                    have c101 := ne_of_beq_false c101
                    refine wp_skip ?_
                    refine e_in 2 ?_
                    refine e_then ?_
                    exact ⟨3, 144, 191, S.only ⟨rfl, rfl, rfl, rfl, rfl, trivial⟩, H, (by unfold up.Lead; omega)⟩
                · skip
                  have c99 := ne_of_beq_false c99
                  refine wp_skip ?_
                  refine e_then ?_
                  refine wp_seq ?_
                  refine c_region ?_
                  refine l_pure S (p_move rfl) rfl rfl rfl ?_; clear S a; intro a S
                  refine l_pure S (p_eql rfl rfl) rfl rfl rfl ?_; clear S a; intro a S
                  refine l_nil ?_
                  refine e_then ?_
                  refine c_cond S rfl (fun c103 => ?_) (fun c103 => ?_)
                  · skip
                    have c103 := eq_of_beq c103
                    refine c_region ?_
                    refine l_pure S (p_assign rfl) rfl rfl rfl ?_; clear S a; intro a S
                    refine l_nil ?_
                    refine e_in 2 ?_
                    refine e_then ?_
                    exact ⟨3, 128, 143, S.only ⟨rfl, rfl, rfl, rfl, rfl, trivial⟩, H, (by unfold up.Lead; omega)⟩
                  · skip
                    have c103 := ne_of_beq_false c103
                    refine wp_skip ?_
                    refine e_in 2 ?_
                    refine e_then ?_
                    exact ⟨3, 128, 191, S.only ⟨rfl, rfl, rfl, rfl, rfl, trivial⟩, H, (by unfold up.Lead; omega)⟩
              · skip
                have c97 := of_decide_eq_false c97
                refine wp_seq ?_
                refine c_region ?_
                refine l_pure S (p_assign rfl) rfl rfl rfl ?_; clear S a; intro a S
                refine l_nil ?_
                refine e_then ?_
                refine wp_ret ?_
                refine e_in_ret ?_
                refine e_then_ret ?_
                refine e_in_ret ?_
                refine e_then_ret ?_
                refine e_in_ret ?_
                refine e_then_ret ?_
                exact r_ret1 S rfl rfl ⟨by rw [hV, up.bad (by omega) (by omega)], H⟩
            · skip
              have c95 := bc95
              have c95 := of_decide_eq_false c95
              refine l_off S rfl rfl rfl rfl bc95 rfl rfl ?_; clear S a; intro a S
              refine l_off S rfl rfl rfl rfl bc95 rfl rfl ?_; clear S a; intro a S
              refine l_pure S (p_pick_f rfl bc95 rfl) rfl rfl rfl ?_; clear S a; intro a S
              refine l_pure S (p_assign rfl) rfl rfl rfl ?_; clear S a; intro a S
              refine l_nil ?_
              refine e_then ?_
              refine c_cond (b := false) S rfl (fun h => by cases h) (fun _ => ?_)
              refine wp_seq ?_
              refine c_region ?_
              refine l_pure S (p_assign rfl) rfl rfl rfl ?_; clear S a; intro a S
              refine l_nil ?_
              refine e_then ?_
              refine wp_ret ?_
              refine e_in_ret ?_
              refine e_then_ret ?_
              refine e_in_ret ?_
              refine e_then_ret ?_
              refine e_in_ret ?_
              refine e_then_ret ?_
              exact r_ret1 S rfl rfl ⟨by rw [hV, up.bad (by omega) (by omega)], H⟩
  · skip
    have c3 := of_decide_eq_false c3
    refine wp_exit ?_
    refine e_then_exit ?_
    refine e_then_exit ?_
    refine e_in_exit ?_
    refine e_then ?_
    refine wp_seq ?_
    refine c_region ?_
    refine l_pure S (p_assign rfl) rfl rfl rfl ?_; clear S a; intro a S
    refine l_nil ?_
    refine e_then ?_
    refine wp_ret ?_
    exact r_ret1 S rfl rfl ⟨by rw [hV, up.V_end s i (by omega)], H⟩
end Go.Proofs.YtbahngfpadjbhaaDoor.u8
