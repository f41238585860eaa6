/- FnCommandText: texts in quotes. -/
import Derived.Test.YtnmelglnkefjfaaDoorCl
import Derived.Test.YtnmelglnkefjfaaDoorCm
namespace Go.Proofs.YtnmelglnkefjfaaDoor.ct
open Go.RowKit Go.Proofs.HHW Go.Proofs.YtnmelglnkefjfaaDoorW.PrintWords Go.Proofs.YtnmelglnkefjfaaDoor.cm
set_option linter.unusedVariables false
set_option linter.unusedSimpArgs false
namespace qu
theorem sz5 : szB Tryd.prog 5 = some 1 := by kernel_rfl
theorem zv5 : zvB Tryd.prog 5 = some (.int .u8 0) := by kernel_rfl
theorem in5 : (Tryd.prog.info? 5).map (fun i => (i.zero, i.size, i.bytes)) = some (some (.int .u8 0), 1, 1) := by kernel_rfl


theorem own_new {te : TypeId} {g c : Nat} {cs : Array Value} (hc : cs.size = c) : OwnB te (.slice (some ⟨g, 0, none⟩) ([] : List Int).length c) [] [(g, .cells cs te (0, 0))] := ⟨by simp, .inr ⟨g, cs, c, (0, 0), rfl, Nat.zero_le _, by rw [hc, Nat.mul_one], rfl, thaw0 _, fun j hj => by simp at hj⟩⟩
theorem vrune_ (w0 : World) (r : Nat) (hr : r < 55296 ∨ (57343 < r ∧ r ≤ 1114111)) : Calls Tryd.prog 97 #[.int .i32 (r : Int)] w0 fun e w' => e = .returned (.bool true) ∧ Below w0.heap.size w0 w' := by
  have H := HH.start w0
  refine c_enter (args := [.int .i32 (r : Int)]) (k := 16) Tryd.func97 rfl rfl rfl (fun a S => ?_)
  refine wp_seq ?_
  refine c_region ?_
  refine l_pure S (p_assign rfl) rfl rfl rfl ?_; clear S a; intro a S
  refine l_nil ?_
  refine e_then ?_
  refine wp_seq ?_
  refine wp_block ?_
  refine wp_seq ?_
  refine c_region ?_
  refine l_pure S (p_move rfl) rfl rfl rfl ?_; clear S a; intro a S
  refine l_pure S (p_leq rfl rfl) rfl rfl rfl ?_; clear S a; intro a S
  refine l_pure S (p_move rfl) rfl rfl rfl ?_; clear S a; intro a S
  refine l_split (S.of 6 rfl) (fun bc3 => ?_) (fun bc3 => ?_)
  · skip
    have c3 := bc3
    have c3 := of_decide_eq_true c3
    refine l_on S rfl rfl rfl rfl bc3 ?_
    refine l_pure S (p_move rfl) rfl rfl rfl ?_; clear S a; intro a S
    refine l_on S rfl rfl rfl rfl bc3 ?_
    refine l_pure S (p_lss rfl rfl) rfl rfl rfl ?_; clear S a; intro a S
    refine l_pure S (p_pick_t rfl bc3 rfl) rfl rfl rfl ?_; clear S a; intro a S
    refine l_pure S (p_assign rfl) rfl rfl rfl ?_; clear S a; intro a S
    refine l_nil ?_
    refine e_then ?_
    refine c_cond S rfl (fun bc5 => ?_) (fun bc5 => ?_)
    · skip
      have c5 := bc5
      have c5 := of_decide_eq_true c5
      refine wp_seq ?_
      refine c_region ?_
      refine l_pure S (p_assign rfl) rfl rfl rfl ?_; clear S a; intro a S
      refine l_nil ?_
      refine e_then ?_
      refine wp_ret ?_
      refine e_in_ret ?_
      refine e_then_ret ?_
      exact r_ret1 S rfl rfl ⟨rfl, H.below⟩
    · skip
      have c5 := bc5
      have c5 := of_decide_eq_false c5
      refine wp_seq ?_
      refine c_region ?_
      refine l_pure S (p_move rfl) rfl rfl rfl ?_; clear S a; intro a S
      refine l_pure S (p_lss rfl rfl) rfl rfl rfl ?_; clear S a; intro a S
      refine l_pure S (p_move rfl) rfl rfl rfl ?_; clear S a; intro a S
      refine l_split (S.of 13 rfl) (fun bc8 => ?_) (fun bc8 => ?_)
      · skip
        have c8 := bc8
        have c8 := of_decide_eq_true c8
        refine l_on S rfl rfl rfl rfl bc8 ?_
        refine l_pure S (p_move rfl) rfl rfl rfl ?_; clear S a; intro a S
        refine l_on S rfl rfl rfl rfl bc8 ?_
        refine l_pure S (p_leq rfl rfl) rfl rfl rfl ?_; clear S a; intro a S
        refine l_pure S (p_pick_t rfl bc8 rfl) rfl rfl rfl ?_; clear S a; intro a S
        refine l_pure S (p_assign rfl) rfl rfl rfl ?_; clear S a; intro a S
        refine l_nil ?_
        refine e_then ?_
        refine c_cond S rfl (fun bc10 => ?_) (fun bc10 => ?_)
        · skip
          have c10 := bc10
          have c10 := of_decide_eq_true c10
          refine wp_seq ?_
          refine c_region ?_
          refine l_pure S (p_assign rfl) rfl rfl rfl ?_; clear S a; intro a S
          refine l_nil ?_
          refine e_then ?_
          refine wp_ret ?_
          refine e_in_ret ?_
          refine e_then_ret ?_
          exact r_ret1 S rfl rfl ⟨rfl, H.below⟩
        · skip
          have c10 := bc10
          have c10 := of_decide_eq_false c10
          refine wp_skip ?_
          refine e_in 0 ?_
          refine e_then ?_
          refine wp_seq ?_
          refine c_region ?_
          refine l_pure S (p_assign rfl) rfl rfl rfl ?_; clear S a; intro a S
          refine l_nil ?_
          refine e_then ?_
          refine wp_ret ?_
          exfalso; omega
      · skip
        have c8 := bc8
        have c8 := of_decide_eq_false c8
        refine l_off S rfl rfl rfl rfl bc8 rfl rfl ?_; clear S a; intro a S
        refine l_off S rfl rfl rfl rfl bc8 rfl rfl ?_; clear S a; intro a S
        refine l_pure S (p_pick_f rfl bc8 rfl) rfl rfl rfl ?_; clear S a; intro a S
        refine l_pure S (p_assign rfl) rfl rfl rfl ?_; clear S a; intro a S
        refine l_nil ?_
        refine e_then ?_
        refine c_cond (b := false) S rfl (fun h => by cases h) (fun _ => ?_)
        refine wp_skip ?_
        refine e_in 0 ?_
        refine e_then ?_
        refine wp_seq ?_
        refine c_region ?_
        refine l_pure S (p_assign rfl) rfl rfl rfl ?_; clear S a; intro a S
        refine l_nil ?_
        refine e_then ?_
        refine wp_ret ?_
        exfalso; omega
  · skip
    have c3 := bc3
    have c3 := of_decide_eq_false c3
    refine l_off S rfl rfl rfl rfl bc3 rfl rfl ?_; clear S a; intro a S
    refine l_off S rfl rfl rfl rfl bc3 rfl rfl ?_; clear S a; intro a S
    refine l_pure S (p_pick_f rfl bc3 rfl) rfl rfl rfl ?_; clear S a; intro a S
    refine l_pure S (p_assign rfl) rfl rfl rfl ?_; clear S a; intro a S
    refine l_nil ?_
    refine e_then ?_
    refine c_cond (b := false) S rfl (fun h => by cases h) (fun _ => ?_)
    refine wp_seq ?_
    refine c_region ?_
    refine l_pure S (p_move rfl) rfl rfl rfl ?_; clear S a; intro a S
    refine l_pure S (p_lss rfl rfl) rfl rfl rfl ?_; clear S a; intro a S
    refine l_pure S (p_move rfl) rfl rfl rfl ?_; clear S a; intro a S
    refine l_split (S.of 13 rfl) (fun bc19 => ?_) (fun bc19 => ?_)
    · skip
      have c19 := bc19
      have c19 := of_decide_eq_true c19
      refine l_on S rfl rfl rfl rfl bc19 ?_
      refine l_pure S (p_move rfl) rfl rfl rfl ?_; clear S a; intro a S
      refine l_on S rfl rfl rfl rfl bc19 ?_
      refine l_pure S (p_leq rfl rfl) rfl rfl rfl ?_; clear S a; intro a S
      refine l_pure S (p_pick_t rfl bc19 rfl) rfl rfl rfl ?_; clear S a; intro a S
      refine l_pure S (p_assign rfl) rfl rfl rfl ?_; clear S a; intro a S
      refine l_nil ?_
      refine e_then ?_
      refine c_cond S rfl (fun bc21 => ?_) (fun bc21 => ?_)
      · skip
        have c21 := bc21
        have c21 := of_decide_eq_true c21
        refine wp_seq ?_
        refine c_region ?_
        refine l_pure S (p_assign rfl) rfl rfl rfl ?_; clear S a; intro a S
        refine l_nil ?_
        refine e_then ?_
        refine wp_ret ?_
        refine e_in_ret ?_
        refine e_then_ret ?_
        exact r_ret1 S rfl rfl ⟨rfl, H.below⟩
      · skip
        have c21 := bc21
        have c21 := of_decide_eq_false c21
        refine wp_skip ?_
        refine e_in 0 ?_
        refine e_then ?_
        refine wp_seq ?_
        refine c_region ?_
        refine l_pure S (p_assign rfl) rfl rfl rfl ?_; clear S a; intro a S
        refine l_nil ?_
        refine e_then ?_
        refine wp_ret ?_
        exfalso; omega
    · skip
      have c19 := bc19
      have c19 := of_decide_eq_false c19
      refine l_off S rfl rfl rfl rfl bc19 rfl rfl ?_; clear S a; intro a S
      refine l_off S rfl rfl rfl rfl bc19 rfl rfl ?_; clear S a; intro a S
      refine l_pure S (p_pick_f rfl bc19 rfl) rfl rfl rfl ?_; clear S a; intro a S
      refine l_pure S (p_assign rfl) rfl rfl rfl ?_; clear S a; intro a S
      refine l_nil ?_
      refine e_then ?_
      refine c_cond (b := false) S rfl (fun h => by cases h) (fun _ => ?_)
      refine wp_skip ?_
      refine e_in 0 ?_
      refine e_then ?_
      refine wp_seq ?_
      refine c_region ?_
      refine l_pure S (p_assign rfl) rfl rfl rfl ?_; clear S a; intro a S
      refine l_nil ?_
      refine e_then ?_
      refine wp_ret ?_
      exfalso; omega
theorem isPrint_ (w0 : World) (r : Nat) (hr : r < 128) : Calls Tryd.prog 95 #[.int .i32 (r : Int)] w0 fun e w' => e = .returned (.bool (decide (32 ≤ (r : Int) ∧ (r : Int) < 127))) ∧ Below w0.heap.size w0 w' := by
  have H := HH.start w0
  refine c_enter (args := [.int .i32 (r : Int)]) (k := 123) Tryd.func95 rfl rfl rfl (fun a S => ?_)
  refine wp_seq ?_
  refine c_region ?_
  refine l_pure S (p_assign rfl) rfl rfl rfl ?_; clear S a; intro a S
  refine l_nil ?_
  refine e_then ?_
  refine wp_seq ?_
  refine wp_seq ?_
  refine c_region ?_
  refine l_pure S (p_move rfl) rfl rfl rfl ?_; clear S a; intro a S
  refine l_pure S (p_leq rfl rfl) rfl rfl rfl ?_; clear S a; intro a S
  refine l_nil ?_
  refine e_then ?_
  refine c_cond S rfl (fun c3 => ?_) (fun c3 => by have c3 := of_decide_eq_false c3; exfalso; omega)
  have c3 := of_decide_eq_true c3
  refine wp_seq ?_
  refine wp_seq ?_
  refine c_region ?_
  refine l_pure S (p_move rfl) rfl rfl rfl ?_; clear S a; intro a S
  refine l_pure S (p_leq rfl rfl) rfl rfl rfl ?_; clear S a; intro a S
  refine l_pure S (p_move rfl) rfl rfl rfl ?_; clear S a; intro a S
  refine l_split (S.of 21 rfl) (fun bc5 => ?_) (fun bc5 => ?_)
  · skip
    have c5 := bc5
    have c5 := of_decide_eq_true c5
    refine l_on S rfl rfl rfl rfl bc5 ?_
    refine l_pure S (p_move rfl) rfl rfl rfl ?_; clear S a; intro a S
    refine l_on S rfl rfl rfl rfl bc5 ?_
    refine l_pure S (p_leq rfl rfl) rfl rfl rfl ?_; clear S a; intro a S
    refine l_pure S (p_pick_t rfl bc5 rfl) rfl rfl rfl ?_; clear S a; intro a S
    refine l_nil ?_
    refine e_then ?_
    refine c_cond S rfl (fun bc7 => ?_) (fun bc7 => ?_)
    · skip
      have c7 := bc7
      have c7 := of_decide_eq_true c7
      refine wp_seq ?_
      refine c_region ?_
      refine l_pure S (p_assign rfl) rfl rfl rfl ?_; clear S a; intro a S
      refine l_nil ?_
      refine e_then ?_
      refine wp_ret ?_
      refine e_then_ret ?_
      refine e_then_ret ?_
      exact r_ret1 S rfl rfl ⟨by rw [decide_eq_true (by omega)], H.below⟩
    · skip
      have c7 := bc7
      have c7 := of_decide_eq_false c7
      refine wp_skip ?_
      refine e_then ?_
      refine wp_seq ?_
      refine wp_seq ?_
      refine c_region ?_
      refine l_pure S (p_move rfl) rfl rfl rfl ?_; clear S a; intro a S
      refine l_pure S (p_leq rfl rfl) rfl rfl rfl ?_; clear S a; intro a S
      refine l_pure S (p_move rfl) rfl rfl rfl ?_; clear S a; intro a S
      refine l_split (S.of 27 rfl) (fun bc10 => ?_) (fun bc10 => ?_)
      · skip
        have c10 := bc10
        have c10 := of_decide_eq_true c10
        refine l_on S rfl rfl rfl rfl bc10 ?_
        refine l_pure S (p_move rfl) rfl rfl rfl ?_; clear S a; intro a S
        refine l_on S rfl rfl rfl rfl bc10 ?_
        refine l_pure S (p_leq rfl rfl) rfl rfl rfl ?_; clear S a; intro a S
        refine l_pure S (p_pick_t rfl bc10 rfl) rfl rfl rfl ?_; clear S a; intro a S
        refine l_nil ?_
        refine e_then ?_
        refine c_cond S rfl (fun bc12 => ?_) (fun bc12 => ?_)
        · skip
          have c12 := bc12
          have c12 := of_decide_eq_true c12
          refine wp_seq ?_
          refine c_region ?_
          refine l_pure S (p_move rfl) rfl rfl rfl ?_; clear S a; intro a S
          refine l_pure S (p_neq rfl rfl) rfl rfl rfl ?_; clear S a; intro a S
          refine l_pure S (p_assign rfl) rfl rfl rfl ?_; clear S a; intro a S
          refine l_nil ?_
          refine e_then ?_
          refine wp_ret ?_
          refine e_then_ret ?_
          refine e_then_ret ?_
          exfalso; omega
        · skip
          have c12 := bc12
          have c12 := of_decide_eq_false c12
          refine wp_skip ?_
          refine e_then ?_
          refine wp_seq ?_
          refine c_region ?_
          refine l_pure S (p_assign rfl) rfl rfl rfl ?_; clear S a; intro a S
          refine l_nil ?_
          refine e_then ?_
          refine wp_ret ?_
          refine e_then_ret ?_
          exact r_ret1 S rfl rfl ⟨by rw [decide_eq_false (by omega)], H.below⟩
      · skip
        have c10 := bc10
        have c10 := of_decide_eq_false c10
        refine l_off S rfl rfl rfl rfl bc10 rfl rfl ?_; clear S a; intro a S
        refine l_off S rfl rfl rfl rfl bc10 rfl rfl ?_; clear S a; intro a S
        refine l_pure S (p_pick_f rfl bc10 rfl) rfl rfl rfl ?_; clear S a; intro a S
        refine l_nil ?_
        refine e_then ?_
        refine c_cond (b := false) S rfl (fun h => by cases h) (fun _ => ?_)
        refine wp_skip ?_
        refine e_then ?_
        refine wp_seq ?_
        refine c_region ?_
        refine l_pure S (p_assign rfl) rfl rfl rfl ?_; clear S a; intro a S
        refine l_nil ?_
        refine e_then ?_
        refine wp_ret ?_
        refine e_then_ret ?_
        exact r_ret1 S rfl rfl ⟨by rw [decide_eq_false (by omega)], H.below⟩
  · skip
    have c5 := bc5
    have c5 := of_decide_eq_false c5
    refine l_off S rfl rfl rfl rfl bc5 rfl rfl ?_; clear S a; intro a S
    refine l_off S rfl rfl rfl rfl bc5 rfl rfl ?_; clear S a; intro a S
    refine l_pure S (p_pick_f rfl bc5 rfl) rfl rfl rfl ?_; clear S a; intro a S
    refine l_nil ?_
    refine e_then ?_
    refine c_cond (b := false) S rfl (fun h => by cases h) (fun _ => ?_)
    refine wp_skip ?_
    refine e_then ?_
    refine wp_seq ?_
    refine wp_seq ?_
    refine c_region ?_
    refine l_pure S (p_move rfl) rfl rfl rfl ?_; clear S a; intro a S
    refine l_pure S (p_leq rfl rfl) rfl rfl rfl ?_; clear S a; intro a S
    refine l_pure S (p_move rfl) rfl rfl rfl ?_; clear S a; intro a S
    refine l_split (S.of 27 rfl) (fun bc21 => ?_) (fun bc21 => ?_)
    · skip
      have c21 := bc21
      have c21 := of_decide_eq_true c21
      refine l_on S rfl rfl rfl rfl bc21 ?_
      refine l_pure S (p_move rfl) rfl rfl rfl ?_; clear S a; intro a S
      refine l_on S rfl rfl rfl rfl bc21 ?_
      refine l_pure S (p_leq rfl rfl) rfl rfl rfl ?_; clear S a; intro a S
      refine l_pure S (p_pick_t rfl bc21 rfl) rfl rfl rfl ?_; clear S a; intro a S
      refine l_nil ?_
      refine e_then ?_
      refine c_cond S rfl (fun bc23 => ?_) (fun bc23 => ?_)
      · skip
        have c23 := bc23
        have c23 := of_decide_eq_true c23
        refine wp_seq ?_
        refine c_region ?_
        refine l_pure S (p_move rfl) rfl rfl rfl ?_; clear S a; intro a S
        refine l_pure S (p_neq rfl rfl) rfl rfl rfl ?_; clear S a; intro a S
        refine l_pure S (p_assign rfl) rfl rfl rfl ?_; clear S a; intro a S
        refine l_nil ?_
        refine e_then ?_
        refine wp_ret ?_
        refine e_then_ret ?_
        refine e_then_ret ?_
        exfalso; omega
      · skip
        have c23 := bc23
        have c23 := of_decide_eq_false c23
        refine wp_skip ?_
        refine e_then ?_
        refine wp_seq ?_
        refine c_region ?_
        refine l_pure S (p_assign rfl) rfl rfl rfl ?_; clear S a; intro a S
        refine l_nil ?_
        refine e_then ?_
        refine wp_ret ?_
        refine e_then_ret ?_
        exact r_ret1 S rfl rfl ⟨by rw [decide_eq_false (by omega)], H.below⟩
    · skip
      have c21 := bc21
      have c21 := of_decide_eq_false c21
      refine l_off S rfl rfl rfl rfl bc21 rfl rfl ?_; clear S a; intro a S
      refine l_off S rfl rfl rfl rfl bc21 rfl rfl ?_; clear S a; intro a S
      refine l_pure S (p_pick_f rfl bc21 rfl) rfl rfl rfl ?_; clear S a; intro a S
      refine l_nil ?_
      refine e_then ?_
      refine c_cond (b := false) S rfl (fun h => by cases h) (fun _ => ?_)
      refine wp_skip ?_
      refine e_then ?_
      refine wp_seq ?_
      refine c_region ?_
      refine l_pure S (p_assign rfl) rfl rfl rfl ?_; clear S a; intro a S
      refine l_nil ?_
      refine e_then ?_
      refine wp_ret ?_
      refine e_then_ret ?_
      exact r_ret1 S rfl rfl ⟨by rw [decide_eq_false (by omega)], H.below⟩
set_option maxHeartbeats 1000000 in
theorem esc_ (wb w0 : World) (B : Nat) (L0 : List (Nat × Obj)) (E : List (Nat × Obj)) (A : Option Addr) (c : Nat) (xs : List Int) (r : Nat) (hr : r < 55296 ∨ (57343 < r ∧ r ≤ 1114111)) (hOw : OwnB 5 (.slice A xs.length c) xs E) (H : HH B wb w0 (E ++ L0)) (hxs : xs.length ≤ 100000) : Calls Tryd.prog 91 #[.slice A xs.length c, .int .i32 (r : Int), .int .u8 34, .bool true, .bool false] w0 fun e w' => ∃ A' c' E', e = .returned (.slice A' (xs ++ esc r).length c') ∧ OwnB 5 (.slice A' (xs ++ esc r).length c') (xs ++ esc r) E' ∧ HH B wb w' (E' ++ L0) := by
  refine c_enter (args := [.slice A xs.length c, .int .i32 (r : Int), .int .u8 34, .bool true, .bool false]) (k := 140) Tryd.func91 rfl rfl rfl (fun a S => ?_)
  refine wp_seq ?_
  refine c_region ?_
  refine l_pure S (p_assign rfl) rfl rfl rfl ?_; clear S a; intro a S
  refine l_nil ?_
  refine e_then ?_
  refine wp_seq ?_
  refine wp_seq ?_
  refine c_region ?_
  refine l_pure S (p_move rfl) rfl rfl rfl ?_; clear S a; intro a S
  refine l_pure S (p_move rfl) rfl rfl rfl ?_; clear S a; intro a S
  refine l_pure S (p_conv rfl (fun w => cv_int (Tryd.underlying5) (Tryd.underlying21) (r := 34) (by decide))) rfl rfl rfl ?_; clear S a; intro a S
  refine l_pure S (p_eql rfl rfl) rfl rfl rfl ?_; clear S a; intro a S
  refine l_pure S (p_move rfl) rfl rfl rfl ?_; clear S a; intro a S
  refine l_split (S.of 17 rfl) (fun bc2 => ?_) (fun bc2 => ?_)
  · skip
    have c2 := bc2
    have c2 := eq_of_beq c2
    refine l_off S rfl rfl rfl rfl bc2 rfl rfl ?_; clear S a; intro a S
    refine l_off S rfl rfl rfl rfl bc2 rfl rfl ?_; clear S a; intro a S
    refine l_pure S (p_pick_t rfl bc2 rfl) rfl rfl rfl ?_; clear S a; intro a S
    refine l_nil ?_
    refine e_then ?_
    refine c_cond (b := true) S rfl (fun _ => ?_) (fun h => by cases h)
    refine wp_seq ?_
    refine c_region ?_
    refine l_pure S (p_move rfl) rfl rfl rfl ?_; clear S a; intro a S
    refine l_lit [(.const (.int .u8 92))] S H rfl rfl Tryd.underlying55 sz5 zv5 rfl rfl (by simp [Value.cells]) rfl rfl rfl ?_; clear S a H; intro g5 w a H S
    refine l_ownB [_] (r := [92]) S H rfl rfl rfl hOw (src_lit (vs := ([92]).map (Value.int .u8)) H List.mem_cons_self Tryd.underlying55 (by simp [Value.oneCell'])) Tryd.underlying55 in5 rfl (by simp only [List.length_cons, List.length_nil, List.length_append]; omega) (by decide) rfl rfl rfl ?_; clear S a H; intro Aow6 cow6 ow6 w a how6 H S; replace H := H.tail
    refine l_pure S (p_assign rfl) rfl rfl rfl ?_; clear S a; intro a S
    refine l_nil ?_
    refine e_then ?_
    refine wp_seq ?_
    refine c_region ?_
    refine l_pure S (p_move rfl) rfl rfl rfl ?_; clear S a; intro a S
    refine l_pure S (p_move rfl) rfl rfl rfl ?_; clear S a; intro a S
    refine l_pure S (p_conv rfl (fun w => cv_int (Tryd.underlying21) (Tryd.underlying5) (r := (r : Int)) (by rw [IntKind.wrap_u8]; omega))) rfl rfl rfl ?_; clear S a; intro a S
    refine l_lit [(.tmp 26)] S H rfl rfl Tryd.underlying55 sz5 zv5 rfl rfl (by simp [Value.cells]) rfl rfl rfl ?_; clear S a H; intro g7 w a H S
    refine l_ownB [_] (r := [(r : Int)]) S H rfl rfl rfl how6 (src_lit (vs := ([(r : Int)]).map (Value.int .u8)) H List.mem_cons_self Tryd.underlying55 (by simp [Value.oneCell'])) Tryd.underlying55 in5 rfl (by simp only [List.length_cons, List.length_nil, List.length_append]; omega) (by decide) rfl rfl rfl ?_; clear S a H; intro Aow8 cow8 ow8 w a how8 H S; replace H := H.tail
    refine l_pure S (p_assign rfl) rfl rfl rfl ?_; clear S a; intro a S
    refine l_nil ?_
    refine e_then ?_
    refine wp_seq ?_
    refine c_region ?_
    refine l_pure S (p_move rfl) rfl rfl rfl ?_; clear S a; intro a S
    refine l_pure S (p_assign rfl) rfl rfl rfl ?_; clear S a; intro a S
    refine l_nil ?_
    refine e_then ?_
    refine wp_ret ?_
    refine e_then_ret ?_
    have hl : ((xs ++ [92]) ++ [(r : Int)]) = xs ++ esc r := by rw [esc_q (by omega)]; simp
    rw [hl] at S how8
    exact r_ret1 S rfl rfl ⟨_, _, ow8, rfl, how8, H⟩
  · skip
    have c2 := bc2
    have c2 := ne_of_beq_false c2
    refine l_on S rfl rfl rfl rfl bc2 ?_
    refine l_pure S (p_move rfl) rfl rfl rfl ?_; clear S a; intro a S
    refine l_on S rfl rfl rfl rfl bc2 ?_
    refine l_pure S (p_eql rfl rfl) rfl rfl rfl ?_; clear S a; intro a S
    refine l_pure S (p_pick_f rfl bc2 rfl) rfl rfl rfl ?_; clear S a; intro a S
    refine l_nil ?_
    refine e_then ?_
    refine c_cond S rfl (fun bc10 => ?_) (fun bc10 => ?_)
    · skip
      have c10 := bc10
      have c10 := eq_of_beq c10
      refine wp_seq ?_
      refine c_region ?_
      refine l_pure S (p_move rfl) rfl rfl rfl ?_; clear S a; intro a S
      refine l_lit [(.const (.int .u8 92))] S H rfl rfl Tryd.underlying55 sz5 zv5 rfl rfl (by simp [Value.cells]) rfl rfl rfl ?_; clear S a H; intro g11 w a H S
      refine l_ownB [_] (r := [92]) S H rfl rfl rfl hOw (src_lit (vs := ([92]).map (Value.int .u8)) H List.mem_cons_self Tryd.underlying55 (by simp [Value.oneCell'])) Tryd.underlying55 in5 rfl (by simp only [List.length_cons, List.length_nil, List.length_append]; omega) (by decide) rfl rfl rfl ?_; clear S a H; intro Aow12 cow12 ow12 w a how12 H S; replace H := H.tail
      refine l_pure S (p_assign rfl) rfl rfl rfl ?_; clear S a; intro a S
      refine l_nil ?_
      refine e_then ?_
      refine wp_seq ?_
      refine c_region ?_
      refine l_pure S (p_move rfl) rfl rfl rfl ?_; clear S a; intro a S
      refine l_pure S (p_move rfl) rfl rfl rfl ?_; clear S a; intro a S
      refine l_pure S (p_conv rfl (fun w => cv_int (Tryd.underlying21) (Tryd.underlying5) (r := (r : Int)) (by rw [IntKind.wrap_u8]; omega))) rfl rfl rfl ?_; clear S a; intro a S
      refine l_lit [(.tmp 26)] S H rfl rfl Tryd.underlying55 sz5 zv5 rfl rfl (by simp [Value.cells]) rfl rfl rfl ?_; clear S a H; intro g13 w a H S
      refine l_ownB [_] (r := [(r : Int)]) S H rfl rfl rfl how12 (src_lit (vs := ([(r : Int)]).map (Value.int .u8)) H List.mem_cons_self Tryd.underlying55 (by simp [Value.oneCell'])) Tryd.underlying55 in5 rfl (by simp only [List.length_cons, List.length_nil, List.length_append]; omega) (by decide) rfl rfl rfl ?_; clear S a H; intro Aow14 cow14 ow14 w a how14 H S; replace H := H.tail
      refine l_pure S (p_assign rfl) rfl rfl rfl ?_; clear S a; intro a S
      refine l_nil ?_
      refine e_then ?_
      refine wp_seq ?_
      refine c_region ?_
      refine l_pure S (p_move rfl) rfl rfl rfl ?_; clear S a; intro a S
      refine l_pure S (p_assign rfl) rfl rfl rfl ?_; clear S a; intro a S
      refine l_nil ?_
      refine e_then ?_
      refine wp_ret ?_
      refine e_then_ret ?_
      have hl : ((xs ++ [92]) ++ [(r : Int)]) = xs ++ esc r := by rw [esc_q (by omega)]; simp
      rw [hl] at S how14
      exact r_ret1 S rfl rfl ⟨_, _, ow14, rfl, how14, H⟩
    · skip
      have c10 := bc10
      have c10 := ne_of_beq_false c10
      refine wp_skip ?_
      refine e_then ?_
      refine wp_seq ?_
      refine wp_seq ?_
      refine c_region ?_
      refine l_pure S (p_move rfl) rfl rfl rfl ?_; clear S a; intro a S
      refine l_nil ?_
      refine e_then ?_
      refine c_cond (b := true) S rfl (fun _ => ?_) (fun h => by cases h)
      refine wp_seq ?_
      refine c_region ?_
      refine l_pure S (p_move rfl) rfl rfl rfl ?_; clear S a; intro a S
      refine l_pure S (p_lss rfl rfl) rfl rfl rfl ?_; clear S a; intro a S
      refine l_pure S (p_move rfl) rfl rfl rfl ?_; clear S a; intro a S
      refine l_split (S.of 33 rfl) (fun bc18 => ?_) (fun bc18 => ?_)
      · skip
        have c18 := bc18
        have c18 := of_decide_eq_true c18
        refine l_on S rfl rfl rfl rfl bc18 ?_
        refine l_pure S (p_move rfl) rfl rfl rfl ?_; clear S a; intro a S
        refine l_on S rfl rfl rfl rfl bc18 ?_
        refine l_call S rfl rfl Tryd.func95 rfl rfl (isPrint_ _ r (by omega)) rfl rfl rfl ?_
        rintro e w ⟨rfl, hb⟩
        refine ⟨_, rfl, ?_⟩; clear S a; intro a S
        replace H := H.later hb; clear hb
        refine l_pure S (p_pick_t rfl bc18 rfl) rfl rfl rfl ?_; clear S a; intro a S
        refine l_nil ?_
        refine e_then ?_
        refine c_cond S rfl (fun bc20 => ?_) (fun bc20 => ?_)
        · skip
          have c20 := bc20
          have c20 := of_decide_eq_true c20
          refine wp_seq ?_
          refine c_region ?_
          refine l_pure S (p_move rfl) rfl rfl rfl ?_; clear S a; intro a S
          refine l_pure S (p_move rfl) rfl rfl rfl ?_; clear S a; intro a S
          refine l_pure S (p_conv rfl (fun w => cv_int (Tryd.underlying21) (Tryd.underlying5) (r := (r : Int)) (by rw [IntKind.wrap_u8]; omega))) rfl rfl rfl ?_; clear S a; intro a S
          refine l_lit [(.tmp 39)] S H rfl rfl Tryd.underlying55 sz5 zv5 rfl rfl (by simp [Value.cells]) rfl rfl rfl ?_; clear S a H; intro g21 w a H S
          refine l_ownB [_] (r := [(r : Int)]) S H rfl rfl rfl hOw (src_lit (vs := ([(r : Int)]).map (Value.int .u8)) H List.mem_cons_self Tryd.underlying55 (by simp [Value.oneCell'])) Tryd.underlying55 in5 rfl (by simp only [List.length_cons, List.length_nil, List.length_append]; omega) (by decide) rfl rfl rfl ?_; clear S a H; intro Aow22 cow22 ow22 w a how22 H S; replace H := H.tail
          refine l_pure S (p_assign rfl) rfl rfl rfl ?_; clear S a; intro a S
          refine l_nil ?_
          refine e_then ?_
          refine wp_seq ?_
          refine c_region ?_
          refine l_pure S (p_move rfl) rfl rfl rfl ?_; clear S a; intro a S
          refine l_pure S (p_assign rfl) rfl rfl rfl ?_; clear S a; intro a S
          refine l_nil ?_
          refine e_then ?_
          refine wp_ret ?_
          refine e_then_ret ?_
          have hl : (xs ++ [(r : Int)]) = xs ++ esc r := by rw [esc_p (by omega) (by omega)]
          rw [hl] at S how22
          exact r_ret1 S rfl rfl ⟨_, _, ow22, rfl, how22, H⟩
        · skip
          have c20 := bc20
          have c20 := of_decide_eq_false c20
          refine wp_skip ?_
          refine e_then ?_
          refine wp_seq ?_
          refine wp_seq ?_
          refine c_region ?_
          refine l_pure S (p_move rfl) rfl rfl rfl ?_; clear S a; intro a S
          refine l_nil ?_
          refine e_then ?_
          refine wp_block ?_
          refine wp_seq ?_
          refine c_region ?_
          refine l_pure S (p_eql rfl rfl) rfl rfl rfl ?_; clear S a; intro a S
          refine l_pure S (p_assign rfl) rfl rfl rfl ?_; clear S a; intro a S
          refine l_nil ?_
          refine e_then ?_
          refine c_cond S rfl (fun bc24 => ?_) (fun bc24 => ?_)
          · skip
            have c24 := bc24
            have c24 := eq_of_beq c24
            refine c_region ?_
            refine l_pure S (p_move rfl) rfl rfl rfl ?_; clear S a; intro a S
            refine l_ownB [] (r := [92, 97]) S H rfl rfl rfl hOw (src_lst Tryd.underlying9 (by decide)) Tryd.underlying55 in5 rfl (by simp only [List.length_cons, List.length_nil, List.length_append]; omega) (by decide) rfl rfl rfl ?_; clear S a H; intro Aow25 cow25 ow25 w a how25 H S
            refine l_pure S (p_assign rfl) rfl rfl rfl ?_; clear S a; intro a S
            refine l_nil ?_
            refine e_in 0 ?_
            refine e_then ?_
            refine wp_seq ?_
            refine c_region ?_
            refine l_pure S (p_move rfl) rfl rfl rfl ?_; clear S a; intro a S
            refine l_pure S (p_assign rfl) rfl rfl rfl ?_; clear S a; intro a S
            refine l_nil ?_
            refine e_then ?_
            refine wp_ret ?_
            obtain rfl : r = 7 := by omega
            have hl : (xs ++ [92, 97]) = xs ++ esc 7 := rfl
            rw [hl] at S how25
            exact r_ret1 S rfl rfl ⟨_, _, ow25, rfl, how25, H⟩
          · skip
            have c24 := bc24
            have c24 := ne_of_beq_false c24
            refine wp_seq ?_
            refine c_region ?_
            refine l_pure S (p_eql rfl rfl) rfl rfl rfl ?_; clear S a; intro a S
            refine l_pure S (p_assign rfl) rfl rfl rfl ?_; clear S a; intro a S
            refine l_nil ?_
            refine e_then ?_
            refine c_cond S rfl (fun bc27 => ?_) (fun bc27 => ?_)
            · skip
              have c27 := bc27
              have c27 := eq_of_beq c27
              refine c_region ?_
              refine l_pure S (p_move rfl) rfl rfl rfl ?_; clear S a; intro a S
              refine l_ownB [] (r := [92, 98]) S H rfl rfl rfl hOw (src_lst Tryd.underlying9 (by decide)) Tryd.underlying55 in5 rfl (by simp only [List.length_cons, List.length_nil, List.length_append]; omega) (by decide) rfl rfl rfl ?_; clear S a H; intro Aow28 cow28 ow28 w a how28 H S
              refine l_pure S (p_assign rfl) rfl rfl rfl ?_; clear S a; intro a S
              refine l_nil ?_
              refine e_in 0 ?_
              refine e_then ?_
              refine wp_seq ?_
              refine c_region ?_
              refine l_pure S (p_move rfl) rfl rfl rfl ?_; clear S a; intro a S
              refine l_pure S (p_assign rfl) rfl rfl rfl ?_; clear S a; intro a S
              refine l_nil ?_
              refine e_then ?_
              refine wp_ret ?_
              obtain rfl : r = 8 := by omega
              have hl : (xs ++ [92, 98]) = xs ++ esc 8 := rfl
              rw [hl] at S how28
              exact r_ret1 S rfl rfl ⟨_, _, ow28, rfl, how28, H⟩
            · skip
              have c27 := bc27
              have c27 := ne_of_beq_false c27
              refine wp_seq ?_
              refine c_region ?_
              refine l_pure S (p_eql rfl rfl) rfl rfl rfl ?_; clear S a; intro a S
              refine l_pure S (p_assign rfl) rfl rfl rfl ?_; clear S a; intro a S
              refine l_nil ?_
              refine e_then ?_
              refine c_cond S rfl (fun bc30 => ?_) (fun bc30 => ?_)
              · skip
                have c30 := bc30
                have c30 := eq_of_beq c30
                refine c_region ?_
                refine l_pure S (p_move rfl) rfl rfl rfl ?_; clear S a; intro a S
                refine l_ownB [] (r := [92, 102]) S H rfl rfl rfl hOw (src_lst Tryd.underlying9 (by decide)) Tryd.underlying55 in5 rfl (by simp only [List.length_cons, List.length_nil, List.length_append]; omega) (by decide) rfl rfl rfl ?_; clear S a H; intro Aow31 cow31 ow31 w a how31 H S
                refine l_pure S (p_assign rfl) rfl rfl rfl ?_; clear S a; intro a S
                refine l_nil ?_
                refine e_in 0 ?_
                refine e_then ?_
                refine wp_seq ?_
                refine c_region ?_
                refine l_pure S (p_move rfl) rfl rfl rfl ?_; clear S a; intro a S
                refine l_pure S (p_assign rfl) rfl rfl rfl ?_; clear S a; intro a S
                refine l_nil ?_
                refine e_then ?_
                refine wp_ret ?_
                obtain rfl : r = 12 := by omega
                have hl : (xs ++ [92, 102]) = xs ++ esc 12 := rfl
                rw [hl] at S how31
                exact r_ret1 S rfl rfl ⟨_, _, ow31, rfl, how31, H⟩
              · skip
                have c30 := bc30
                have c30 := ne_of_beq_false c30
                refine wp_seq ?_
                refine c_region ?_
                refine l_pure S (p_eql rfl rfl) rfl rfl rfl ?_; clear S a; intro a S
                refine l_pure S (p_assign rfl) rfl rfl rfl ?_; clear S a; intro a S
                refine l_nil ?_
                refine e_then ?_
                refine c_cond S rfl (fun bc33 => ?_) (fun bc33 => ?_)
                · skip
                  have c33 := bc33
                  have c33 := eq_of_beq c33
                  refine c_region ?_
                  refine l_pure S (p_move rfl) rfl rfl rfl ?_; clear S a; intro a S
                  refine l_ownB [] (r := [92, 110]) S H rfl rfl rfl hOw (src_lst Tryd.underlying9 (by decide)) Tryd.underlying55 in5 rfl (by simp only [List.length_cons, List.length_nil, List.length_append]; omega) (by decide) rfl rfl rfl ?_; clear S a H; intro Aow34 cow34 ow34 w a how34 H S
                  refine l_pure S (p_assign rfl) rfl rfl rfl ?_; clear S a; intro a S
                  refine l_nil ?_
                  refine e_in 0 ?_
                  refine e_then ?_
                  refine wp_seq ?_
                  refine c_region ?_
                  refine l_pure S (p_move rfl) rfl rfl rfl ?_; clear S a; intro a S
                  refine l_pure S (p_assign rfl) rfl rfl rfl ?_; clear S a; intro a S
                  refine l_nil ?_
                  refine e_then ?_
                  refine wp_ret ?_
                  obtain rfl : r = 10 := by omega
                  have hl : (xs ++ [92, 110]) = xs ++ esc 10 := rfl
                  rw [hl] at S how34
                  exact r_ret1 S rfl rfl ⟨_, _, ow34, rfl, how34, H⟩
                · skip
                  have c33 := bc33
                  have c33 := ne_of_beq_false c33
                  refine wp_seq ?_
                  refine c_region ?_
                  refine l_pure S (p_eql rfl rfl) rfl rfl rfl ?_; clear S a; intro a S
                  refine l_pure S (p_assign rfl) rfl rfl rfl ?_; clear S a; intro a S
                  refine l_nil ?_
                  refine e_then ?_
                  refine c_cond S rfl (fun bc36 => ?_) (fun bc36 => ?_)
                  · skip
                    have c36 := bc36
                    have c36 := eq_of_beq c36
                    refine c_region ?_
                    refine l_pure S (p_move rfl) rfl rfl rfl ?_; clear S a; intro a S
                    refine l_ownB [] (r := [92, 114]) S H rfl rfl rfl hOw (src_lst Tryd.underlying9 (by decide)) Tryd.underlying55 in5 rfl (by simp only [List.length_cons, List.length_nil, List.length_append]; omega) (by decide) rfl rfl rfl ?_; clear S a H; intro Aow37 cow37 ow37 w a how37 H S
                    refine l_pure S (p_assign rfl) rfl rfl rfl ?_; clear S a; intro a S
                    refine l_nil ?_
                    refine e_in 0 ?_
                    refine e_then ?_
                    refine wp_seq ?_
                    refine c_region ?_
                    refine l_pure S (p_move rfl) rfl rfl rfl ?_; clear S a; intro a S
                    refine l_pure S (p_assign rfl) rfl rfl rfl ?_; clear S a; intro a S
                    refine l_nil ?_
                    refine e_then ?_
                    refine wp_ret ?_
                    obtain rfl : r = 13 := by omega
                    have hl : (xs ++ [92, 114]) = xs ++ esc 13 := rfl
                    rw [hl] at S how37
                    exact r_ret1 S rfl rfl ⟨_, _, ow37, rfl, how37, H⟩
                  · skip
                    have c36 := bc36
                    have c36 := ne_of_beq_false c36
                    refine wp_seq ?_
                    refine c_region ?_
                    refine l_pure S (p_eql rfl rfl) rfl rfl rfl ?_; clear S a; intro a S
                    refine l_pure S (p_assign rfl) rfl rfl rfl ?_; clear S a; intro a S
                    refine l_nil ?_
                    refine e_then ?_
                    refine c_cond S rfl (fun bc39 => ?_) (fun bc39 => ?_)
                    · skip
                      have c39 := bc39
                      have c39 := eq_of_beq c39
                      refine c_region ?_
                      refine l_pure S (p_move rfl) rfl rfl rfl ?_; clear S a; intro a S
                      refine l_ownB [] (r := [92, 116]) S H rfl rfl rfl hOw (src_lst Tryd.underlying9 (by decide)) Tryd.underlying55 in5 rfl (by simp only [List.length_cons, List.length_nil, List.length_append]; omega) (by decide) rfl rfl rfl ?_; clear S a H; intro Aow40 cow40 ow40 w a how40 H S
                      refine l_pure S (p_assign rfl) rfl rfl rfl ?_; clear S a; intro a S
                      refine l_nil ?_
                      refine e_in 0 ?_
                      refine e_then ?_
                      refine wp_seq ?_
                      refine c_region ?_
                      refine l_pure S (p_move rfl) rfl rfl rfl ?_; clear S a; intro a S
                      refine l_pure S (p_assign rfl) rfl rfl rfl ?_; clear S a; intro a S
                      refine l_nil ?_
                      refine e_then ?_
                      refine wp_ret ?_
                      obtain rfl : r = 9 := by omega
                      have hl : (xs ++ [92, 116]) = xs ++ esc 9 := rfl
                      rw [hl] at S how40
                      exact r_ret1 S rfl rfl ⟨_, _, ow40, rfl, how40, H⟩
                    · skip
                      have c39 := bc39
                      have c39 := ne_of_beq_false c39
                      refine wp_seq ?_
                      refine c_region ?_
                      refine l_pure S (p_eql rfl rfl) rfl rfl rfl ?_; clear S a; intro a S
                      refine l_pure S (p_assign rfl) rfl rfl rfl ?_; clear S a; intro a S
                      refine l_nil ?_
                      refine e_then ?_
                      refine c_cond S rfl (fun bc42 => ?_) (fun bc42 => ?_)
                      · skip
                        have c42 := bc42
                        have c42 := eq_of_beq c42
                        refine c_region ?_
                        refine l_pure S (p_move rfl) rfl rfl rfl ?_; clear S a; intro a S
                        refine l_ownB [] (r := [92, 118]) S H rfl rfl rfl hOw (src_lst Tryd.underlying9 (by decide)) Tryd.underlying55 in5 rfl (by simp only [List.length_cons, List.length_nil, List.length_append]; omega) (by decide) rfl rfl rfl ?_; clear S a H; intro Aow43 cow43 ow43 w a how43 H S
                        refine l_pure S (p_assign rfl) rfl rfl rfl ?_; clear S a; intro a S
                        refine l_nil ?_
                        refine e_in 0 ?_
                        refine e_then ?_
                        refine wp_seq ?_
                        refine c_region ?_
                        refine l_pure S (p_move rfl) rfl rfl rfl ?_; clear S a; intro a S
                        refine l_pure S (p_assign rfl) rfl rfl rfl ?_; clear S a; intro a S
                        refine l_nil ?_
                        refine e_then ?_
                        refine wp_ret ?_
                        obtain rfl : r = 11 := by omega
                        have hl : (xs ++ [92, 118]) = xs ++ esc 11 := rfl
                        rw [hl] at S how43
                        exact r_ret1 S rfl rfl ⟨_, _, ow43, rfl, how43, H⟩
                      · skip
                        have c42 := bc42
                        have c42 := ne_of_beq_false c42
                        refine wp_block ?_
                        refine wp_seq ?_
                        refine wp_block ?_
                        refine wp_seq ?_
                        refine wp_block ?_
                        refine wp_seq ?_
                        refine wp_block ?_
                        refine wp_seq ?_
                        refine wp_block ?_
                        refine wp_seq ?_
                        refine wp_seq ?_
                        refine wp_seq ?_
                        refine c_region ?_
                        refine l_pure S (p_move rfl) rfl rfl rfl ?_; clear S a; intro a S
                        refine l_pure S (p_lss rfl rfl) rfl rfl rfl ?_; clear S a; intro a S
                        refine l_pure S (p_move rfl) rfl rfl rfl ?_; clear S a; intro a S
                        refine l_split (S.of 59 rfl) (fun bc45 => ?_) (fun bc45 => ?_)
                        · skip
                          have c45 := bc45
                          have c45 := of_decide_eq_true c45
                          refine l_off S rfl rfl rfl rfl bc45 rfl rfl ?_; clear S a; intro a S
                          refine l_off S rfl rfl rfl rfl bc45 rfl rfl ?_; clear S a; intro a S
                          refine l_pure S (p_pick_t rfl bc45 rfl) rfl rfl rfl ?_; clear S a; intro a S
                          refine l_pure S (p_assign rfl) rfl rfl rfl ?_; clear S a; intro a S
                          refine l_nil ?_
                          refine e_then ?_
                          refine c_cond (b := true) S rfl (fun _ => ?_) (fun h => by cases h)
                          refine wp_exit ?_
                          refine e_then_exit ?_
                          refine e_then_exit ?_
                          refine e_in_exit ?_
                          refine e_then ?_
                          refine wp_seq ?_
                          refine wp_seq ?_
                          refine c_region ?_
                          refine l_pure S (p_move rfl) rfl rfl rfl ?_; clear S a; intro a S
                          refine l_ownB [] (r := [92, 120]) S H rfl rfl rfl hOw (src_lst Tryd.underlying9 (by decide)) Tryd.underlying55 in5 rfl (by simp only [List.length_cons, List.length_nil, List.length_append]; omega) (by decide) rfl rfl rfl ?_; clear S a H; intro Aow48 cow48 ow48 w a how48 H S
                          refine l_pure S (p_assign rfl) rfl rfl rfl ?_; clear S a; intro a S
                          refine l_nil ?_
                          refine e_then ?_
                          refine wp_seq ?_
                          refine c_region ?_
                          refine l_pure S (p_move rfl) rfl rfl rfl ?_; clear S a; intro a S
                          refine l_pure S (p_move rfl) rfl rfl rfl ?_; clear S a; intro a S
                          refine l_pure S (p_conv rfl (fun w => cv_int (Tryd.underlying21) (Tryd.underlying5) (r := (r : Int)) (by rw [IntKind.wrap_u8]; omega))) rfl rfl rfl ?_; clear S a; intro a S
                          refine l_pure S (p_shr (r := ((r / 16 : Nat) : Int)) rfl rfl (by decide) (shr_u8 r)) rfl rfl rfl ?_; clear S a; intro a S
                          refine l_pure S (p_index rfl rfl (fun w => ix_string Tryd.underlying9 (by omega) (show _ < ((16 : Nat) : Int) by omega))) rfl rfl rfl ?_; clear S a; intro a S
                          rw [hxb (x := (r / 16)) (by omega)] at S
                          refine l_lit [(.tmp 76)] S H rfl rfl Tryd.underlying55 sz5 zv5 rfl rfl (by simp [Value.cells]) rfl rfl rfl ?_; clear S a H; intro g49 w a H S
                          refine l_ownB [_] (r := [(hx (r / 16))]) S H rfl rfl rfl how48 (src_lit (vs := ([(hx (r / 16))]).map (Value.int .u8)) H List.mem_cons_self Tryd.underlying55 (by simp [Value.oneCell'])) Tryd.underlying55 in5 rfl (by simp only [List.length_cons, List.length_nil, List.length_append]; omega) (by decide) rfl rfl rfl ?_; clear S a H; intro Aow50 cow50 ow50 w a how50 H S; replace H := H.tail
                          refine l_pure S (p_assign rfl) rfl rfl rfl ?_; clear S a; intro a S
                          refine l_nil ?_
                          refine e_then ?_
                          refine c_region ?_
                          refine l_pure S (p_move rfl) rfl rfl rfl ?_; clear S a; intro a S
                          refine l_pure S (p_move rfl) rfl rfl rfl ?_; clear S a; intro a S
                          refine l_pure S (p_conv rfl (fun w => cv_int (Tryd.underlying21) (Tryd.underlying5) (r := (r : Int)) (by rw [IntKind.wrap_u8]; omega))) rfl rfl rfl ?_; clear S a; intro a S
                          refine l_pure S (p_and (r := ((r % 16 : Nat) : Int)) rfl rfl (and15_8 r)) rfl rfl rfl ?_; clear S a; intro a S
                          refine l_pure S (p_index rfl rfl (fun w => ix_string Tryd.underlying9 (by omega) (show _ < ((16 : Nat) : Int) by omega))) rfl rfl rfl ?_; clear S a; intro a S
                          rw [hxb (x := (r % 16)) (by omega)] at S
                          refine l_lit [(.tmp 83)] S H rfl rfl Tryd.underlying55 sz5 zv5 rfl rfl (by simp [Value.cells]) rfl rfl rfl ?_; clear S a H; intro g51 w a H S
                          refine l_ownB [_] (r := [(hx (r % 16))]) S H rfl rfl rfl how50 (src_lit (vs := ([(hx (r % 16))]).map (Value.int .u8)) H List.mem_cons_self Tryd.underlying55 (by simp [Value.oneCell'])) Tryd.underlying55 in5 rfl (by simp only [List.length_cons, List.length_nil, List.length_append]; omega) (by decide) rfl rfl rfl ?_; clear S a H; intro Aow52 cow52 ow52 w a how52 H S; replace H := H.tail
                          refine l_pure S (p_assign rfl) rfl rfl rfl ?_; clear S a; intro a S
                          refine l_nil ?_
                          refine e_then ?_
                          refine wp_exit ?_
                          refine e_in_other rfl ?_
                          refine e_then_exit ?_
                          refine e_in_other rfl ?_
                          refine e_then_exit ?_
                          refine e_in_other rfl ?_
                          refine e_then_exit ?_
                          refine e_in_exit ?_
                          refine e_in 0 ?_
                          refine e_then ?_
                          refine wp_seq ?_
                          refine c_region ?_
                          refine l_pure S (p_move rfl) rfl rfl rfl ?_; clear S a; intro a S
                          refine l_pure S (p_assign rfl) rfl rfl rfl ?_; clear S a; intro a S
                          refine l_nil ?_
                          refine e_then ?_
                          refine wp_ret ?_
                          have hl : (((xs ++ [92, 120]) ++ [(hx (r / 16))]) ++ [(hx (r % 16))]) = xs ++ esc r := by rw [esc_x (by omega)]; simp
                          rw [hl] at S how52
                          exact r_ret1 S rfl rfl ⟨_, _, ow52, rfl, how52, H⟩
                        · skip
                          have c45 := bc45
                          have c45 := of_decide_eq_false c45
                          refine l_on S rfl rfl rfl rfl bc45 ?_
                          refine l_pure S (p_move rfl) rfl rfl rfl ?_; clear S a; intro a S
                          refine l_on S rfl rfl rfl rfl bc45 ?_
                          refine l_pure S (p_eql rfl rfl) rfl rfl rfl ?_; clear S a; intro a S
                          refine l_pure S (p_pick_f rfl bc45 rfl) rfl rfl rfl ?_; clear S a; intro a S
                          refine l_pure S (p_assign rfl) rfl rfl rfl ?_; clear S a; intro a S
                          refine l_nil ?_
                          refine e_then ?_
                          refine c_cond S rfl (fun bc54 => ?_) (fun bc54 => ?_)
                          · skip
                            have c54 := bc54
                            have c54 := eq_of_beq c54
                            refine wp_exit ?_
                            refine e_then_exit ?_
                            refine e_then_exit ?_
                            refine e_in_exit ?_
                            refine e_then ?_
                            refine wp_seq ?_
                            refine wp_seq ?_
                            refine c_region ?_
                            refine l_pure S (p_move rfl) rfl rfl rfl ?_; clear S a; intro a S
                            refine l_ownB [] (r := [92, 120]) S H rfl rfl rfl hOw (src_lst Tryd.underlying9 (by decide)) Tryd.underlying55 in5 rfl (by simp only [List.length_cons, List.length_nil, List.length_append]; omega) (by decide) rfl rfl rfl ?_; clear S a H; intro Aow55 cow55 ow55 w a how55 H S
                            refine l_pure S (p_assign rfl) rfl rfl rfl ?_; clear S a; intro a S
                            refine l_nil ?_
                            refine e_then ?_
                            refine wp_seq ?_
                            refine c_region ?_
                            refine l_pure S (p_move rfl) rfl rfl rfl ?_; clear S a; intro a S
                            refine l_pure S (p_move rfl) rfl rfl rfl ?_; clear S a; intro a S
                            refine l_pure S (p_conv rfl (fun w => cv_int (Tryd.underlying21) (Tryd.underlying5) (r := (r : Int)) (by rw [IntKind.wrap_u8]; omega))) rfl rfl rfl ?_; clear S a; intro a S
                            refine l_pure S (p_shr (r := ((r / 16 : Nat) : Int)) rfl rfl (by decide) (shr_u8 r)) rfl rfl rfl ?_; clear S a; intro a S
                            refine l_pure S (p_index rfl rfl (fun w => ix_string Tryd.underlying9 (by omega) (show _ < ((16 : Nat) : Int) by omega))) rfl rfl rfl ?_; clear S a; intro a S
                            rw [hxb (x := (r / 16)) (by omega)] at S
                            refine l_lit [(.tmp 76)] S H rfl rfl Tryd.underlying55 sz5 zv5 rfl rfl (by simp [Value.cells]) rfl rfl rfl ?_; clear S a H; intro g56 w a H S
                            refine l_ownB [_] (r := [(hx (r / 16))]) S H rfl rfl rfl how55 (src_lit (vs := ([(hx (r / 16))]).map (Value.int .u8)) H List.mem_cons_self Tryd.underlying55 (by simp [Value.oneCell'])) Tryd.underlying55 in5 rfl (by simp only [List.length_cons, List.length_nil, List.length_append]; omega) (by decide) rfl rfl rfl ?_; clear S a H; intro Aow57 cow57 ow57 w a how57 H S; replace H := H.tail
                            refine l_pure S (p_assign rfl) rfl rfl rfl ?_; clear S a; intro a S
                            refine l_nil ?_
                            refine e_then ?_
                            refine c_region ?_
                            refine l_pure S (p_move rfl) rfl rfl rfl ?_; clear S a; intro a S
                            refine l_pure S (p_move rfl) rfl rfl rfl ?_; clear S a; intro a S
                            refine l_pure S (p_conv rfl (fun w => cv_int (Tryd.underlying21) (Tryd.underlying5) (r := (r : Int)) (by rw [IntKind.wrap_u8]; omega))) rfl rfl rfl ?_; clear S a; intro a S
                            refine l_pure S (p_and (r := ((r % 16 : Nat) : Int)) rfl rfl (and15_8 r)) rfl rfl rfl ?_; clear S a; intro a S
                            refine l_pure S (p_index rfl rfl (fun w => ix_string Tryd.underlying9 (by omega) (show _ < ((16 : Nat) : Int) by omega))) rfl rfl rfl ?_; clear S a; intro a S
                            rw [hxb (x := (r % 16)) (by omega)] at S
                            refine l_lit [(.tmp 83)] S H rfl rfl Tryd.underlying55 sz5 zv5 rfl rfl (by simp [Value.cells]) rfl rfl rfl ?_; clear S a H; intro g58 w a H S
                            refine l_ownB [_] (r := [(hx (r % 16))]) S H rfl rfl rfl how57 (src_lit (vs := ([(hx (r % 16))]).map (Value.int .u8)) H List.mem_cons_self Tryd.underlying55 (by simp [Value.oneCell'])) Tryd.underlying55 in5 rfl (by simp only [List.length_cons, List.length_nil, List.length_append]; omega) (by decide) rfl rfl rfl ?_; clear S a H; intro Aow59 cow59 ow59 w a how59 H S; replace H := H.tail
                            refine l_pure S (p_assign rfl) rfl rfl rfl ?_; clear S a; intro a S
                            refine l_nil ?_
                            refine e_then ?_
                            refine wp_exit ?_
                            refine e_in_other rfl ?_
                            refine e_then_exit ?_
                            refine e_in_other rfl ?_
                            refine e_then_exit ?_
                            refine e_in_other rfl ?_
                            refine e_then_exit ?_
                            refine e_in_exit ?_
                            refine e_in 0 ?_
                            refine e_then ?_
                            refine wp_seq ?_
                            refine c_region ?_
                            refine l_pure S (p_move rfl) rfl rfl rfl ?_; clear S a; intro a S
                            refine l_pure S (p_assign rfl) rfl rfl rfl ?_; clear S a; intro a S
                            refine l_nil ?_
                            refine e_then ?_
                            refine wp_ret ?_
                            have hl : (((xs ++ [92, 120]) ++ [(hx (r / 16))]) ++ [(hx (r % 16))]) = xs ++ esc r := by rw [esc_x (by omega)]; simp
                            rw [hl] at S how59
                            exact r_ret1 S rfl rfl ⟨_, _, ow59, rfl, how59, H⟩
                          · skip
                            have c54 := bc54
                            have c54 := ne_of_beq_false c54
                            refine wp_skip ?_
                            refine e_then ?_
                            refine wp_seq ?_
                            refine wp_seq ?_
                            refine c_region ?_
                            refine l_pure S (p_move rfl) rfl rfl rfl ?_; clear S a; intro a S
                            refine l_call S rfl rfl Tryd.func97 rfl rfl (vrune_ _ r hr) rfl rfl rfl ?_
                            rintro e w ⟨rfl, hb⟩
                            refine ⟨_, rfl, ?_⟩; clear S a; intro a S
                            replace H := H.later hb; clear hb
                            refine l_pure S (p_not rfl) rfl rfl rfl ?_; clear S a; intro a S
                            refine l_pure S (p_assign rfl) rfl rfl rfl ?_; clear S a; intro a S
                            refine l_nil ?_
                            refine e_then ?_
                            refine c_cond (b := false) S rfl (fun h => by cases h) (fun _ => ?_)
                            refine wp_skip ?_
                            refine e_then ?_
                            refine wp_seq ?_
                            refine c_region ?_
                            refine l_pure S (p_move rfl) rfl rfl rfl ?_; clear S a; intro a S
                            refine l_pure S (p_lss rfl rfl) rfl rfl rfl ?_; clear S a; intro a S
                            refine l_pure S (p_assign rfl) rfl rfl rfl ?_; clear S a; intro a S
                            refine l_nil ?_
                            refine e_then ?_
                            refine c_cond S rfl (fun bc64 => ?_) (fun bc64 => ?_)
                            · skip
                              have c64 := bc64
                              have c64 := of_decide_eq_true c64
                              refine wp_exit ?_
                              refine e_then_exit ?_
                              refine e_in_other rfl ?_
                              refine e_then_exit ?_
                              refine e_in_other rfl ?_
                              refine e_then_exit ?_
                              refine e_in_exit ?_
                              refine e_then ?_
                              refine wp_seq ?_
                              refine wp_seq ?_
                              refine c_region ?_
                              refine l_pure S (p_move rfl) rfl rfl rfl ?_; clear S a; intro a S
                              refine l_ownB [] (r := [92, 117]) S H rfl rfl rfl hOw (src_lst Tryd.underlying9 (by decide)) Tryd.underlying55 in5 rfl (by simp only [List.length_cons, List.length_nil, List.length_append]; omega) (by decide) rfl rfl rfl ?_; clear S a H; intro Aow65 cow65 ow65 w a how65 H S
                              refine l_pure S (p_assign rfl) rfl rfl rfl ?_; clear S a; intro a S
                              refine l_nil ?_
                              refine e_then ?_
                              refine wp_seq ?_
                              refine c_region ?_
                              refine l_pure S (p_assign rfl) rfl rfl rfl ?_; clear S a; intro a S
                              refine l_nil ?_
                              refine e_then ?_
                              refine wp_block ?_
                              exfalso; omega
                            · skip
                              have c64 := bc64
                              have c64 := of_decide_eq_false c64
                              refine wp_skip ?_
                              refine e_then ?_
                              refine wp_exit ?_
                              refine e_in_other rfl ?_
                              refine e_then_exit ?_
                              refine e_in_other rfl ?_
                              refine e_then_exit ?_
                              refine e_in_other rfl ?_
                              refine e_then_exit ?_
                              refine e_in_exit ?_
                              refine e_then ?_
                              refine wp_seq ?_
                              refine wp_seq ?_
                              refine c_region ?_
                              refine l_pure S (p_move rfl) rfl rfl rfl ?_; clear S a; intro a S
                              refine l_ownB [] (r := [92, 85]) S H rfl rfl rfl hOw (src_lst Tryd.underlying9 (by decide)) Tryd.underlying55 in5 rfl (by simp only [List.length_cons, List.length_nil, List.length_append]; omega) (by decide) rfl rfl rfl ?_; clear S a H; intro Aow66 cow66 ow66 w a how66 H S
                              refine l_pure S (p_assign rfl) rfl rfl rfl ?_; clear S a; intro a S
                              refine l_nil ?_
                              refine e_then ?_
                              refine wp_seq ?_
                              refine c_region ?_
                              refine l_pure S (p_assign rfl) rfl rfl rfl ?_; clear S a; intro a S
                              refine l_nil ?_
                              refine e_then ?_
                              refine wp_block ?_
                              exfalso; omega
      · skip
        have c18 := bc18
        have c18 := of_decide_eq_false c18
        refine l_off S rfl rfl rfl rfl bc18 rfl rfl ?_; clear S a; intro a S
        refine l_off S rfl rfl rfl rfl bc18 rfl rfl ?_; clear S a; intro a S
        refine l_pure S (p_pick_f rfl bc18 rfl) rfl rfl rfl ?_; clear S a; intro a S
        refine l_nil ?_
        refine e_then ?_
        refine c_cond (b := false) S rfl (fun h => by cases h) (fun _ => ?_)
        refine wp_skip ?_
        refine e_then ?_
        refine wp_seq ?_
        refine wp_seq ?_
        refine c_region ?_
        refine l_pure S (p_move rfl) rfl rfl rfl ?_; clear S a; intro a S
        refine l_nil ?_
        refine e_then ?_
        refine wp_block ?_
        refine wp_seq ?_
        refine c_region ?_
        refine l_pure S (p_eql rfl rfl) rfl rfl rfl ?_; clear S a; intro a S
        refine l_pure S (p_assign rfl) rfl rfl rfl ?_; clear S a; intro a S
        refine l_nil ?_
        refine e_then ?_
        refine c_cond S rfl (fun bc70 => ?_) (fun bc70 => ?_)
        · skip
          have c70 := bc70
          have c70 := eq_of_beq c70
          refine c_region ?_
          refine l_pure S (p_move rfl) rfl rfl rfl ?_; clear S a; intro a S
          refine l_ownB [] (r := [92, 97]) S H rfl rfl rfl hOw (src_lst Tryd.underlying9 (by decide)) Tryd.underlying55 in5 rfl (by simp only [List.length_cons, List.length_nil, List.length_append]; omega) (by decide) rfl rfl rfl ?_; clear S a H; intro Aow71 cow71 ow71 w a how71 H S
          refine l_pure S (p_assign rfl) rfl rfl rfl ?_; clear S a; intro a S
          refine l_nil ?_
          refine e_in 0 ?_
          refine e_then ?_
          refine wp_seq ?_
          refine c_region ?_
          refine l_pure S (p_move rfl) rfl rfl rfl ?_; clear S a; intro a S
          refine l_pure S (p_assign rfl) rfl rfl rfl ?_; clear S a; intro a S
          refine l_nil ?_
          refine e_then ?_
          refine wp_ret ?_
          obtain rfl : r = 7 := by omega
          have hl : (xs ++ [92, 97]) = xs ++ esc 7 := rfl
          rw [hl] at S how71
          exact r_ret1 S rfl rfl ⟨_, _, ow71, rfl, how71, H⟩
        · skip
          have c70 := bc70
          have c70 := ne_of_beq_false c70
          refine wp_seq ?_
          refine c_region ?_
          refine l_pure S (p_eql rfl rfl) rfl rfl rfl ?_; clear S a; intro a S
          refine l_pure S (p_assign rfl) rfl rfl rfl ?_; clear S a; intro a S
          refine l_nil ?_
          refine e_then ?_
          refine c_cond S rfl (fun bc73 => ?_) (fun bc73 => ?_)
          · skip
            have c73 := bc73
            have c73 := eq_of_beq c73
            refine c_region ?_
            refine l_pure S (p_move rfl) rfl rfl rfl ?_; clear S a; intro a S
            refine l_ownB [] (r := [92, 98]) S H rfl rfl rfl hOw (src_lst Tryd.underlying9 (by decide)) Tryd.underlying55 in5 rfl (by simp only [List.length_cons, List.length_nil, List.length_append]; omega) (by decide) rfl rfl rfl ?_; clear S a H; intro Aow74 cow74 ow74 w a how74 H S
            refine l_pure S (p_assign rfl) rfl rfl rfl ?_; clear S a; intro a S
            refine l_nil ?_
            refine e_in 0 ?_
            refine e_then ?_
            refine wp_seq ?_
            refine c_region ?_
            refine l_pure S (p_move rfl) rfl rfl rfl ?_; clear S a; intro a S
            refine l_pure S (p_assign rfl) rfl rfl rfl ?_; clear S a; intro a S
            refine l_nil ?_
            refine e_then ?_
            refine wp_ret ?_
            obtain rfl : r = 8 := by omega
            have hl : (xs ++ [92, 98]) = xs ++ esc 8 := rfl
            rw [hl] at S how74
            exact r_ret1 S rfl rfl ⟨_, _, ow74, rfl, how74, H⟩
          · skip
            have c73 := bc73
            have c73 := ne_of_beq_false c73
            refine wp_seq ?_
            refine c_region ?_
            refine l_pure S (p_eql rfl rfl) rfl rfl rfl ?_; clear S a; intro a S
            refine l_pure S (p_assign rfl) rfl rfl rfl ?_; clear S a; intro a S
            refine l_nil ?_
            refine e_then ?_
            refine c_cond S rfl (fun bc76 => ?_) (fun bc76 => ?_)
            · skip
              have c76 := bc76
              have c76 := eq_of_beq c76
              refine c_region ?_
              refine l_pure S (p_move rfl) rfl rfl rfl ?_; clear S a; intro a S
              refine l_ownB [] (r := [92, 102]) S H rfl rfl rfl hOw (src_lst Tryd.underlying9 (by decide)) Tryd.underlying55 in5 rfl (by simp only [List.length_cons, List.length_nil, List.length_append]; omega) (by decide) rfl rfl rfl ?_; clear S a H; intro Aow77 cow77 ow77 w a how77 H S
              refine l_pure S (p_assign rfl) rfl rfl rfl ?_; clear S a; intro a S
              refine l_nil ?_
              refine e_in 0 ?_
              refine e_then ?_
              refine wp_seq ?_
              refine c_region ?_
              refine l_pure S (p_move rfl) rfl rfl rfl ?_; clear S a; intro a S
              refine l_pure S (p_assign rfl) rfl rfl rfl ?_; clear S a; intro a S
              refine l_nil ?_
              refine e_then ?_
              refine wp_ret ?_
              obtain rfl : r = 12 := by omega
              have hl : (xs ++ [92, 102]) = xs ++ esc 12 := rfl
              rw [hl] at S how77
              exact r_ret1 S rfl rfl ⟨_, _, ow77, rfl, how77, H⟩
            · skip
              have c76 := bc76
              have c76 := ne_of_beq_false c76
              refine wp_seq ?_
              refine c_region ?_
              refine l_pure S (p_eql rfl rfl) rfl rfl rfl ?_; clear S a; intro a S
              refine l_pure S (p_assign rfl) rfl rfl rfl ?_; clear S a; intro a S
              refine l_nil ?_
              refine e_then ?_
              refine c_cond S rfl (fun bc79 => ?_) (fun bc79 => ?_)
              · skip
                have c79 := bc79
                have c79 := eq_of_beq c79
                refine c_region ?_
                refine l_pure S (p_move rfl) rfl rfl rfl ?_; clear S a; intro a S
                refine l_ownB [] (r := [92, 110]) S H rfl rfl rfl hOw (src_lst Tryd.underlying9 (by decide)) Tryd.underlying55 in5 rfl (by simp only [List.length_cons, List.length_nil, List.length_append]; omega) (by decide) rfl rfl rfl ?_; clear S a H; intro Aow80 cow80 ow80 w a how80 H S
                refine l_pure S (p_assign rfl) rfl rfl rfl ?_; clear S a; intro a S
                refine l_nil ?_
                refine e_in 0 ?_
                refine e_then ?_
                refine wp_seq ?_
                refine c_region ?_
                refine l_pure S (p_move rfl) rfl rfl rfl ?_; clear S a; intro a S
                refine l_pure S (p_assign rfl) rfl rfl rfl ?_; clear S a; intro a S
                refine l_nil ?_
                refine e_then ?_
                refine wp_ret ?_
                obtain rfl : r = 10 := by omega
                have hl : (xs ++ [92, 110]) = xs ++ esc 10 := rfl
                rw [hl] at S how80
                exact r_ret1 S rfl rfl ⟨_, _, ow80, rfl, how80, H⟩
              · skip
                have c79 := bc79
                have c79 := ne_of_beq_false c79
                refine wp_seq ?_
                refine c_region ?_
                refine l_pure S (p_eql rfl rfl) rfl rfl rfl ?_; clear S a; intro a S
                refine l_pure S (p_assign rfl) rfl rfl rfl ?_; clear S a; intro a S
                refine l_nil ?_
                refine e_then ?_
                refine c_cond S rfl (fun bc82 => ?_) (fun bc82 => ?_)
                · skip
                  have c82 := bc82
                  have c82 := eq_of_beq c82
                  refine c_region ?_
                  refine l_pure S (p_move rfl) rfl rfl rfl ?_; clear S a; intro a S
                  refine l_ownB [] (r := [92, 114]) S H rfl rfl rfl hOw (src_lst Tryd.underlying9 (by decide)) Tryd.underlying55 in5 rfl (by simp only [List.length_cons, List.length_nil, List.length_append]; omega) (by decide) rfl rfl rfl ?_; clear S a H; intro Aow83 cow83 ow83 w a how83 H S
                  refine l_pure S (p_assign rfl) rfl rfl rfl ?_; clear S a; intro a S
                  refine l_nil ?_
                  refine e_in 0 ?_
                  refine e_then ?_
                  refine wp_seq ?_
                  refine c_region ?_
                  refine l_pure S (p_move rfl) rfl rfl rfl ?_; clear S a; intro a S
                  refine l_pure S (p_assign rfl) rfl rfl rfl ?_; clear S a; intro a S
                  refine l_nil ?_
                  refine e_then ?_
                  refine wp_ret ?_
                  obtain rfl : r = 13 := by omega
                  have hl : (xs ++ [92, 114]) = xs ++ esc 13 := rfl
                  rw [hl] at S how83
                  exact r_ret1 S rfl rfl ⟨_, _, ow83, rfl, how83, H⟩
                · skip
                  have c82 := bc82
                  have c82 := ne_of_beq_false c82
                  refine wp_seq ?_
                  refine c_region ?_
                  refine l_pure S (p_eql rfl rfl) rfl rfl rfl ?_; clear S a; intro a S
                  refine l_pure S (p_assign rfl) rfl rfl rfl ?_; clear S a; intro a S
                  refine l_nil ?_
                  refine e_then ?_
                  refine c_cond S rfl (fun bc85 => ?_) (fun bc85 => ?_)
                  · skip
                    have c85 := bc85
                    have c85 := eq_of_beq c85
                    refine c_region ?_
                    refine l_pure S (p_move rfl) rfl rfl rfl ?_; clear S a; intro a S
                    refine l_ownB [] (r := [92, 116]) S H rfl rfl rfl hOw (src_lst Tryd.underlying9 (by decide)) Tryd.underlying55 in5 rfl (by simp only [List.length_cons, List.length_nil, List.length_append]; omega) (by decide) rfl rfl rfl ?_; clear S a H; intro Aow86 cow86 ow86 w a how86 H S
                    refine l_pure S (p_assign rfl) rfl rfl rfl ?_; clear S a; intro a S
                    refine l_nil ?_
                    refine e_in 0 ?_
                    refine e_then ?_
                    refine wp_seq ?_
                    refine c_region ?_
                    refine l_pure S (p_move rfl) rfl rfl rfl ?_; clear S a; intro a S
                    refine l_pure S (p_assign rfl) rfl rfl rfl ?_; clear S a; intro a S
                    refine l_nil ?_
                    refine e_then ?_
                    refine wp_ret ?_
                    obtain rfl : r = 9 := by omega
                    have hl : (xs ++ [92, 116]) = xs ++ esc 9 := rfl
                    rw [hl] at S how86
                    exact r_ret1 S rfl rfl ⟨_, _, ow86, rfl, how86, H⟩
                  · skip
                    have c85 := bc85
                    have c85 := ne_of_beq_false c85
                    refine wp_seq ?_
                    refine c_region ?_
                    refine l_pure S (p_eql rfl rfl) rfl rfl rfl ?_; clear S a; intro a S
                    refine l_pure S (p_assign rfl) rfl rfl rfl ?_; clear S a; intro a S
                    refine l_nil ?_
                    refine e_then ?_
                    refine c_cond S rfl (fun bc88 => ?_) (fun bc88 => ?_)
                    · skip
                      have c88 := bc88
                      have c88 := eq_of_beq c88
                      refine c_region ?_
                      refine l_pure S (p_move rfl) rfl rfl rfl ?_; clear S a; intro a S
                      refine l_ownB [] (r := [92, 118]) S H rfl rfl rfl hOw (src_lst Tryd.underlying9 (by decide)) Tryd.underlying55 in5 rfl (by simp only [List.length_cons, List.length_nil, List.length_append]; omega) (by decide) rfl rfl rfl ?_; clear S a H; intro Aow89 cow89 ow89 w a how89 H S
                      refine l_pure S (p_assign rfl) rfl rfl rfl ?_; clear S a; intro a S
                      refine l_nil ?_
                      refine e_in 0 ?_
                      refine e_then ?_
                      refine wp_seq ?_
                      refine c_region ?_
                      refine l_pure S (p_move rfl) rfl rfl rfl ?_; clear S a; intro a S
                      refine l_pure S (p_assign rfl) rfl rfl rfl ?_; clear S a; intro a S
                      refine l_nil ?_
                      refine e_then ?_
                      refine wp_ret ?_
                      obtain rfl : r = 11 := by omega
                      have hl : (xs ++ [92, 118]) = xs ++ esc 11 := rfl
                      rw [hl] at S how89
                      exact r_ret1 S rfl rfl ⟨_, _, ow89, rfl, how89, H⟩
                    · skip
                      have c88 := bc88
                      have c88 := ne_of_beq_false c88
                      refine wp_block ?_
                      refine wp_seq ?_
                      refine wp_block ?_
                      refine wp_seq ?_
                      refine wp_block ?_
                      refine wp_seq ?_
                      refine wp_block ?_
                      refine wp_seq ?_
                      refine wp_block ?_
                      refine wp_seq ?_
                      refine wp_seq ?_
                      refine wp_seq ?_
                      refine c_region ?_
                      refine l_pure S (p_move rfl) rfl rfl rfl ?_; clear S a; intro a S
                      refine l_pure S (p_lss rfl rfl) rfl rfl rfl ?_; clear S a; intro a S
                      refine l_pure S (p_move rfl) rfl rfl rfl ?_; clear S a; intro a S
                      refine l_split (S.of 59 rfl) (fun bc91 => ?_) (fun bc91 => ?_)
                      · skip
                        have c91 := bc91
                        have c91 := of_decide_eq_true c91
                        refine l_off S rfl rfl rfl rfl bc91 rfl rfl ?_; clear S a; intro a S
                        refine l_off S rfl rfl rfl rfl bc91 rfl rfl ?_; clear S a; intro a S
                        refine l_pure S (p_pick_t rfl bc91 rfl) rfl rfl rfl ?_; clear S a; intro a S
                        refine l_pure S (p_assign rfl) rfl rfl rfl ?_; clear S a; intro a S
                        refine l_nil ?_
                        refine e_then ?_
                        refine c_cond (b := true) S rfl (fun _ => ?_) (fun h => by cases h)
                        refine wp_exit ?_
                        refine e_then_exit ?_
                        refine e_then_exit ?_
                        refine e_in_exit ?_
                        refine e_then ?_
                        refine wp_seq ?_
                        refine wp_seq ?_
                        refine c_region ?_
                        refine l_pure S (p_move rfl) rfl rfl rfl ?_; clear S a; intro a S
                        refine l_ownB [] (r := [92, 120]) S H rfl rfl rfl hOw (src_lst Tryd.underlying9 (by decide)) Tryd.underlying55 in5 rfl (by simp only [List.length_cons, List.length_nil, List.length_append]; omega) (by decide) rfl rfl rfl ?_; clear S a H; intro Aow94 cow94 ow94 w a how94 H S
                        refine l_pure S (p_assign rfl) rfl rfl rfl ?_; clear S a; intro a S
                        refine l_nil ?_
                        refine e_then ?_
                        refine wp_seq ?_
                        refine c_region ?_
                        refine l_pure S (p_move rfl) rfl rfl rfl ?_; clear S a; intro a S
                        refine l_pure S (p_move rfl) rfl rfl rfl ?_; clear S a; intro a S
                        refine l_pure S (p_conv rfl (fun w => cv_int (Tryd.underlying21) (Tryd.underlying5) (r := (r : Int)) (by rw [IntKind.wrap_u8]; omega))) rfl rfl rfl ?_; clear S a; intro a S
                        refine l_pure S (p_shr (r := ((r / 16 : Nat) : Int)) rfl rfl (by decide) (shr_u8 r)) rfl rfl rfl ?_; clear S a; intro a S
                        refine l_pure S (p_index rfl rfl (fun w => ix_string Tryd.underlying9 (by omega) (show _ < ((16 : Nat) : Int) by omega))) rfl rfl rfl ?_; clear S a; intro a S
                        rw [hxb (x := (r / 16)) (by omega)] at S
                        refine l_lit [(.tmp 76)] S H rfl rfl Tryd.underlying55 sz5 zv5 rfl rfl (by simp [Value.cells]) rfl rfl rfl ?_; clear S a H; intro g95 w a H S
                        refine l_ownB [_] (r := [(hx (r / 16))]) S H rfl rfl rfl how94 (src_lit (vs := ([(hx (r / 16))]).map (Value.int .u8)) H List.mem_cons_self Tryd.underlying55 (by simp [Value.oneCell'])) Tryd.underlying55 in5 rfl (by simp only [List.length_cons, List.length_nil, List.length_append]; omega) (by decide) rfl rfl rfl ?_; clear S a H; intro Aow96 cow96 ow96 w a how96 H S; replace H := H.tail
                        refine l_pure S (p_assign rfl) rfl rfl rfl ?_; clear S a; intro a S
                        refine l_nil ?_
                        refine e_then ?_
                        refine c_region ?_
                        refine l_pure S (p_move rfl) rfl rfl rfl ?_; clear S a; intro a S
                        refine l_pure S (p_move rfl) rfl rfl rfl ?_; clear S a; intro a S
                        refine l_pure S (p_conv rfl (fun w => cv_int (Tryd.underlying21) (Tryd.underlying5) (r := (r : Int)) (by rw [IntKind.wrap_u8]; omega))) rfl rfl rfl ?_; clear S a; intro a S
                        refine l_pure S (p_and (r := ((r % 16 : Nat) : Int)) rfl rfl (and15_8 r)) rfl rfl rfl ?_; clear S a; intro a S
                        refine l_pure S (p_index rfl rfl (fun w => ix_string Tryd.underlying9 (by omega) (show _ < ((16 : Nat) : Int) by omega))) rfl rfl rfl ?_; clear S a; intro a S
                        rw [hxb (x := (r % 16)) (by omega)] at S
                        refine l_lit [(.tmp 83)] S H rfl rfl Tryd.underlying55 sz5 zv5 rfl rfl (by simp [Value.cells]) rfl rfl rfl ?_; clear S a H; intro g97 w a H S
                        refine l_ownB [_] (r := [(hx (r % 16))]) S H rfl rfl rfl how96 (src_lit (vs := ([(hx (r % 16))]).map (Value.int .u8)) H List.mem_cons_self Tryd.underlying55 (by simp [Value.oneCell'])) Tryd.underlying55 in5 rfl (by simp only [List.length_cons, List.length_nil, List.length_append]; omega) (by decide) rfl rfl rfl ?_; clear S a H; intro Aow98 cow98 ow98 w a how98 H S; replace H := H.tail
                        refine l_pure S (p_assign rfl) rfl rfl rfl ?_; clear S a; intro a S
                        refine l_nil ?_
                        refine e_then ?_
                        refine wp_exit ?_
                        refine e_in_other rfl ?_
                        refine e_then_exit ?_
                        refine e_in_other rfl ?_
                        refine e_then_exit ?_
                        refine e_in_other rfl ?_
                        refine e_then_exit ?_
                        refine e_in_exit ?_
                        refine e_in 0 ?_
                        refine e_then ?_
                        refine wp_seq ?_
                        refine c_region ?_
                        refine l_pure S (p_move rfl) rfl rfl rfl ?_; clear S a; intro a S
                        refine l_pure S (p_assign rfl) rfl rfl rfl ?_; clear S a; intro a S
                        refine l_nil ?_
                        refine e_then ?_
                        refine wp_ret ?_
                        have hl : (((xs ++ [92, 120]) ++ [(hx (r / 16))]) ++ [(hx (r % 16))]) = xs ++ esc r := by rw [esc_x (by omega)]; simp
                        rw [hl] at S how98
                        exact r_ret1 S rfl rfl ⟨_, _, ow98, rfl, how98, H⟩
                      · skip
                        have c91 := bc91
                        have c91 := of_decide_eq_false c91
                        refine l_on S rfl rfl rfl rfl bc91 ?_
                        refine l_pure S (p_move rfl) rfl rfl rfl ?_; clear S a; intro a S
                        refine l_on S rfl rfl rfl rfl bc91 ?_
                        refine l_pure S (p_eql rfl rfl) rfl rfl rfl ?_; clear S a; intro a S
                        refine l_pure S (p_pick_f rfl bc91 rfl) rfl rfl rfl ?_; clear S a; intro a S
                        refine l_pure S (p_assign rfl) rfl rfl rfl ?_; clear S a; intro a S
                        refine l_nil ?_
                        refine e_then ?_
                        refine c_cond S rfl (fun bc100 => ?_) (fun bc100 => ?_)
                        · skip
                          have c100 := bc100
                          have c100 := eq_of_beq c100
                          refine wp_exit ?_
                          refine e_then_exit ?_
                          refine e_then_exit ?_
                          refine e_in_exit ?_
                          refine e_then ?_
                          refine wp_seq ?_
                          refine wp_seq ?_
                          refine c_region ?_
                          refine l_pure S (p_move rfl) rfl rfl rfl ?_; clear S a; intro a S
                          refine l_ownB [] (r := [92, 120]) S H rfl rfl rfl hOw (src_lst Tryd.underlying9 (by decide)) Tryd.underlying55 in5 rfl (by simp only [List.length_cons, List.length_nil, List.length_append]; omega) (by decide) rfl rfl rfl ?_; clear S a H; intro Aow101 cow101 ow101 w a how101 H S
                          refine l_pure S (p_assign rfl) rfl rfl rfl ?_; clear S a; intro a S
                          refine l_nil ?_
                          refine e_then ?_
                          refine wp_seq ?_
                          refine c_region ?_
                          refine l_pure S (p_move rfl) rfl rfl rfl ?_; clear S a; intro a S
                          refine l_pure S (p_move rfl) rfl rfl rfl ?_; clear S a; intro a S
                          refine l_pure S (p_conv rfl (fun w => cv_int (Tryd.underlying21) (Tryd.underlying5) (r := (r : Int)) (by rw [IntKind.wrap_u8]; omega))) rfl rfl rfl ?_; clear S a; intro a S
                          refine l_pure S (p_shr (r := ((r / 16 : Nat) : Int)) rfl rfl (by decide) (shr_u8 r)) rfl rfl rfl ?_; clear S a; intro a S
                          refine l_pure S (p_index rfl rfl (fun w => ix_string Tryd.underlying9 (by omega) (show _ < ((16 : Nat) : Int) by omega))) rfl rfl rfl ?_; clear S a; intro a S
                          rw [hxb (x := (r / 16)) (by omega)] at S
                          refine l_lit [(.tmp 76)] S H rfl rfl Tryd.underlying55 sz5 zv5 rfl rfl (by simp [Value.cells]) rfl rfl rfl ?_; clear S a H; intro g102 w a H S
                          refine l_ownB [_] (r := [(hx (r / 16))]) S H rfl rfl rfl how101 (src_lit (vs := ([(hx (r / 16))]).map (Value.int .u8)) H List.mem_cons_self Tryd.underlying55 (by simp [Value.oneCell'])) Tryd.underlying55 in5 rfl (by simp only [List.length_cons, List.length_nil, List.length_append]; omega) (by decide) rfl rfl rfl ?_; clear S a H; intro Aow103 cow103 ow103 w a how103 H S; replace H := H.tail
                          refine l_pure S (p_assign rfl) rfl rfl rfl ?_; clear S a; intro a S
                          refine l_nil ?_
                          refine e_then ?_
                          refine c_region ?_
                          refine l_pure S (p_move rfl) rfl rfl rfl ?_; clear S a; intro a S
                          refine l_pure S (p_move rfl) rfl rfl rfl ?_; clear S a; intro a S
                          refine l_pure S (p_conv rfl (fun w => cv_int (Tryd.underlying21) (Tryd.underlying5) (r := (r : Int)) (by rw [IntKind.wrap_u8]; omega))) rfl rfl rfl ?_; clear S a; intro a S
                          refine l_pure S (p_and (r := ((r % 16 : Nat) : Int)) rfl rfl (and15_8 r)) rfl rfl rfl ?_; clear S a; intro a S
                          refine l_pure S (p_index rfl rfl (fun w => ix_string Tryd.underlying9 (by omega) (show _ < ((16 : Nat) : Int) by omega))) rfl rfl rfl ?_; clear S a; intro a S
                          rw [hxb (x := (r % 16)) (by omega)] at S
                          refine l_lit [(.tmp 83)] S H rfl rfl Tryd.underlying55 sz5 zv5 rfl rfl (by simp [Value.cells]) rfl rfl rfl ?_; clear S a H; intro g104 w a H S
                          refine l_ownB [_] (r := [(hx (r % 16))]) S H rfl rfl rfl how103 (src_lit (vs := ([(hx (r % 16))]).map (Value.int .u8)) H List.mem_cons_self Tryd.underlying55 (by simp [Value.oneCell'])) Tryd.underlying55 in5 rfl (by simp only [List.length_cons, List.length_nil, List.length_append]; omega) (by decide) rfl rfl rfl ?_; clear S a H; intro Aow105 cow105 ow105 w a how105 H S; replace H := H.tail
                          refine l_pure S (p_assign rfl) rfl rfl rfl ?_; clear S a; intro a S
                          refine l_nil ?_
                          refine e_then ?_
                          refine wp_exit ?_
                          refine e_in_other rfl ?_
                          refine e_then_exit ?_
                          refine e_in_other rfl ?_
                          refine e_then_exit ?_
                          refine e_in_other rfl ?_
                          refine e_then_exit ?_
                          refine e_in_exit ?_
                          refine e_in 0 ?_
                          refine e_then ?_
                          refine wp_seq ?_
                          refine c_region ?_
                          refine l_pure S (p_move rfl) rfl rfl rfl ?_; clear S a; intro a S
                          refine l_pure S (p_assign rfl) rfl rfl rfl ?_; clear S a; intro a S
                          refine l_nil ?_
                          refine e_then ?_
                          refine wp_ret ?_
                          have hl : (((xs ++ [92, 120]) ++ [(hx (r / 16))]) ++ [(hx (r % 16))]) = xs ++ esc r := by rw [esc_x (by omega)]; simp
                          rw [hl] at S how105
                          exact r_ret1 S rfl rfl ⟨_, _, ow105, rfl, how105, H⟩
                        · skip
                          have c100 := bc100
                          have c100 := ne_of_beq_false c100
                          refine wp_skip ?_
                          refine e_then ?_
                          refine wp_seq ?_
                          refine wp_seq ?_
                          refine c_region ?_
                          refine l_pure S (p_move rfl) rfl rfl rfl ?_; clear S a; intro a S
                          refine l_call S rfl rfl Tryd.func97 rfl rfl (vrune_ _ r hr) rfl rfl rfl ?_
                          rintro e w ⟨rfl, hb⟩
                          refine ⟨_, rfl, ?_⟩; clear S a; intro a S
                          replace H := H.later hb; clear hb
                          refine l_pure S (p_not rfl) rfl rfl rfl ?_; clear S a; intro a S
                          refine l_pure S (p_assign rfl) rfl rfl rfl ?_; clear S a; intro a S
                          refine l_nil ?_
                          refine e_then ?_
                          refine c_cond (b := false) S rfl (fun h => by cases h) (fun _ => ?_)
                          refine wp_skip ?_
                          refine e_then ?_
                          refine wp_seq ?_
                          refine c_region ?_
                          refine l_pure S (p_move rfl) rfl rfl rfl ?_; clear S a; intro a S
                          refine l_pure S (p_lss rfl rfl) rfl rfl rfl ?_; clear S a; intro a S
                          refine l_pure S (p_assign rfl) rfl rfl rfl ?_; clear S a; intro a S
                          refine l_nil ?_
                          refine e_then ?_
                          refine c_cond S rfl (fun bc110 => ?_) (fun bc110 => ?_)
                          · skip
                            have c110 := bc110
                            have c110 := of_decide_eq_true c110
                            refine wp_exit ?_
                            refine e_then_exit ?_
                            refine e_in_other rfl ?_
                            refine e_then_exit ?_
                            refine e_in_other rfl ?_
                            refine e_then_exit ?_
                            refine e_in_exit ?_
                            refine e_then ?_
                            refine wp_seq ?_
                            refine wp_seq ?_
                            refine c_region ?_
                            refine l_pure S (p_move rfl) rfl rfl rfl ?_; clear S a; intro a S
                            refine l_ownB [] (r := [92, 117]) S H rfl rfl rfl hOw (src_lst Tryd.underlying9 (by decide)) Tryd.underlying55 in5 rfl (by simp only [List.length_cons, List.length_nil, List.length_append]; omega) (by decide) rfl rfl rfl ?_; clear S a H; intro Aow111 cow111 ow111 w a how111 H S
                            refine l_pure S (p_assign rfl) rfl rfl rfl ?_; clear S a; intro a S
                            refine l_nil ?_
                            refine e_then ?_
                            refine wp_seq ?_
                            refine c_region ?_
                            refine l_pure S (p_assign rfl) rfl rfl rfl ?_; clear S a; intro a S
                            refine l_nil ?_
                            refine e_then ?_
                            refine wp_block ?_
                            obtain ⟨ys, hys⟩ : ∃ ys, ys = (xs ++ [92, 117]) := ⟨_, rfl⟩
                            have hyl : ys.length = xs.length + 2 := by rw [hys]; simp
                            have hE0 : OwnB 5 (.slice Aow111 (ys ++ (hexl 4 r).take 0).length cow111) (ys ++ (hexl 4 r).take 0) ow111 := by rw [List.take_zero, List.append_nil, hys]; exact how111
                            rw [show (xs ++ [92, 117]) = (ys ++ (hexl 4 r).take 0) by rw [List.take_zero, List.append_nil, hys]] at S
                            refine c_loop (σ := Nat × Option Addr × Nat × List (Nat × Obj)) (fun s_ a w => match s_ with | ⟨i, A, c, E⟩ => SL a 145 [] [(0, .slice A (ys ++ (hexl 4 r).take i).length c), (1, .int .i32 (r : Int)), (11, .int .i64 (12 - 4 * (i : Int)))] ∧ HH (B) wb w (E ++ L0) ∧ (i ≤ 4 ∧ OwnB 5 (.slice A (ys ++ (hexl 4 r).take i).length c) (ys ++ (hexl 4 r).take i) E)) (fun s_ => match s_ with | ⟨i, A, c, E⟩ => 4 - i) ⟨0, Aow111, cow111, ow111⟩ ⟨S.only ⟨rfl, rfl, rfl, trivial⟩, H, ⟨by omega, hE0⟩⟩ ?_
                            clear S a H; rintro ⟨i, A, c, E⟩ a w ⟨S, H, hinv⟩
                            obtain ⟨hi, hE⟩ := hinv
                            have htl : ((hexl 4 r).take i).length = i := by rw [List.length_take, hexl_len]; omega
                            refine wp_seq ?_
                            refine wp_seq ?_
                            refine c_region ?_
                            refine l_pure S (p_move rfl) rfl rfl rfl ?_; clear S a; intro a S
                            refine l_pure S (p_geq rfl rfl) rfl rfl rfl ?_; clear S a; intro a S
                            refine l_nil ?_
                            refine e_then ?_
                            refine c_cond S rfl (fun bc113 => ?_) (fun bc113 => ?_)
                            · skip
                              have c113 := bc113
                              have c113 := of_decide_eq_true c113
                              refine wp_skip ?_
                              refine e_then ?_
                              refine wp_seq ?_
                              refine wp_block ?_
                              refine c_region ?_
                              refine l_pure S (p_move rfl) rfl rfl rfl ?_; clear S a; intro a S
                              refine l_pure S (p_move rfl) rfl rfl rfl ?_; clear S a; intro a S
                              refine l_pure S (p_move rfl) rfl rfl rfl ?_; clear S a; intro a S
                              refine l_pure S (p_conv rfl (fun w => cv_int (Tryd.underlying3) (Tryd.underlying185) (r := ((4 * (3 - i) : Nat) : Int)) (by rw [IntKind.wrap_u64]; omega))) rfl rfl rfl ?_; clear S a; intro a S
                              refine l_pure S (p_shr (r := ((r / 16 ^ (3 - i) : Nat) : Int)) rfl rfl (by omega) (shr_4j (by show _ ≤ 32; omega))) rfl rfl rfl ?_; clear S a; intro a S
                              refine l_pure S (p_and (r := ((r / 16 ^ (3 - i) % 16 : Nat) : Int)) rfl rfl (and15_i32 _)) rfl rfl rfl ?_; clear S a; intro a S
                              refine l_pure S (p_index rfl rfl (fun w => ix_string Tryd.underlying9 (by omega) (show _ < ((16 : Nat) : Int) by have := Nat.mod_lt (r / 16 ^ (3 - i)) (show 0 < 16 by decide); omega))) rfl rfl rfl ?_; clear S a; intro a S
                              rw [hxb (x := (r / 16 ^ (3 - i) % 16)) (Nat.mod_lt _ (by decide))] at S
                              refine l_lit [(.tmp 98)] S H rfl rfl Tryd.underlying55 sz5 zv5 rfl rfl (by simp [Value.cells]) rfl rfl rfl ?_; clear S a H; intro g114 w a H S
                              refine l_ownB [_] (r := [(hx (r / 16 ^ (3 - i) % 16))]) S H rfl rfl rfl hE (src_lit (vs := ([(hx (r / 16 ^ (3 - i) % 16))]).map (Value.int .u8)) H List.mem_cons_self Tryd.underlying55 (by simp [Value.oneCell'])) Tryd.underlying55 in5 rfl (by simp only [List.length_cons, List.length_nil, List.length_append]; omega) (by decide) rfl rfl rfl ?_; clear S a H; intro Aow115 cow115 ow115 w a how115 H S; replace H := H.tail
                              refine l_pure S (p_assign rfl) rfl rfl rfl ?_; clear S a; intro a S
                              refine l_nil ?_
                              refine e_in 7 ?_
                              refine e_then ?_
                              refine c_region ?_
                              refine l_pure S (p_move rfl) rfl rfl rfl ?_; clear S a; intro a S
                              have hcl : ((ys ++ (hexl 4 r).take i) ++ [(hx (r / 16 ^ (3 - i) % 16))]) = ys ++ (hexl 4 r).take (i + 1) := by rw [hexl_take 4 r (show i < 4 by omega), List.append_assoc, show 4 - 1 - i = 3 - i by omega]
                              rw [hcl] at S how115
                              have hNEXT := how115
                              refine l_pure S (p_sub (r := 12 - 4 * ((i + 1 : Nat) : Int)) rfl rfl ((IntWalk.i64_in _ (by omega)).trans (by omega))) rfl rfl rfl ?_; clear S a; intro a S
                              refine l_pure S (p_assign rfl) rfl rfl rfl ?_; clear S a; intro a S
                              refine l_nil ?_
                              refine e_then ?_
                              exact ⟨⟨i + 1, Aow115, cow115, ow115⟩, ⟨S.only ⟨rfl, rfl, rfl, trivial⟩, H, ⟨by omega, hNEXT⟩⟩, (show 4 - (i + 1) < 4 - i by omega)⟩
                            · skip
                              have c113 := bc113
                              have c113 := of_decide_eq_false c113
                              refine wp_exit ?_
                              refine e_then_exit ?_
                              refine e_then_exit ?_
                              refine e_in_exit ?_
                              refine e_then ?_
                              refine wp_exit ?_
                              refine e_in_other rfl ?_
                              refine e_then_exit ?_
                              refine e_in_exit ?_
                              refine e_in 0 ?_
                              refine e_then ?_
                              refine wp_seq ?_
                              refine c_region ?_
                              refine l_pure S (p_move rfl) rfl rfl rfl ?_; clear S a; intro a S
                              refine l_pure S (p_assign rfl) rfl rfl rfl ?_; clear S a; intro a S
                              refine l_nil ?_
                              refine e_then ?_
                              refine wp_ret ?_
                              have hl : (ys ++ (hexl 4 r).take i) = xs ++ esc r := by rw [show i = 4 by omega, List.take_of_length_le (by rw [hexl_len]; exact Nat.le_refl _), esc_u (by omega), hys, List.append_assoc]
                              rw [hl] at S hE
                              exact r_ret1 S rfl rfl ⟨_, _, E, rfl, hE, H⟩
                          · skip
                            have c110 := bc110
                            have c110 := of_decide_eq_false c110
                            refine wp_skip ?_
                            refine e_then ?_
                            refine wp_exit ?_
                            refine e_in_other rfl ?_
                            refine e_then_exit ?_
                            refine e_in_other rfl ?_
                            refine e_then_exit ?_
                            refine e_in_other rfl ?_
                            refine e_then_exit ?_
                            refine e_in_exit ?_
                            refine e_then ?_
                            refine wp_seq ?_
                            refine wp_seq ?_
                            refine c_region ?_
                            refine l_pure S (p_move rfl) rfl rfl rfl ?_; clear S a; intro a S
                            refine l_ownB [] (r := [92, 85]) S H rfl rfl rfl hOw (src_lst Tryd.underlying9 (by decide)) Tryd.underlying55 in5 rfl (by simp only [List.length_cons, List.length_nil, List.length_append]; omega) (by decide) rfl rfl rfl ?_; clear S a H; intro Aow116 cow116 ow116 w a how116 H S
                            refine l_pure S (p_assign rfl) rfl rfl rfl ?_; clear S a; intro a S
                            refine l_nil ?_
                            refine e_then ?_
                            refine wp_seq ?_
                            refine c_region ?_
                            refine l_pure S (p_assign rfl) rfl rfl rfl ?_; clear S a; intro a S
                            refine l_nil ?_
                            refine e_then ?_
                            refine wp_block ?_
                            obtain ⟨ys, hys⟩ : ∃ ys, ys = (xs ++ [92, 85]) := ⟨_, rfl⟩
                            have hyl : ys.length = xs.length + 2 := by rw [hys]; simp
                            have hE0 : OwnB 5 (.slice Aow116 (ys ++ (hexl 8 r).take 0).length cow116) (ys ++ (hexl 8 r).take 0) ow116 := by rw [List.take_zero, List.append_nil, hys]; exact how116
                            rw [show (xs ++ [92, 85]) = (ys ++ (hexl 8 r).take 0) by rw [List.take_zero, List.append_nil, hys]] at S
                            refine c_loop (σ := Nat × Option Addr × Nat × List (Nat × Obj)) (fun s_ a w => match s_ with | ⟨i, A, c, E⟩ => SL a 145 [] [(0, .slice A (ys ++ (hexl 8 r).take i).length c), (1, .int .i32 (r : Int)), (12, .int .i64 (28 - 4 * (i : Int)))] ∧ HH (B) wb w (E ++ L0) ∧ (i ≤ 8 ∧ OwnB 5 (.slice A (ys ++ (hexl 8 r).take i).length c) (ys ++ (hexl 8 r).take i) E)) (fun s_ => match s_ with | ⟨i, A, c, E⟩ => 8 - i) ⟨0, Aow116, cow116, ow116⟩ ⟨S.only ⟨rfl, rfl, rfl, trivial⟩, H, ⟨by omega, hE0⟩⟩ ?_
                            clear S a H; rintro ⟨i, A, c, E⟩ a w ⟨S, H, hinv⟩
                            obtain ⟨hi, hE⟩ := hinv
                            have htl : ((hexl 8 r).take i).length = i := by rw [List.length_take, hexl_len]; omega
                            refine wp_seq ?_
                            refine wp_seq ?_
                            refine c_region ?_
                            refine l_pure S (p_move rfl) rfl rfl rfl ?_; clear S a; intro a S
                            refine l_pure S (p_geq rfl rfl) rfl rfl rfl ?_; clear S a; intro a S
                            refine l_nil ?_
                            refine e_then ?_
                            refine c_cond S rfl (fun bc118 => ?_) (fun bc118 => ?_)
                            · skip
                              have c118 := bc118
                              have c118 := of_decide_eq_true c118
                              refine wp_skip ?_
                              refine e_then ?_
                              refine wp_seq ?_
                              refine wp_block ?_
                              refine c_region ?_
                              refine l_pure S (p_move rfl) rfl rfl rfl ?_; clear S a; intro a S
                              refine l_pure S (p_move rfl) rfl rfl rfl ?_; clear S a; intro a S
                              refine l_pure S (p_move rfl) rfl rfl rfl ?_; clear S a; intro a S
                              refine l_pure S (p_conv rfl (fun w => cv_int (Tryd.underlying3) (Tryd.underlying185) (r := ((4 * (7 - i) : Nat) : Int)) (by rw [IntKind.wrap_u64]; omega))) rfl rfl rfl ?_; clear S a; intro a S
                              refine l_pure S (p_shr (r := ((r / 16 ^ (7 - i) : Nat) : Int)) rfl rfl (by omega) (shr_4j (by show _ ≤ 32; omega))) rfl rfl rfl ?_; clear S a; intro a S
                              refine l_pure S (p_and (r := ((r / 16 ^ (7 - i) % 16 : Nat) : Int)) rfl rfl (and15_i32 _)) rfl rfl rfl ?_; clear S a; intro a S
                              refine l_pure S (p_index rfl rfl (fun w => ix_string Tryd.underlying9 (by omega) (show _ < ((16 : Nat) : Int) by have := Nat.mod_lt (r / 16 ^ (7 - i)) (show 0 < 16 by decide); omega))) rfl rfl rfl ?_; clear S a; intro a S
                              rw [hxb (x := (r / 16 ^ (7 - i) % 16)) (Nat.mod_lt _ (by decide))] at S
                              refine l_lit [(.tmp 113)] S H rfl rfl Tryd.underlying55 sz5 zv5 rfl rfl (by simp [Value.cells]) rfl rfl rfl ?_; clear S a H; intro g119 w a H S
                              refine l_ownB [_] (r := [(hx (r / 16 ^ (7 - i) % 16))]) S H rfl rfl rfl hE (src_lit (vs := ([(hx (r / 16 ^ (7 - i) % 16))]).map (Value.int .u8)) H List.mem_cons_self Tryd.underlying55 (by simp [Value.oneCell'])) Tryd.underlying55 in5 rfl (by simp only [List.length_cons, List.length_nil, List.length_append]; omega) (by decide) rfl rfl rfl ?_; clear S a H; intro Aow120 cow120 ow120 w a how120 H S; replace H := H.tail
                              refine l_pure S (p_assign rfl) rfl rfl rfl ?_; clear S a; intro a S
                              refine l_nil ?_
                              refine e_in 9 ?_
                              refine e_then ?_
                              refine c_region ?_
                              refine l_pure S (p_move rfl) rfl rfl rfl ?_; clear S a; intro a S
                              have hcl : ((ys ++ (hexl 8 r).take i) ++ [(hx (r / 16 ^ (7 - i) % 16))]) = ys ++ (hexl 8 r).take (i + 1) := by rw [hexl_take 8 r (show i < 8 by omega), List.append_assoc, show 8 - 1 - i = 7 - i by omega]
                              rw [hcl] at S how120
                              have hNEXT := how120
                              refine l_pure S (p_sub (r := 28 - 4 * ((i + 1 : Nat) : Int)) rfl rfl ((IntWalk.i64_in _ (by omega)).trans (by omega))) rfl rfl rfl ?_; clear S a; intro a S
                              refine l_pure S (p_assign rfl) rfl rfl rfl ?_; clear S a; intro a S
                              refine l_nil ?_
                              refine e_then ?_
                              exact ⟨⟨i + 1, Aow120, cow120, ow120⟩, ⟨S.only ⟨rfl, rfl, rfl, trivial⟩, H, ⟨by omega, hNEXT⟩⟩, (show 8 - (i + 1) < 8 - i by omega)⟩
                            · skip
                              have c118 := bc118
                              have c118 := of_decide_eq_false c118
                              refine wp_exit ?_
                              refine e_then_exit ?_
                              refine e_then_exit ?_
                              refine e_in_exit ?_
                              refine e_then ?_
                              refine wp_exit ?_
                              refine e_in_exit ?_
                              refine e_in 0 ?_
                              refine e_then ?_
                              refine wp_seq ?_
                              refine c_region ?_
                              refine l_pure S (p_move rfl) rfl rfl rfl ?_; clear S a; intro a S
                              refine l_pure S (p_assign rfl) rfl rfl rfl ?_; clear S a; intro a S
                              refine l_nil ?_
                              refine e_then ?_
                              refine wp_ret ?_
                              have hl : (ys ++ (hexl 8 r).take i) = xs ++ esc r := by rw [show i = 8 by omega, List.take_of_length_le (by rw [hexl_len]; exact Nat.le_refl _), esc_U (by omega), hys, List.append_assoc]
                              rw [hl] at S hE
                              exact r_ret1 S rfl rfl ⟨_, _, E, rfl, hE, H⟩
set_option maxHeartbeats 1000000 in
theorem appq_ (wb w0 : World) (B : Nat) (L0 : List (Nat × Obj)) (E : List (Nat × Obj)) (A : Option Addr) (c : Nat) (s : ByteArray) (hs : s.size ≤ 1000) (hc : s.size ≤ c) (hcm : c ≤ 1000000) (hOw : OwnB 5 (.slice A ([] : List Int).length c) [] E) (hT : ∀ w, Below B wb w → li.Tabs w) (H : HH B wb w0 (E ++ L0)) : Calls Tryd.prog 85 #[.slice A ([] : List Int).length c, .string s, .int .u8 34, .bool true, .bool false] w0 fun e w' => ∃ A' c' E', e = .returned (.slice A' (quo s).length c') ∧ OwnB 5 (.slice A' (quo s).length c') (quo s) E' ∧ HH B wb w' (E' ++ L0) := by
  have hs0 : s = s.extract 0 s.size := (ByteArray.extract_zero_size).symm
  refine c_enter (args := [.slice A ([] : List Int).length c, .string s, .int .u8 34, .bool true, .bool false]) (k := 79) Tryd.func85 rfl rfl rfl (fun a S => ?_)
  refine wp_seq ?_
  refine c_region ?_
  refine l_pure S (p_assign rfl) rfl rfl rfl ?_; clear S a; intro a S
  refine l_nil ?_
  refine e_then ?_
  refine wp_seq ?_
  refine wp_seq ?_
  refine c_region ?_
  refine l_pure S (p_move rfl) rfl rfl rfl ?_; clear S a; intro a S
  refine l_pure S (p_cap Tryd.underlying55 rfl) rfl rfl rfl ?_; clear S a; intro a S
  refine l_pure S (p_move rfl) rfl rfl rfl ?_; clear S a; intro a S
  refine l_pure S (p_len Tryd.underlying55 rfl) rfl rfl rfl ?_; clear S a; intro a S
  refine l_pure S (p_sub rfl rfl (nat_sub (x := c) (y := 0) (by omega) (by omega))) rfl rfl rfl ?_; clear S a; intro a S
  refine l_pure S (p_move rfl) rfl rfl rfl ?_; clear S a; intro a S
  refine l_pure S (p_lens Tryd.underlying9 rfl) rfl rfl rfl ?_; clear S a; intro a S
  refine l_pure S (p_lss rfl rfl) rfl rfl rfl ?_; clear S a; intro a S
  refine l_nil ?_
  refine e_then ?_
  refine c_cond S rfl (fun c2 => by have c2 := of_decide_eq_true c2; exfalso; omega) (fun c2 => ?_)
  have c2 := of_decide_eq_false c2
  refine wp_skip ?_
  refine e_then ?_
  refine wp_seq ?_
  refine c_region ?_
  refine l_pure S (p_move rfl) rfl rfl rfl ?_; clear S a; intro a S
  refine l_pure S (p_move rfl) rfl rfl rfl ?_; clear S a; intro a S
  refine l_lit [(.tmp 37)] S H rfl rfl Tryd.underlying55 sz5 zv5 rfl rfl (by simp [Value.cells]) rfl rfl rfl ?_; clear S a H; intro g3 w a H S
  refine l_ownB [_] (r := [34]) S H rfl rfl rfl hOw (src_lit (vs := ([34]).map (Value.int .u8)) H List.mem_cons_self Tryd.underlying55 (by simp [Value.oneCell'])) Tryd.underlying55 in5 rfl (by simp only [List.length_cons, List.length_nil, List.length_append]; omega) (by decide) rfl rfl rfl ?_; clear S a H; intro Aow4 cow4 ow4 w a how4 H S; replace H := H.tail
  refine l_pure S (p_assign rfl) rfl rfl rfl ?_; clear S a; intro a S
  refine l_nil ?_
  refine e_then ?_
  refine wp_seq ?_
  refine wp_seq ?_
  refine c_region ?_
  refine l_pure S (p_assign rfl) rfl rfl rfl ?_; clear S a; intro a S
  refine l_pure S (p_assign rfl) rfl rfl rfl ?_; clear S a; intro a S
  refine l_nil ?_
  refine e_then ?_
  refine wp_block ?_
  have hE0 : OwnB 5 (.slice Aow4 ([34] ++ ([] : List Int)).length cow4) ([34] ++ []) ow4 := how4
  rw [show ([] ++ [34] : List Int) = [34] ++ [] from rfl] at S
  refine c_loop (σ := Nat × ByteArray × Option Addr × Nat × List (Nat × Obj) × List Int) (fun s_ a w => match s_ with | ⟨p, t, A, c, E, dn⟩ => SL a 84 [] [(0, .slice A ([34] ++ dn).length c), (1, .string t), (2, .int .u8 34), (3, .bool true), (4, .bool false)] ∧ HH (B) wb w (E ++ L0) ∧ (p ≤ s.size ∧ t = s.extract p s.size ∧ dn ++ qt s p = qt s 0 ∧ OwnB 5 (.slice A ([34] ++ dn).length c) ([34] ++ dn) E)) (fun s_ => match s_ with | ⟨p, t, A, c, E, dn⟩ => s.size - p) ⟨0, s, Aow4, cow4, ow4, []⟩ ⟨S.only ⟨rfl, rfl, rfl, rfl, rfl, trivial⟩, H, ⟨Nat.zero_le _, hs0, rfl, hE0⟩⟩ ?_
  clear S a H; rintro ⟨p, t, A, c, E, dn⟩ a w ⟨S, H, hinv⟩
  obtain ⟨hp, ht, hdn, hE⟩ := hinv
  subst ht
  have hsz : (s.extract p s.size).size = s.size - p := ext_size
  have hql := qt_len s 0
  have hdl : dn.length ≤ (qt s 0).length := by rw [← hdn]; simp
  refine wp_seq ?_
  refine wp_seq ?_
  refine c_region ?_
  refine l_pure S (p_move rfl) rfl rfl rfl ?_; clear S a; intro a S
  refine l_pure S (p_lens Tryd.underlying9 rfl) rfl rfl rfl ?_; clear S a; intro a S
  refine l_pure S (p_gtr rfl rfl) rfl rfl rfl ?_; clear S a; intro a S
  refine l_nil ?_
  refine e_then ?_
  refine c_cond S rfl (fun bc6 => ?_) (fun bc6 => ?_)
  · skip
    have c6 := bc6
    have c6 := of_decide_eq_true c6
    refine wp_skip ?_
    refine e_then ?_
    refine wp_seq ?_
    refine wp_block ?_
    refine wp_seq ?_
    refine c_region ?_
    refine l_pure S (p_move rfl) rfl rfl rfl ?_; clear S a; intro a S
    have hlt : p < s.size := by omega
    have hwp := Lib.width_pos s p
    have hwl := dec_le hlt
    have hrv := dec_valid s p
    have hcon := li.decode_ (s.extract p s.size) _ (hT _ H.below)
    rw [Lib.decodeGo_extract s p hlt] at hcon
    refine l_call S rfl rfl Tryd.func80 rfl rfl (hcon) rfl rfl rfl ?_
    rintro e w ⟨rfl, hb⟩
    refine ⟨_, rfl, ?_⟩; clear S a; intro a S
    replace H := H.later hb; clear hb hcon
    refine l_pure S (p_move rfl) rfl rfl rfl ?_; clear S a; intro a S
    refine l_pure S (p_extract rfl rfl) rfl rfl rfl ?_; clear S a; intro a S
    refine l_pure S (p_extract rfl rfl) rfl rfl rfl ?_; clear S a; intro a S
    refine l_pure S (p_assign rfl) rfl rfl rfl ?_; clear S a; intro a S
    refine l_pure S (p_assign rfl) rfl rfl rfl ?_; clear S a; intro a S
    refine l_nil ?_
    refine e_then ?_
    refine wp_seq ?_
    refine wp_seq ?_
    refine c_region ?_
    refine l_pure S (p_move rfl) rfl rfl rfl ?_; clear S a; intro a S
    refine l_pure S (p_eql rfl rfl) rfl rfl rfl ?_; clear S a; intro a S
    refine l_pure S (p_move rfl) rfl rfl rfl ?_; clear S a; intro a S
    refine l_split (S.of 53 rfl) (fun bc8 => ?_) (fun bc8 => ?_)
    · skip
      have c8 := bc8
      have c8 := eq_of_beq c8
      refine l_on S rfl rfl rfl rfl bc8 ?_
      refine l_pure S (p_move rfl) rfl rfl rfl ?_; clear S a; intro a S
      refine l_on S rfl rfl rfl rfl bc8 ?_
      refine l_pure S (p_eql rfl rfl) rfl rfl rfl ?_; clear S a; intro a S
      refine l_pure S (p_pick_t rfl bc8 rfl) rfl rfl rfl ?_; clear S a; intro a S
      refine l_nil ?_
      refine e_then ?_
      refine c_cond S rfl (fun bc10 => ?_) (fun bc10 => ?_)
      · skip
        have c10 := bc10
        have c10 := eq_of_beq c10
        refine wp_seq ?_
        refine c_region ?_
        refine l_pure S (p_move rfl) rfl rfl rfl ?_; clear S a; intro a S
        refine l_ownB [] (r := [92, 120]) S H rfl rfl rfl hE (src_lst Tryd.underlying9 (by decide)) Tryd.underlying55 in5 rfl (by simp only [List.length_cons, List.length_nil, List.length_append]; omega) (by decide) rfl rfl rfl ?_; clear S a H; intro Aow11 cow11 ow11 w a how11 H S
        refine l_pure S (p_assign rfl) rfl rfl rfl ?_; clear S a; intro a S
        refine l_nil ?_
        refine e_then ?_
        refine wp_seq ?_
        refine c_region ?_
        refine l_pure S (p_move rfl) rfl rfl rfl ?_; clear S a; intro a S
        refine l_pure S (p_move rfl) rfl rfl rfl ?_; clear S a; intro a S
        refine l_pure S (p_index rfl rfl (fun w => ix_string Tryd.underlying9 (by omega) (by omega))) rfl rfl rfl ?_; clear S a; intro a S
        rw [bt_ext hlt] at S
        have hbl : (s.get! p).toNat < 256 := (s.get! p).toNat_lt
        refine l_pure S (p_shr (r := (((s.get! p).toNat / 16 : Nat) : Int)) rfl rfl (by decide) (shr_u8 _)) rfl rfl rfl ?_; clear S a; intro a S
        refine l_pure S (p_index rfl rfl (fun w => ix_string Tryd.underlying9 (by omega) (show _ < ((16 : Nat) : Int) by omega))) rfl rfl rfl ?_; clear S a; intro a S
        rw [hxb (x := ((s.get! p).toNat / 16)) (by omega)] at S
        refine l_lit [(.tmp 63)] S H rfl rfl Tryd.underlying55 sz5 zv5 rfl rfl (by simp [Value.cells]) rfl rfl rfl ?_; clear S a H; intro g12 w a H S
        refine l_ownB [_] (r := [(hx ((s.get! p).toNat / 16))]) S H rfl rfl rfl how11 (src_lit (vs := ([(hx ((s.get! p).toNat / 16))]).map (Value.int .u8)) H List.mem_cons_self Tryd.underlying55 (by simp [Value.oneCell'])) Tryd.underlying55 in5 rfl (by simp only [List.length_cons, List.length_nil, List.length_append]; omega) (by decide) rfl rfl rfl ?_; clear S a H; intro Aow13 cow13 ow13 w a how13 H S; replace H := H.tail
        refine l_pure S (p_assign rfl) rfl rfl rfl ?_; clear S a; intro a S
        refine l_nil ?_
        refine e_then ?_
        refine wp_seq ?_
        refine c_region ?_
        refine l_pure S (p_move rfl) rfl rfl rfl ?_; clear S a; intro a S
        refine l_pure S (p_move rfl) rfl rfl rfl ?_; clear S a; intro a S
        refine l_pure S (p_index rfl rfl (fun w => ix_string Tryd.underlying9 (by omega) (by omega))) rfl rfl rfl ?_; clear S a; intro a S
        rw [bt_ext hlt] at S
        have hbl : (s.get! p).toNat < 256 := (s.get! p).toNat_lt
        refine l_pure S (p_and (r := (((s.get! p).toNat % 16 : Nat) : Int)) rfl rfl (and15_8 _)) rfl rfl rfl ?_; clear S a; intro a S
        refine l_pure S (p_index rfl rfl (fun w => ix_string Tryd.underlying9 (by omega) (show _ < ((16 : Nat) : Int) by omega))) rfl rfl rfl ?_; clear S a; intro a S
        rw [hxb (x := ((s.get! p).toNat % 16)) (by omega)] at S
        refine l_lit [(.tmp 70)] S H rfl rfl Tryd.underlying55 sz5 zv5 rfl rfl (by simp [Value.cells]) rfl rfl rfl ?_; clear S a H; intro g14 w a H S
        refine l_ownB [_] (r := [(hx ((s.get! p).toNat % 16))]) S H rfl rfl rfl how13 (src_lit (vs := ([(hx ((s.get! p).toNat % 16))]).map (Value.int .u8)) H List.mem_cons_self Tryd.underlying55 (by simp [Value.oneCell'])) Tryd.underlying55 in5 rfl (by simp only [List.length_cons, List.length_nil, List.length_append]; omega) (by decide) rfl rfl rfl ?_; clear S a H; intro Aow15 cow15 ow15 w a how15 H S; replace H := H.tail
        refine l_pure S (p_assign rfl) rfl rfl rfl ?_; clear S a; intro a S
        refine l_nil ?_
        refine e_then ?_
        refine wp_exit ?_
        refine e_then_exit ?_
        refine e_in_exit ?_
        refine e_then ?_
        refine c_region ?_
        refine l_pure S (p_move rfl) rfl rfl rfl ?_; clear S a; intro a S
        refine l_pure S (p_move rfl) rfl rfl rfl ?_; clear S a; intro a S
        have hcl : (((([34] ++ dn) ++ [92, 120]) ++ [(hx ((s.get! p).toNat / 16))]) ++ [(hx ((s.get! p).toNat % 16))]) = [34] ++ (dn ++ qr s p) := by unfold qr; rw [if_pos ⟨by omega, by omega⟩, hexl_two (by omega)]; simp
        rw [hcl] at S how15
        have hNEXT := how15
        refine l_pure S (p_slice rfl (o_some rfl) (fun _ _ => o_none) (fun _ _ => o_none) (fun w => sl_string_lo Tryd.underlying9 (by omega) (by omega))) rfl rfl rfl ?_; clear S a; intro a S
        rw [Int.toNat_natCast, ext_more] at S
        refine l_pure S (p_assign rfl) rfl rfl rfl ?_; clear S a; intro a S
        refine l_nil ?_
        refine e_then ?_
        exact ⟨⟨p + (Utf8.decode s p).2, _, Aow15, cow15, ow15, dn ++ qr s p⟩, ⟨S.only ⟨rfl, rfl, rfl, rfl, rfl, trivial⟩, H, ⟨by omega, rfl, by rw [List.append_assoc, ← qt_step hlt]; exact hdn, hNEXT⟩⟩, (show s.size - (p + (Utf8.decode s p).2) < s.size - p by omega)⟩
      · skip
        have c10 := bc10
        have c10 := ne_of_beq_false c10
        refine wp_skip ?_
        refine e_then ?_
        refine c_region ?_
        refine l_pure S (p_move rfl) rfl rfl rfl ?_; clear S a; intro a S
        refine l_pure S (p_move rfl) rfl rfl rfl ?_; clear S a; intro a S
        refine l_pure S (p_move rfl) rfl rfl rfl ?_; clear S a; intro a S
        refine l_pure S (p_move rfl) rfl rfl rfl ?_; clear S a; intro a S
        refine l_pure S (p_move rfl) rfl rfl rfl ?_; clear S a; intro a S
        have hcon := esc_ wb _ B L0 E A c ([34] ++ dn) (Utf8.decode s p).1 hrv hE H (by simp only [List.length_append, List.length_cons, List.length_nil]; omega)
        refine l_call S rfl rfl Tryd.func91 rfl rfl (hcon) rfl rfl rfl ?_
        rintro e w ⟨A1, c1_, E1, rfl, hOw1, hH⟩
        refine ⟨_, rfl, ?_⟩; clear S a; intro a S
        clear H hcon; have H := hH; clear hH
        refine l_pure S (p_assign rfl) rfl rfl rfl ?_; clear S a; intro a S
        refine l_nil ?_
        refine e_in 1 ?_
        refine e_then ?_
        refine c_region ?_
        refine l_pure S (p_move rfl) rfl rfl rfl ?_; clear S a; intro a S
        refine l_pure S (p_move rfl) rfl rfl rfl ?_; clear S a; intro a S
        have hcl : (([34] ++ dn) ++ esc (Utf8.decode s p).1) = [34] ++ (dn ++ qr s p) := by unfold qr; rw [if_neg (by omega)]; simp
        rw [hcl] at S hOw1
        have hNEXT := hOw1
        refine l_pure S (p_slice rfl (o_some rfl) (fun _ _ => o_none) (fun _ _ => o_none) (fun w => sl_string_lo Tryd.underlying9 (by omega) (by omega))) rfl rfl rfl ?_; clear S a; intro a S
        rw [Int.toNat_natCast, ext_more] at S
        refine l_pure S (p_assign rfl) rfl rfl rfl ?_; clear S a; intro a S
        refine l_nil ?_
        refine e_then ?_
        exact ⟨⟨p + (Utf8.decode s p).2, _, A1, c1_, E1, dn ++ qr s p⟩, ⟨S.only ⟨rfl, rfl, rfl, rfl, rfl, trivial⟩, H, ⟨by omega, rfl, by rw [List.append_assoc, ← qt_step hlt]; exact hdn, hNEXT⟩⟩, (show s.size - (p + (Utf8.decode s p).2) < s.size - p by omega)⟩
    · skip
      have c8 := bc8
      have c8 := ne_of_beq_false c8
      refine l_off S rfl rfl rfl rfl bc8 rfl rfl ?_; clear S a; intro a S
      refine l_off S rfl rfl rfl rfl bc8 rfl rfl ?_; clear S a; intro a S
      refine l_pure S (p_pick_f rfl bc8 rfl) rfl rfl rfl ?_; clear S a; intro a S
      refine l_nil ?_
      refine e_then ?_
      refine c_cond (b := false) S rfl (fun h => by cases h) (fun _ => ?_)
      refine wp_skip ?_
      refine e_then ?_
      refine c_region ?_
      refine l_pure S (p_move rfl) rfl rfl rfl ?_; clear S a; intro a S
      refine l_pure S (p_move rfl) rfl rfl rfl ?_; clear S a; intro a S
      refine l_pure S (p_move rfl) rfl rfl rfl ?_; clear S a; intro a S
      refine l_pure S (p_move rfl) rfl rfl rfl ?_; clear S a; intro a S
      refine l_pure S (p_move rfl) rfl rfl rfl ?_; clear S a; intro a S
      have hcon := esc_ wb _ B L0 E A c ([34] ++ dn) (Utf8.decode s p).1 hrv hE H (by simp only [List.length_append, List.length_cons, List.length_nil]; omega)
      refine l_call S rfl rfl Tryd.func91 rfl rfl (hcon) rfl rfl rfl ?_
      rintro e w ⟨A1, c1_, E1, rfl, hOw1, hH⟩
      refine ⟨_, rfl, ?_⟩; clear S a; intro a S
      clear H hcon; have H := hH; clear hH
      refine l_pure S (p_assign rfl) rfl rfl rfl ?_; clear S a; intro a S
      refine l_nil ?_
      refine e_in 1 ?_
      refine e_then ?_
      refine c_region ?_
      refine l_pure S (p_move rfl) rfl rfl rfl ?_; clear S a; intro a S
      refine l_pure S (p_move rfl) rfl rfl rfl ?_; clear S a; intro a S
      have hcl : (([34] ++ dn) ++ esc (Utf8.decode s p).1) = [34] ++ (dn ++ qr s p) := by unfold qr; rw [if_neg (by omega)]; simp
      rw [hcl] at S hOw1
      have hNEXT := hOw1
      refine l_pure S (p_slice rfl (o_some rfl) (fun _ _ => o_none) (fun _ _ => o_none) (fun w => sl_string_lo Tryd.underlying9 (by omega) (by omega))) rfl rfl rfl ?_; clear S a; intro a S
      rw [Int.toNat_natCast, ext_more] at S
      refine l_pure S (p_assign rfl) rfl rfl rfl ?_; clear S a; intro a S
      refine l_nil ?_
      refine e_then ?_
      exact ⟨⟨p + (Utf8.decode s p).2, _, A1, c1_, E1, dn ++ qr s p⟩, ⟨S.only ⟨rfl, rfl, rfl, rfl, rfl, trivial⟩, H, ⟨by omega, rfl, by rw [List.append_assoc, ← qt_step hlt]; exact hdn, hNEXT⟩⟩, (show s.size - (p + (Utf8.decode s p).2) < s.size - p by omega)⟩
  · skip
    have c6 := bc6
    have c6 := of_decide_eq_false c6
    refine wp_exit ?_
    refine e_then_exit ?_
    refine e_then_exit ?_
    refine e_in_exit ?_
    refine e_then ?_
    refine wp_seq ?_
    refine c_region ?_
    refine l_pure S (p_move rfl) rfl rfl rfl ?_; clear S a; intro a S
    refine l_pure S (p_move rfl) rfl rfl rfl ?_; clear S a; intro a S
    refine l_lit [(.tmp 80)] S H rfl rfl Tryd.underlying55 sz5 zv5 rfl rfl (by simp [Value.cells]) rfl rfl rfl ?_; clear S a H; intro g22 w a H S
    refine l_ownB [_] (r := [34]) S H rfl rfl rfl hE (src_lit (vs := ([34]).map (Value.int .u8)) H List.mem_cons_self Tryd.underlying55 (by simp [Value.oneCell'])) Tryd.underlying55 in5 rfl (by simp only [List.length_cons, List.length_nil, List.length_append]; omega) (by decide) rfl rfl rfl ?_; clear S a H; intro Aow23 cow23 ow23 w a how23 H S; replace H := H.tail
    refine l_pure S (p_assign rfl) rfl rfl rfl ?_; clear S a; intro a S
    refine l_nil ?_
    refine e_then ?_
    refine wp_seq ?_
    refine c_region ?_
    refine l_pure S (p_move rfl) rfl rfl rfl ?_; clear S a; intro a S
    refine l_pure S (p_assign rfl) rfl rfl rfl ?_; clear S a; intro a S
    refine l_nil ?_
    refine e_then ?_
    refine wp_ret ?_
    have hl : (([34] ++ dn) ++ [34]) = quo s := by unfold quo; rw [← hdn, qt_end (by omega), List.append_nil]
    rw [hl] at S how23
    exact r_ret1 S rfl rfl ⟨_, _, ow23, rfl, how23, H⟩
theorem quoteWith_ (wb w0 : World) (B : Nat) (L0 : List (Nat × Obj)) (s : ByteArray) (hs : s.size ≤ 1000) (hT : ∀ w, Below B wb w → li.Tabs w) (H : HH B wb w0 L0) : Calls Tryd.prog 72 #[.string s, .int .u8 34, .bool true, .bool false] w0 fun e w' => e = .returned (.string (strOfNums (quo s))) ∧ HH B wb w' L0 := by
  refine c_enter (args := [.string s, .int .u8 34, .bool true, .bool false]) (k := 16) Tryd.func72 rfl rfl rfl (fun a S => ?_)
  refine wp_seq ?_
  refine c_region ?_
  refine l_pure S (p_assign rfl) rfl rfl rfl ?_; clear S a; intro a S
  refine l_nil ?_
  refine e_then ?_
  refine wp_seq ?_
  refine c_region ?_
  refine l_pure S (p_move rfl) rfl rfl rfl ?_; clear S a; intro a S
  refine l_pure S (p_lens Tryd.underlying9 rfl) rfl rfl rfl ?_; clear S a; intro a S
  refine l_pure S (p_mul rfl rfl (nat_mul (x := 3) (y := s.size) (by omega))) rfl rfl rfl ?_; clear S a; intro a S
  refine l_pure S (p_quo rfl rfl (by omega) (nat_quo (3 * s.size) 2 (by omega))) rfl rfl rfl ?_; clear S a; intro a S
  refine l_make (l := 0) (c := 3 * s.size / 2) S H rfl rfl rfl Tryd.underlying55 in5 (by omega) (by omega) (by omega) rfl rfl rfl ?_; clear S a H; intro gm cm w a hcm H S
  have hOw : OwnB 5 (.slice (some ⟨gm, 0, none⟩) ([] : List Int).length (3 * s.size / 2)) [] [(gm, .cells cm 5 (0, 0))] := own_new hcm
  refine l_pure S (p_move rfl) rfl rfl rfl ?_; clear S a; intro a S
  refine l_pure S (p_move rfl) rfl rfl rfl ?_; clear S a; intro a S
  refine l_pure S (p_move rfl) rfl rfl rfl ?_; clear S a; intro a S
  refine l_pure S (p_move rfl) rfl rfl rfl ?_; clear S a; intro a S
  have hcon := appq_ wb _ B L0 [(gm, .cells cm 5 (0, 0))] (some ⟨gm, 0, none⟩) (3 * s.size / 2) s hs (by omega) (by omega) hOw hT H
  refine l_call S rfl rfl Tryd.func85 rfl rfl (hcon) rfl rfl rfl ?_
  rintro e w ⟨A1, c1, E1, rfl, hOw1, hH⟩
  refine ⟨_, rfl, ?_⟩; clear S a; intro a S
  clear H hcon; have H := hH; clear hH
  have hql := quo_len s
  refine l_str S rfl rfl Tryd.underlying55 Tryd.underlying5 Tryd.underlying9 (Own.bytes hOw1 H (by omega)) rfl rfl rfl ?_; clear S a; intro a S
  refine l_pure S (p_assign rfl) rfl rfl rfl ?_; clear S a; intro a S
  refine l_nil ?_
  refine e_then ?_
  refine wp_ret ?_
  exact r_ret1 S rfl rfl ⟨rfl, H.bring⟩
theorem quote_ (wb w0 : World) (B : Nat) (L0 : List (Nat × Obj)) (s : ByteArray) (hs : s.size ≤ 1000) (hT : ∀ w, Below B wb w → li.Tabs w) (H : HH B wb w0 L0) : Calls Tryd.prog 59 #[.string s] w0 fun e w' => e = .returned (.string (strOfNums (quo s))) ∧ HH B wb w' L0 := by
  refine c_enter (args := [.string s]) (k := 4) Tryd.func59 rfl rfl rfl (fun a S => ?_)
  refine wp_seq ?_
  refine c_region ?_
  refine l_pure S (p_assign rfl) rfl rfl rfl ?_; clear S a; intro a S
  refine l_nil ?_
  refine e_then ?_
  refine wp_seq ?_
  refine c_region ?_
  refine l_pure S (p_move rfl) rfl rfl rfl ?_; clear S a; intro a S
  have hcon := quoteWith_ wb _ B L0 s hs hT H
  refine l_call S rfl rfl Tryd.func72 rfl rfl (hcon) rfl rfl rfl ?_
  rintro e w ⟨rfl, hH⟩
  refine ⟨_, rfl, ?_⟩; clear S a; intro a S
  clear H hcon; have H := hH; clear hH
  refine l_pure S (p_assign rfl) rfl rfl rfl ?_; clear S a; intro a S
  refine l_nil ?_
  refine e_then ?_
  refine wp_ret ?_
  exact r_ret1 S rfl rfl ⟨rfl, H⟩
end qu
end Go.Proofs.YtnmelglnkefjfaaDoor.ct
