/- FnRawTells: the weighing, walked. -/
import Derived.Test.YtcjdadfiedoflaaWgp
namespace Go.Proofs.Ytcjdadfiedoflaa.tells
open Go.RowKit Go.Proofs.HHW Go.Proofs.YtcjdadfiedoflaaW.PrintWords PFnRawTells
set_option linter.unusedVariables false
set_option linter.unusedSimpArgs false
theorem ag28 : aggB Try.prog 28 = some false := by kernel_rfl
theorem ag4 : aggB Try.prog 4 = some false := by kernel_rfl
theorem ag41 : aggB Try.prog 41 = some false := by kernel_rfl
theorem ag43 : aggB Try.prog 43 = some true := by kernel_rfl
theorem ag5 : aggB Try.prog 5 = some false := by kernel_rfl
theorem ag9 : aggB Try.prog 9 = some false := by kernel_rfl
theorem fa43_0 (w : World) (g o : Nat) : (Instr.fieldAt 43 (.pointer (some ⟨g, o, none⟩)) 0).run Try.prog w = .ok (.pointer (some ⟨g, o + 0, none⟩)) w := by kernel_rfl
theorem fa43_1 (w : World) (g o : Nat) : (Instr.fieldAt 43 (.pointer (some ⟨g, o, none⟩)) 1).run Try.prog w = .ok (.pointer (some ⟨g, o + 1, none⟩)) w := by kernel_rfl
theorem fa43_2 (w : World) (g o : Nat) : (Instr.fieldAt 43 (.pointer (some ⟨g, o, none⟩)) 2).run Try.prog w = .ok (.pointer (some ⟨g, o + 2, none⟩)) w := by kernel_rfl
theorem fa43_3 (w : World) (g o : Nat) : (Instr.fieldAt 43 (.pointer (some ⟨g, o, none⟩)) 3).run Try.prog w = .ok (.pointer (some ⟨g, o + 3, none⟩)) w := by kernel_rfl
theorem fa43_4 (w : World) (g o : Nat) : (Instr.fieldAt 43 (.pointer (some ⟨g, o, none⟩)) 4).run Try.prog w = .ok (.pointer (some ⟨g, o + 4, none⟩)) w := by kernel_rfl
theorem fa43_5 (w : World) (g o : Nat) : (Instr.fieldAt 43 (.pointer (some ⟨g, o, none⟩)) 5).run Try.prog w = .ok (.pointer (some ⟨g, o + 5, none⟩)) w := by kernel_rfl
theorem fa43_6 (w : World) (g o : Nat) : (Instr.fieldAt 43 (.pointer (some ⟨g, o, none⟩)) 6).run Try.prog w = .ok (.pointer (some ⟨g, o + 6, none⟩)) w := by kernel_rfl
theorem sz43 : szB Try.prog 43 = some 7 := by kernel_rfl
theorem sz9 : szB Try.prog 9 = some 1 := by kernel_rfl
theorem zv43 : zvB Try.prog 43 = some (.agg #[.int .u8 0, .string ⟨#[]⟩, .string ⟨#[]⟩, .slice none 0 0, .bool false, .bool false, .slice none 0 0]) := by kernel_rfl
set_option maxHeartbeats 8000000 in
set_option maxRecDepth 100000 in
theorem weigh47 (n : Nat) (hn : n < 1000) : ∀ (v : S43) (A3 : Option Addr) (cap3 : Nat) (A6 : Option Addr) (cap6 : Nat) (m : Int) (w0 : World) (hok : ok n v) (hm : 0 ≤ m ∧ m ≤ 9223372036854775807) (h3 : k43.C w0 A3 v.f3.length v.f3) (h6 : Kd.string.C w0 A6 v.f6.length v.f6),
    Calls Try.prog 47 #[.agg #[.int .u8 v.f0, .string v.f1, .string v.f2, .slice A3 v.f3.length cap3, .bool v.f4, .bool v.f5, .slice A6 v.f6.length cap6], .int .i64 (n : Int), .int .i64 m] w0 fun e w' => e = .returned (.int .i64 (weighF n v m)) ∧ Below w0.heap.size w0 w' := by
  induction n using Nat.strongRecOn with
  | _ n ih =>
  replace ih := fun k hk => ih k hk (by omega)
  intro v A3 cap3 A6 cap6 m w0 hok hm h3 h6
  have hsz := ok_sizes hok
  have h3 := Aside0.mk h3; have h6 := Aside0.mk h6
  have H := HH.start w0
  refine c_enter (args := [.agg #[.int .u8 v.f0, .string v.f1, .string v.f2, .slice A3 v.f3.length cap3, .bool v.f4, .bool v.f5, .slice A6 v.f6.length cap6], .int .i64 (n : Int), .int .i64 m]) (k := 236) Try.func47 rfl rfl rfl (fun a S => ?_)
  refine wp_seq ?_
  refine c_region ?_
  refine l_box (cs := _) S H rfl rfl (fun w => bx) rfl rfl rfl ?_; clear S a H; intro g1 w a H S
  refine l_pure S (p_assign rfl) rfl rfl rfl ?_; clear S a; intro a S
  refine l_nil ?_
  refine e_then ?_
  refine wp_seq ?_
  refine c_region ?_
  refine l_pure S (p_move rfl) rfl rfl rfl ?_; clear S a; intro a S
  refine l_pure S (p_fieldAddr rfl (fun w => fa43_1 w _ _)) rfl rfl rfl ?_; clear S a; intro a S
  refine l_read S H (r_load rfl List.mem_cons_self rfl (fun w hc => ld1 ag9 hc)) rfl rfl rfl ?_; clear S a; intro a S
  refine l_pure S (p_builtin (xs := [_]) rfl (fun _ _ _ => rfl)) rfl rfl rfl ?_; clear S a; intro a S
  refine l_pure S (p_add (r := _) rfl rfl (IntWalk.i64_in _ (by omega))) rfl rfl rfl ?_; clear S a; intro a S
  refine l_pure S (p_fieldAddr rfl (fun w => fa43_2 w _ _)) rfl rfl rfl ?_; clear S a; intro a S
  refine l_read S H (r_load rfl List.mem_cons_self rfl (fun w hc => ld1 ag9 hc)) rfl rfl rfl ?_; clear S a; intro a S
  refine l_pure S (p_builtin (xs := [_]) rfl (fun _ _ _ => rfl)) rfl rfl rfl ?_; clear S a; intro a S
  refine l_pure S (p_add (r := _) rfl rfl (IntWalk.i64_in _ (by omega))) rfl rfl rfl ?_; clear S a; intro a S
  refine l_pure S (p_sub (r := _) rfl rfl (IntWalk.i64_in _ (by omega))) rfl rfl rfl ?_; clear S a; intro a S
  refine l_pure S (p_assign rfl) rfl rfl rfl ?_; clear S a; intro a S
  refine l_nil ?_
  refine e_then ?_
  refine wp_seq ?_
  refine c_region ?_
  refine l_pure S (p_fieldAddr rfl (fun w => fa43_0 w _ _)) rfl rfl rfl ?_; clear S a; intro a S
  refine l_read S H (r_load rfl List.mem_cons_self rfl (fun w hc => ld1 ag5 hc)) rfl rfl rfl ?_; clear S a; intro a S
  refine l_call S rfl rfl Try.func23 rfl rfl (PFnRawTells.spec_Many.calls 5 v.f0 _ _ _ (many_f v.f0)) rfl rfl rfl ?_
  rintro e w ⟨rfl, hd⟩
  refine ⟨_, rfl, ?_⟩; clear S a; intro a S
  replace H := H.later hd.below; clear hd
  refine l_pure S (p_move rfl) rfl rfl rfl ?_; clear S a; intro a S
  refine l_pure S (p_extract rfl rfl) rfl rfl rfl ?_; clear S a; intro a S
  refine l_pure S (p_extract rfl rfl) rfl rfl rfl ?_; clear S a; intro a S
  refine l_pure S (p_assign rfl) rfl rfl rfl ?_; clear S a; intro a S
  refine l_pure S (p_assign rfl) rfl rfl rfl ?_; clear S a; intro a S
  refine l_nil ?_
  refine e_then ?_
  refine wp_seq ?_
  refine wp_block ?_
  refine c_cut (fun a w => ∃ b30 : Bool, SL a 239 [] [(3, .pointer (some ⟨g1, 0, none⟩)), (1, .int .i64 (n : Int)), (2, .int .i64 (m - (1 + v.f1.size + v.f2.size))), (7, .int .i64 (manyOf v.f0).1), (8, .bool (manyOf v.f0).2), (30, .bool b30)] ∧ HH (w0.heap.size) w0 w [(g1, .cells #[.int .u8 v.f0, .string v.f1, .string v.f2, .slice A3 v.f3.length cap3, .bool v.f4, .bool v.f5, .slice A6 v.f6.length cap6] 43 (0, 0))] ∧ b30 = cc1 n m v) ?_ ?_
  · clear S a H; rintro a w ⟨b30, S, H, hb30⟩
    refine c_cond S rfl (fun c3 => ?_) (fun c3 => ?_)
    · skip
      refine wp_seq ?_
      refine c_region ?_
      refine l_pure S (p_assign rfl) rfl rfl rfl ?_; clear S a; intro a S
      refine l_nil ?_
      refine e_then ?_
      refine wp_ret ?_
      refine e_in_ret ?_
      refine e_then_ret ?_
      exact r_ret1 S rfl rfl ⟨by rw [weigh_eq, if_pos (by grind)], H.below⟩
    · skip
      refine c_cut (fun a w => ∃ b86 : Bool, SL a 239 [] [(3, .pointer (some ⟨g1, 0, none⟩)), (1, .int .i64 (n : Int)), (2, .int .i64 (m - (1 + v.f1.size + v.f2.size))), (7, .int .i64 (manyOf v.f0).1), (8, .bool (manyOf v.f0).2), (86, .bool b86)] ∧ HH (w0.heap.size) w0 w [(g1, .cells #[.int .u8 v.f0, .string v.f1, .string v.f2, .slice A3 v.f3.length cap3, .bool v.f4, .bool v.f5, .slice A6 v.f6.length cap6] 43 (0, 0))] ∧ b86 = cc2 v) ?_ ?_
      · clear S a H; rintro a w ⟨b86, S, H, hb86⟩
        refine c_cond S rfl (fun c4 => ?_) (fun c4 => ?_)
        · skip
          refine wp_seq ?_
          refine c_region ?_
          refine l_pure S (p_assign rfl) rfl rfl rfl ?_; clear S a; intro a S
          refine l_nil ?_
          refine e_then ?_
          refine wp_ret ?_
          refine e_in_ret ?_
          refine e_then_ret ?_
          exact r_ret1 S rfl rfl ⟨by rw [weigh_eq, if_pos (by grind)], H.below⟩
        · skip
          refine c_cut (fun a w => ∃ b113 : Bool, SL a 239 [] [(3, .pointer (some ⟨g1, 0, none⟩)), (1, .int .i64 (n : Int)), (2, .int .i64 (m - (1 + v.f1.size + v.f2.size))), (7, .int .i64 (manyOf v.f0).1), (8, .bool (manyOf v.f0).2), (113, .bool b113)] ∧ HH (w0.heap.size) w0 w [(g1, .cells #[.int .u8 v.f0, .string v.f1, .string v.f2, .slice A3 v.f3.length cap3, .bool v.f4, .bool v.f5, .slice A6 v.f6.length cap6] 43 (0, 0))] ∧ b113 = cc3 v) ?_ ?_
          · clear S a H; rintro a w ⟨b113, S, H, hb113⟩
            refine c_cond S rfl (fun c5 => ?_) (fun c5 => ?_)
            · skip
              refine wp_seq ?_
              refine c_region ?_
              refine l_pure S (p_assign rfl) rfl rfl rfl ?_; clear S a; intro a S
              refine l_nil ?_
              refine e_then ?_
              refine wp_ret ?_
              refine e_in_ret ?_
              refine e_then_ret ?_
              exact r_ret1 S rfl rfl ⟨by rw [weigh_eq, if_pos (by grind)], H.below⟩
            · skip
              refine c_cut (fun a w => ∃ b136 : Bool, SL a 239 [] [(3, .pointer (some ⟨g1, 0, none⟩)), (1, .int .i64 (n : Int)), (2, .int .i64 (m - (1 + v.f1.size + v.f2.size))), (7, .int .i64 (manyOf v.f0).1), (8, .bool (manyOf v.f0).2), (136, .bool b136)] ∧ HH (w0.heap.size) w0 w [(g1, .cells #[.int .u8 v.f0, .string v.f1, .string v.f2, .slice A3 v.f3.length cap3, .bool v.f4, .bool v.f5, .slice A6 v.f6.length cap6] 43 (0, 0))] ∧ b136 = cc4 v) ?_ ?_
              · clear S a H; rintro a w ⟨b136, S, H, hb136⟩
                refine c_cond S rfl (fun c6 => ?_) (fun c6 => ?_)
                · skip
                  refine wp_seq ?_
                  refine c_region ?_
                  refine l_pure S (p_assign rfl) rfl rfl rfl ?_; clear S a; intro a S
                  refine l_nil ?_
                  refine e_then ?_
                  refine wp_ret ?_
                  refine e_in_ret ?_
                  refine e_then_ret ?_
                  exact r_ret1 S rfl rfl ⟨by rw [weigh_eq, if_pos (by grind)], H.below⟩
                · skip
                  refine c_cut (fun a w => ∃ b166 : Bool, SL a 239 [] [(3, .pointer (some ⟨g1, 0, none⟩)), (1, .int .i64 (n : Int)), (2, .int .i64 (m - (1 + v.f1.size + v.f2.size))), (7, .int .i64 (manyOf v.f0).1), (8, .bool (manyOf v.f0).2), (166, .bool b166)] ∧ HH (w0.heap.size) w0 w [(g1, .cells #[.int .u8 v.f0, .string v.f1, .string v.f2, .slice A3 v.f3.length cap3, .bool v.f4, .bool v.f5, .slice A6 v.f6.length cap6] 43 (0, 0))] ∧ b166 = cc5 v) ?_ ?_
                  · clear S a H; rintro a w ⟨b166, S, H, hb166⟩
                    refine c_cond S rfl (fun c7 => ?_) (fun c7 => ?_)
                    · skip
                      refine wp_seq ?_
                      refine c_region ?_
                      refine l_pure S (p_assign rfl) rfl rfl rfl ?_; clear S a; intro a S
                      refine l_nil ?_
                      refine e_then ?_
                      refine wp_ret ?_
                      refine e_in_ret ?_
                      refine e_then_ret ?_
                      exact r_ret1 S rfl rfl ⟨by rw [weigh_eq, if_pos (by grind)], H.below⟩
                    · skip
                      refine wp_skip ?_
                      refine e_in 0 ?_
                      refine e_then ?_
                      refine wp_seq ?_
                      refine wp_seq ?_
                      refine c_region ?_
                      refine l_pure S (p_assign rfl) rfl rfl rfl ?_; clear S a; intro a S
                      refine l_nil ?_
                      refine e_then ?_
                      refine wp_block ?_
                      refine c_loop (σ := Nat) (fun s_ a w => match s_ with | i => SL a 239 [] [(3, .pointer (some ⟨g1, 0, none⟩)), (1, .int .i64 (n : Int)), (2, .int .i64 (m - (1 + v.f1.size + v.f2.size))), (7, .int .i64 (manyOf v.f0).1), (8, .bool (manyOf v.f0).2), (9, .int .i64 (i : Int))] ∧ HH (w0.heap.size) w0 w [(g1, .cells #[.int .u8 v.f0, .string v.f1, .string v.f2, .slice A3 v.f3.length cap3, .bool v.f4, .bool v.f5, .slice A6 v.f6.length cap6] 43 (0, 0))] ∧ (i ≤ v.f1.size ∧ ((ints v.f1).take i).any crlf = false)) (fun s_ => match s_ with | i => v.f1.size - i) 0 ⟨S.only ⟨rfl, rfl, rfl, rfl, rfl, rfl, trivial⟩, H, ⟨Nat.zero_le _, by simp⟩⟩ ?_
                      clear S a H; rintro i a w ⟨S, H, hinv⟩
                      obtain ⟨hi, hgood⟩ := hinv
                      refine wp_seq ?_
                      refine wp_seq ?_
                      refine c_region ?_
                      refine l_pure S (p_fieldAddr rfl (fun w => fa43_0 w _ _)) rfl rfl rfl ?_; clear S a; intro a S
                      refine l_read S H (r_load rfl List.mem_cons_self rfl (fun w hc => ld1 ag5 hc)) rfl rfl rfl ?_; clear S a; intro a S
                      refine l_call S rfl rfl Try.func20 rfl rfl (PFnRawTells.spec_Line.calls v.f0 _ _ (line_f v.f0)) rfl rfl rfl ?_
                      rintro e w ⟨rfl, hd⟩
                      refine ⟨_, rfl, ?_⟩; clear S a; intro a S
                      replace H := H.later hd.below; clear hd
                      refine l_pure S (p_move rfl) rfl rfl rfl ?_; clear S a; intro a S
                      refine l_split (S.of 189 rfl) (fun bc9 => ?_) (fun bc9 => ?_)
                      · skip
                        refine l_on S rfl rfl rfl rfl bc9 ?_
                        refine l_pure S (p_move rfl) rfl rfl rfl ?_; clear S a; intro a S
                        refine l_on S rfl rfl rfl rfl bc9 ?_
                        refine l_pure S (p_fieldAddr rfl (fun w => fa43_1 w _ _)) rfl rfl rfl ?_; clear S a; intro a S
                        refine l_on S rfl rfl rfl rfl bc9 ?_
                        refine l_read S H (r_load rfl List.mem_cons_self rfl (fun w hc => ld1 ag9 hc)) rfl rfl rfl ?_; clear S a; intro a S
                        refine l_on S rfl rfl rfl rfl bc9 ?_
                        refine l_pure S (p_builtin (xs := [_]) rfl (fun _ _ _ => rfl)) rfl rfl rfl ?_; clear S a; intro a S
                        refine l_on S rfl rfl rfl rfl bc9 ?_
                        refine l_pure S (p_lss rfl rfl) rfl rfl rfl ?_; clear S a; intro a S
                        refine l_pure S (p_pick_t rfl bc9 rfl) rfl rfl rfl ?_; clear S a; intro a S
                        refine l_nil ?_
                        refine e_then ?_
                        refine c_cond S rfl (fun c11 => ?_) (fun c11 => ?_)
                        · skip
                          have c11 := of_decide_eq_true c11
                          refine wp_skip ?_
                          refine e_then ?_
                          refine wp_seq ?_
                          refine wp_block ?_
                          refine wp_seq ?_
                          refine c_region ?_
                          refine l_pure S (p_fieldAddr rfl (fun w => fa43_1 w _ _)) rfl rfl rfl ?_; clear S a; intro a S
                          refine l_read S H (r_load rfl List.mem_cons_self rfl (fun w hc => ld1 ag9 hc)) rfl rfl rfl ?_; clear S a; intro a S
                          refine l_pure S (p_move rfl) rfl rfl rfl ?_; clear S a; intro a S
                          refine l_pure S (p_index rfl rfl (fun w => ix_string Try.underlying9 (by omega) (by omega))) rfl rfl rfl ?_; clear S a; intro a S
                          refine l_pure S (p_eql rfl rfl) rfl rfl rfl ?_; clear S a; intro a S
                          refine l_pure S (p_move rfl) rfl rfl rfl ?_; clear S a; intro a S
                          refine l_split (S.of 203 rfl) (fun bc13 => ?_) (fun bc13 => ?_)
                          · skip
                            have c13 := bc13
                            have c13 := eq_of_beq c13
                            refine l_off S rfl rfl rfl rfl bc13 rfl rfl ?_; clear S a; intro a S
                            refine l_off S rfl rfl rfl rfl bc13 rfl rfl ?_; clear S a; intro a S
                            refine l_off S rfl rfl rfl rfl bc13 rfl rfl ?_; clear S a; intro a S
                            refine l_off S rfl rfl rfl rfl bc13 rfl rfl ?_; clear S a; intro a S
                            refine l_off S rfl rfl rfl rfl bc13 rfl rfl ?_; clear S a; intro a S
                            refine l_pure S (p_pick_t rfl bc13 rfl) rfl rfl rfl ?_; clear S a; intro a S
                            refine l_nil ?_
                            refine e_then ?_
                            refine c_cond (b := true) S rfl (fun _ => ?_) (fun h => by cases h)
                            refine wp_seq ?_
                            refine c_region ?_
                            refine l_pure S (p_assign rfl) rfl rfl rfl ?_; clear S a; intro a S
                            refine l_nil ?_
                            refine e_then ?_
                            refine wp_ret ?_
                            refine e_in_ret ?_
                            refine e_then_ret ?_
                            refine e_then_ret ?_
                            refine e_in_ret ?_
                            refine e_then_ret ?_
                            exact r_ret1 S rfl rfl ⟨by rw [weigh_eq, if_neg (by simp_all), if_pos (bad_at (i := i) (by omega) (by assumption) (by first | exact .inl (by assumption) | exact .inr (by assumption)))], H.below⟩
                          · skip
                            have c13 := bc13
                            have c13 := ne_of_beq_false c13
                            refine l_on S rfl rfl rfl rfl bc13 ?_
                            refine l_pure S (p_fieldAddr rfl (fun w => fa43_1 w _ _)) rfl rfl rfl ?_; clear S a; intro a S
                            refine l_on S rfl rfl rfl rfl bc13 ?_
                            refine l_read S H (r_load rfl List.mem_cons_self rfl (fun w hc => ld1 ag9 hc)) rfl rfl rfl ?_; clear S a; intro a S
                            refine l_on S rfl rfl rfl rfl bc13 ?_
                            refine l_pure S (p_move rfl) rfl rfl rfl ?_; clear S a; intro a S
                            refine l_on S rfl rfl rfl rfl bc13 ?_
                            refine l_pure S (p_index rfl rfl (fun w => ix_string Try.underlying9 (by omega) (by omega))) rfl rfl rfl ?_; clear S a; intro a S
                            refine l_on S rfl rfl rfl rfl bc13 ?_
                            refine l_pure S (p_eql rfl rfl) rfl rfl rfl ?_; clear S a; intro a S
                            refine l_pure S (p_pick_f rfl bc13 rfl) rfl rfl rfl ?_; clear S a; intro a S
                            refine l_nil ?_
                            refine e_then ?_
                            refine c_cond S rfl (fun c17 => ?_) (fun c17 => ?_)
                            · skip
                              have c17 := eq_of_beq c17
                              refine wp_seq ?_
                              refine c_region ?_
                              refine l_pure S (p_assign rfl) rfl rfl rfl ?_; clear S a; intro a S
                              refine l_nil ?_
                              refine e_then ?_
                              refine wp_ret ?_
                              refine e_in_ret ?_
                              refine e_then_ret ?_
                              refine e_then_ret ?_
                              refine e_in_ret ?_
                              refine e_then_ret ?_
                              exact r_ret1 S rfl rfl ⟨by rw [weigh_eq, if_neg (by simp_all), if_pos (bad_at (i := i) (by omega) (by assumption) (by first | exact .inl (by assumption) | exact .inr (by assumption)))], H.below⟩
                            · skip
                              have c17 := ne_of_beq_false c17
                              refine wp_skip ?_
                              refine e_in 2 ?_
                              refine e_then ?_
                              refine c_region ?_
                              refine l_pure S (p_move rfl) rfl rfl rfl ?_; clear S a; intro a S
                              refine l_pure S (p_add (r := _) rfl rfl (IntWalk.i64_in _ (by omega))) rfl rfl rfl ?_; clear S a; intro a S
                              refine l_pure S (p_assign rfl) rfl rfl rfl ?_; clear S a; intro a S
                              refine l_nil ?_
                              refine e_then ?_
                              exact ⟨(i + 1), ⟨S.only ⟨rfl, rfl, rfl, rfl, rfl, rfl, trivial⟩, H, ⟨by omega, good_succ (by omega) hgood (by grind) (by grind)⟩⟩, by show v.f1.size - (i + 1) < v.f1.size - i; omega⟩
                        · skip
                          have c11 := of_decide_eq_false c11
                          refine wp_exit ?_
                          refine e_then_exit ?_
                          refine e_then_exit ?_
                          refine e_in_exit ?_
                          refine e_then ?_
                          refine wp_seq ?_
                          refine wp_seq ?_
                          refine c_region ?_
                          refine l_pure S (p_fieldAddr rfl (fun w => fa43_6 w _ _)) rfl rfl rfl ?_; clear S a; intro a S
                          refine l_read S H (r_load rfl List.mem_cons_self rfl (fun w hc => ld1 ag28 hc)) rfl rfl rfl ?_; clear S a; intro a S
                          refine l_pure S (p_builtin (xs := [_]) rfl (fun _ _ _ => rfl)) rfl rfl rfl ?_; clear S a; intro a S
                          refine l_pure S (p_move rfl) rfl rfl rfl ?_; clear S a; intro a S
                          refine l_nil ?_
                          refine e_then ?_
                          refine wp_block ?_
                          have hline : badLine v = false := by unfold badLine; first | (rw [good_all (by omega) hgood]; simp) | (simp_all; done) | grind
                          refine c_loop (σ := Nat) (fun s_ a w => match s_ with | i => SL a 239 [] [(3, .pointer (some ⟨g1, 0, none⟩)), (1, .int .i64 (n : Int)), (2, .int .i64 (chunksF (v.f6.take i) (m - (1 + v.f1.size + v.f2.size)))), (211, .slice A6 v.f6.length cap6), (212, .int .i64 (v.f6.length : Int)), (213, .int .i64 (i : Int))] ∧ HH (w0.heap.size) w0 w [(g1, .cells #[.int .u8 v.f0, .string v.f1, .string v.f2, .slice A3 v.f3.length cap3, .bool v.f4, .bool v.f5, .slice A6 v.f6.length cap6] 43 (0, 0))] ∧ (i ≤ v.f6.length)) (fun s_ => match s_ with | i => v.f6.length - i) 0 ⟨S.only ⟨rfl, rfl, rfl, rfl, rfl, rfl, trivial⟩, H, Nat.zero_le _⟩ ?_
                          clear S a H; rintro i a w ⟨S, H, hinv⟩
                          refine wp_seq ?_
                          refine c_region ?_
                          refine l_pure S (p_lss rfl rfl) rfl rfl rfl ?_; clear S a; intro a S
                          refine l_nil ?_
                          refine e_then ?_
                          refine wp_seq ?_
                          refine c_cond S rfl (fun c19 => ?_) (fun c19 => ?_)
                          · skip
                            have c19 := of_decide_eq_true c19
                            refine wp_skip ?_
                            refine e_then ?_
                            refine wp_seq ?_
                            refine wp_block ?_
                            refine wp_seq ?_
                            refine c_region ?_
                            obtain ⟨ad, hA6⟩ := C_some h6.out (by omega : i < v.f6.length)
                            subst hA6
                            refine l_pure S (p_indexAddr rfl rfl (fun w => ia_any Try.underlying28 sz9 (by omega) (by omega))) rfl rfl rfl ?_; clear S a; intro a S
                            refine l_read S H (r_row (i := i) h6.out rfl (by omega) (get_some ByteArray.empty (by omega)) ag9 rfl) rfl rfl rfl ?_; clear S a; intro a S
                            refine l_pure S (p_assign rfl) rfl rfl rfl ?_; clear S a; intro a S
                            refine l_nil ?_
                            refine e_then ?_
                            refine c_region ?_
                            refine l_pure S (p_move rfl) rfl rfl rfl ?_; clear S a; intro a S
                            refine l_pure S (p_move rfl) rfl rfl rfl ?_; clear S a; intro a S
                            refine l_pure S (p_builtin (xs := [_]) rfl (fun _ _ _ => rfl)) rfl rfl rfl ?_; clear S a; intro a S
                            have hsz1 := ok_chunk hok (by omega : i < v.f6.length)
                            refine l_pure S (p_add (r := _) rfl rfl (IntWalk.i64_in _ (by omega))) rfl rfl rfl ?_; clear S a; intro a S
                            refine l_pure S (p_sub (r := chunksF (v.f6.take (i + 1)) (m - (1 + v.f1.size + v.f2.size))) rfl rfl (by rw [chunks_succ _ (by omega : i < v.f6.length)]; exact IntWalk.i64_left _)) rfl rfl rfl ?_; clear S a; intro a S
                            refine l_pure S (p_assign rfl) rfl rfl rfl ?_; clear S a; intro a S
                            refine l_nil ?_
                            refine e_in 4 ?_
                            refine e_then ?_
                            refine c_region ?_
                            refine l_pure S (p_add (r := _) rfl rfl (IntWalk.i64_in _ (by omega))) rfl rfl rfl ?_; clear S a; intro a S
                            refine l_pure S (p_move rfl) rfl rfl rfl ?_; clear S a; intro a S
                            refine l_nil ?_
                            refine e_then ?_
                            exact ⟨(i + 1), ⟨S.only ⟨rfl, rfl, rfl, rfl, rfl, rfl, trivial⟩, H, by omega⟩, by show v.f6.length - (i + 1) < v.f6.length - i; omega⟩
                          · skip
                            have c19 := of_decide_eq_false c19
                            refine wp_exit ?_
                            refine e_then_exit ?_
                            refine e_then_exit ?_
                            refine e_in_exit ?_
                            refine e_then ?_
                            refine wp_seq ?_
                            refine wp_seq ?_
                            refine c_region ?_
                            refine l_pure S (p_fieldAddr rfl (fun w => fa43_3 w _ _)) rfl rfl rfl ?_; clear S a; intro a S
                            refine l_read S H (r_load rfl List.mem_cons_self rfl (fun w hc => ld1 ag41 hc)) rfl rfl rfl ?_; clear S a; intro a S
                            refine l_pure S (p_builtin (xs := [_]) rfl (fun _ _ _ => rfl)) rfl rfl rfl ?_; clear S a; intro a S
                            refine l_pure S (p_move rfl) rfl rfl rfl ?_; clear S a; intro a S
                            refine l_nil ?_
                            refine e_then ?_
                            refine wp_block ?_
                            replace H := H.sub (List.nil_sublist _)
                            have hcc1 : cc1 n m v = false := by rw [← hb30]; assumption
                            have hn1 : 1 ≤ n := by unfold cc1 at hcc1; grind
                            have hch : i = v.f6.length := by omega
                            subst hch
                            rw [List.take_length] at S
                            refine c_loop (σ := Nat × Int) (fun s_ a w => match s_ with | ⟨j, mk⟩ => SL a 239 [] [(1, .int .i64 (n : Int)), (2, .int .i64 mk), (224, .slice A3 v.f3.length cap3), (225, .int .i64 (v.f3.length : Int)), (226, .int .i64 (j : Int))] ∧ HH (w0.heap.size) w0 w [] ∧ (j ≤ v.f3.length ∧ mk ≤ 9223372036854775807 ∧ kidsF (weighF (n - 1)) (v.f3.drop j) mk = kidsF (weighF (n - 1)) v.f3 (chunksF v.f6 (m - (1 + v.f1.size + v.f2.size))))) (fun s_ => match s_ with | ⟨j, mk⟩ => v.f3.length - j) ⟨0, _⟩ ⟨S.only ⟨rfl, rfl, rfl, rfl, rfl, trivial⟩, H, ⟨Nat.zero_le _, chunks_hi _ (by omega), by rw [List.drop_zero]⟩⟩ ?_
                            clear S a H; rintro ⟨j, mk⟩ a w ⟨S, H, hinv⟩
                            obtain ⟨hj, hmk, hk⟩ := hinv
                            refine wp_seq ?_
                            refine c_region ?_
                            refine l_pure S (p_lss rfl rfl) rfl rfl rfl ?_; clear S a; intro a S
                            refine l_nil ?_
                            refine e_then ?_
                            refine wp_seq ?_
                            refine c_cond S rfl (fun c21 => ?_) (fun c21 => ?_)
                            · skip
                              have c21 := of_decide_eq_true c21
                              refine wp_skip ?_
                              refine e_then ?_
                              refine wp_seq ?_
                              refine wp_block ?_
                              refine wp_seq ?_
                              refine c_region ?_
                              obtain ⟨ad, hA3⟩ := C_some h3.out (by omega : j < v.f3.length)
                              subst hA3
                              obtain ⟨cs, hK, hrd⟩ := row_agg (P := Try.prog) (t := 43) h3.out (get_some z43 (by omega : j < v.f3.length)) sz43 ag43
                              obtain ⟨B3, d3, B6, d6, rfl, hl3, hc3, hl6, hc6⟩ := k43_open hK
                              clear hK
                              refine l_pure S (p_indexAddr rfl rfl (fun w => ia_any Try.underlying41 sz43 (by omega) (by omega))) rfl rfl rfl ?_; clear S a; intro a S
                              refine l_read S H (hrd _ _ _ _ rfl (by show (j : Int).toNat * 7 = j * 7; omega)) rfl rfl rfl ?_; clear S a; intro a S
                              refine l_alloc (cs := _) S H rfl (fun w => al zv43) rfl rfl rfl ?_; clear S a H; intro g22 w a H S
                              refine l_storeAll S H rfl rfl rfl sz43 .here rfl (by simp [Value.oneCell']) rfl rfl ?_; clear S a H; intro w a H S
                              refine l_nil ?_
                              refine e_then ?_
                              refine wp_seq ?_
                              refine wp_seq ?_
                              refine c_region ?_
                              refine l_pure S (p_move rfl) rfl rfl rfl ?_; clear S a; intro a S
                              refine l_pure S (p_lss rfl rfl) rfl rfl rfl ?_; clear S a; intro a S
                              refine l_nil ?_
                              refine e_then ?_
                              refine c_cond S rfl (fun c24 => ?_) (fun c24 => ?_)
                              · skip
                                have c24 := of_decide_eq_true c24
                                refine wp_seq ?_
                                refine c_region ?_
                                refine l_pure S (p_assign rfl) rfl rfl rfl ?_; clear S a; intro a S
                                refine l_nil ?_
                                refine e_then ?_
                                refine wp_ret ?_
                                refine e_then_ret ?_
                                refine e_in_ret ?_
                                refine e_then_ret ?_
                                refine e_then_ret ?_
                                refine e_in_ret ?_
                                refine e_then_ret ?_
                                exact r_ret1 S rfl rfl ⟨by rw [weigh_eq, if_neg (by simp_all), if_neg (by simp_all), ← hk]; exact congrArg (fun z => Ending.returned (.int .i64 z)) (kids_neg (by omega) (by omega)).symm, H.below⟩
                              · skip
                                have c24 := of_decide_eq_false c24
                                refine wp_skip ?_
                                refine e_then ?_
                                refine c_region ?_
                                refine l_read S H (r_loadn (m := 7) rfl List.mem_cons_self ag43 sz43 rfl rfl) rfl rfl rfl ?_; clear S a; intro a S
                                refine l_pure S (p_move rfl) rfl rfl rfl ?_; clear S a; intro a S
                                refine l_pure S (p_sub (r := ((n - 1 : Nat) : Int)) rfl rfl (by rw [show (n : Int) - 1 = ((n - 1 : Nat) : Int) by omega]; exact IntWalk.i64_in _ (by omega))) rfl rfl rfl ?_; clear S a; intro a S
                                refine l_pure S (p_move rfl) rfl rfl rfl ?_; clear S a; intro a S
                                refine l_call S rfl rfl Try.func47 rfl rfl (ih (n - 1) (by omega) (v.f3.getD j z43) _ _ _ _ mk _ (ok_kid hok hn1 (by omega)) (by omega) (C_old hc3 H) (C_old hc6 H)) rfl rfl rfl ?_
                                rintro e w ⟨rfl, hb⟩
                                refine ⟨_, rfl, ?_⟩; clear S a; intro a S
                                replace H := (H.later hb).sub (List.nil_sublist _); clear hb
                                refine l_pure S (p_assign rfl) rfl rfl rfl ?_; clear S a; intro a S
                                refine l_nil ?_
                                refine e_in 6 ?_
                                refine e_then ?_
                                refine c_region ?_
                                refine l_pure S (p_add (r := _) rfl rfl (IntWalk.i64_in _ (by omega))) rfl rfl rfl ?_; clear S a; intro a S
                                refine l_pure S (p_move rfl) rfl rfl rfl ?_; clear S a; intro a S
                                refine l_nil ?_
                                refine e_then ?_
                                exact ⟨⟨j + 1, _⟩, ⟨S.only ⟨rfl, rfl, rfl, rfl, rfl, trivial⟩, H, ⟨by omega, weigh_hi _ _ (by omega), by rw [← hk, kids_step (by omega : j < v.f3.length) (by omega)]⟩⟩, by show v.f3.length - (j + 1) < v.f3.length - j; omega⟩
                            · skip
                              have c21 := of_decide_eq_false c21
                              refine wp_exit ?_
                              refine e_then_exit ?_
                              refine e_then_exit ?_
                              refine e_in_exit ?_
                              refine e_then ?_
                              refine wp_seq ?_
                              refine c_region ?_
                              refine l_pure S (p_move rfl) rfl rfl rfl ?_; clear S a; intro a S
                              refine l_pure S (p_assign rfl) rfl rfl rfl ?_; clear S a; intro a S
                              refine l_nil ?_
                              refine e_then ?_
                              refine wp_ret ?_
                              exact r_ret1 S rfl rfl ⟨by rw [weigh_eq, if_neg (by simp_all), if_neg (by simp_all), ← hk, List.drop_eq_nil_of_le (by omega)]; rfl, H.below⟩
                      · skip
                        refine l_off S rfl rfl rfl rfl bc9 rfl rfl ?_; clear S a; intro a S
                        refine l_off S rfl rfl rfl rfl bc9 rfl rfl ?_; clear S a; intro a S
                        refine l_off S rfl rfl rfl rfl bc9 rfl rfl ?_; clear S a; intro a S
                        refine l_off S rfl rfl rfl rfl bc9 rfl rfl ?_; clear S a; intro a S
                        refine l_off S rfl rfl rfl rfl bc9 rfl rfl ?_; clear S a; intro a S
                        refine l_pure S (p_pick_f rfl bc9 rfl) rfl rfl rfl ?_; clear S a; intro a S
                        refine l_nil ?_
                        refine e_then ?_
                        refine c_cond (b := false) S rfl (fun h => by cases h) (fun _ => ?_)
                        refine wp_exit ?_
                        refine e_then_exit ?_
                        refine e_then_exit ?_
                        refine e_in_exit ?_
                        refine e_then ?_
                        refine wp_seq ?_
                        refine wp_seq ?_
                        refine c_region ?_
                        refine l_pure S (p_fieldAddr rfl (fun w => fa43_6 w _ _)) rfl rfl rfl ?_; clear S a; intro a S
                        refine l_read S H (r_load rfl List.mem_cons_self rfl (fun w hc => ld1 ag28 hc)) rfl rfl rfl ?_; clear S a; intro a S
                        refine l_pure S (p_builtin (xs := [_]) rfl (fun _ _ _ => rfl)) rfl rfl rfl ?_; clear S a; intro a S
                        refine l_pure S (p_move rfl) rfl rfl rfl ?_; clear S a; intro a S
                        refine l_nil ?_
                        refine e_then ?_
                        refine wp_block ?_
                        have hline : badLine v = false := by unfold badLine; first | (rw [good_all (by omega) hgood]; simp) | (simp_all; done) | grind
                        refine c_loop (σ := Nat) (fun s_ a w => match s_ with | i => SL a 239 [] [(3, .pointer (some ⟨g1, 0, none⟩)), (1, .int .i64 (n : Int)), (2, .int .i64 (chunksF (v.f6.take i) (m - (1 + v.f1.size + v.f2.size)))), (211, .slice A6 v.f6.length cap6), (212, .int .i64 (v.f6.length : Int)), (213, .int .i64 (i : Int))] ∧ HH (w0.heap.size) w0 w [(g1, .cells #[.int .u8 v.f0, .string v.f1, .string v.f2, .slice A3 v.f3.length cap3, .bool v.f4, .bool v.f5, .slice A6 v.f6.length cap6] 43 (0, 0))] ∧ (i ≤ v.f6.length)) (fun s_ => match s_ with | i => v.f6.length - i) 0 ⟨S.only ⟨rfl, rfl, rfl, rfl, rfl, rfl, trivial⟩, H, Nat.zero_le _⟩ ?_
                        clear S a H; rintro i a w ⟨S, H, hinv⟩
                        refine wp_seq ?_
                        refine c_region ?_
                        refine l_pure S (p_lss rfl rfl) rfl rfl rfl ?_; clear S a; intro a S
                        refine l_nil ?_
                        refine e_then ?_
                        refine wp_seq ?_
                        refine c_cond S rfl (fun c28 => ?_) (fun c28 => ?_)
                        · skip
                          have c28 := of_decide_eq_true c28
                          refine wp_skip ?_
                          refine e_then ?_
                          refine wp_seq ?_
                          refine wp_block ?_
                          refine wp_seq ?_
                          refine c_region ?_
                          obtain ⟨ad, hA6⟩ := C_some h6.out (by omega : i < v.f6.length)
                          subst hA6
                          refine l_pure S (p_indexAddr rfl rfl (fun w => ia_any Try.underlying28 sz9 (by omega) (by omega))) rfl rfl rfl ?_; clear S a; intro a S
                          refine l_read S H (r_row (i := i) h6.out rfl (by omega) (get_some ByteArray.empty (by omega)) ag9 rfl) rfl rfl rfl ?_; clear S a; intro a S
                          refine l_pure S (p_assign rfl) rfl rfl rfl ?_; clear S a; intro a S
                          refine l_nil ?_
                          refine e_then ?_
                          refine c_region ?_
                          refine l_pure S (p_move rfl) rfl rfl rfl ?_; clear S a; intro a S
                          refine l_pure S (p_move rfl) rfl rfl rfl ?_; clear S a; intro a S
                          refine l_pure S (p_builtin (xs := [_]) rfl (fun _ _ _ => rfl)) rfl rfl rfl ?_; clear S a; intro a S
                          have hsz1 := ok_chunk hok (by omega : i < v.f6.length)
                          refine l_pure S (p_add (r := _) rfl rfl (IntWalk.i64_in _ (by omega))) rfl rfl rfl ?_; clear S a; intro a S
                          refine l_pure S (p_sub (r := chunksF (v.f6.take (i + 1)) (m - (1 + v.f1.size + v.f2.size))) rfl rfl (by rw [chunks_succ _ (by omega : i < v.f6.length)]; exact IntWalk.i64_left _)) rfl rfl rfl ?_; clear S a; intro a S
                          refine l_pure S (p_assign rfl) rfl rfl rfl ?_; clear S a; intro a S
                          refine l_nil ?_
                          refine e_in 4 ?_
                          refine e_then ?_
                          refine c_region ?_
                          refine l_pure S (p_add (r := _) rfl rfl (IntWalk.i64_in _ (by omega))) rfl rfl rfl ?_; clear S a; intro a S
                          refine l_pure S (p_move rfl) rfl rfl rfl ?_; clear S a; intro a S
                          refine l_nil ?_
                          refine e_then ?_
                          exact ⟨(i + 1), ⟨S.only ⟨rfl, rfl, rfl, rfl, rfl, rfl, trivial⟩, H, by omega⟩, by show v.f6.length - (i + 1) < v.f6.length - i; omega⟩
                        · skip
                          have c28 := of_decide_eq_false c28
                          refine wp_exit ?_
                          refine e_then_exit ?_
                          refine e_then_exit ?_
                          refine e_in_exit ?_
                          refine e_then ?_
                          refine wp_seq ?_
                          refine wp_seq ?_
                          refine c_region ?_
                          refine l_pure S (p_fieldAddr rfl (fun w => fa43_3 w _ _)) rfl rfl rfl ?_; clear S a; intro a S
                          refine l_read S H (r_load rfl List.mem_cons_self rfl (fun w hc => ld1 ag41 hc)) rfl rfl rfl ?_; clear S a; intro a S
                          refine l_pure S (p_builtin (xs := [_]) rfl (fun _ _ _ => rfl)) rfl rfl rfl ?_; clear S a; intro a S
                          refine l_pure S (p_move rfl) rfl rfl rfl ?_; clear S a; intro a S
                          refine l_nil ?_
                          refine e_then ?_
                          refine wp_block ?_
                          replace H := H.sub (List.nil_sublist _)
                          have hcc1 : cc1 n m v = false := by rw [← hb30]; assumption
                          have hn1 : 1 ≤ n := by unfold cc1 at hcc1; grind
                          have hch : i = v.f6.length := by omega
                          subst hch
                          rw [List.take_length] at S
                          refine c_loop (σ := Nat × Int) (fun s_ a w => match s_ with | ⟨j, mk⟩ => SL a 239 [] [(1, .int .i64 (n : Int)), (2, .int .i64 mk), (224, .slice A3 v.f3.length cap3), (225, .int .i64 (v.f3.length : Int)), (226, .int .i64 (j : Int))] ∧ HH (w0.heap.size) w0 w [] ∧ (j ≤ v.f3.length ∧ mk ≤ 9223372036854775807 ∧ kidsF (weighF (n - 1)) (v.f3.drop j) mk = kidsF (weighF (n - 1)) v.f3 (chunksF v.f6 (m - (1 + v.f1.size + v.f2.size))))) (fun s_ => match s_ with | ⟨j, mk⟩ => v.f3.length - j) ⟨0, _⟩ ⟨S.only ⟨rfl, rfl, rfl, rfl, rfl, trivial⟩, H, ⟨Nat.zero_le _, chunks_hi _ (by omega), by rw [List.drop_zero]⟩⟩ ?_
                          clear S a H; rintro ⟨j, mk⟩ a w ⟨S, H, hinv⟩
                          obtain ⟨hj, hmk, hk⟩ := hinv
                          refine wp_seq ?_
                          refine c_region ?_
                          refine l_pure S (p_lss rfl rfl) rfl rfl rfl ?_; clear S a; intro a S
                          refine l_nil ?_
                          refine e_then ?_
                          refine wp_seq ?_
                          refine c_cond S rfl (fun c30 => ?_) (fun c30 => ?_)
                          · skip
                            have c30 := of_decide_eq_true c30
                            refine wp_skip ?_
                            refine e_then ?_
                            refine wp_seq ?_
                            refine wp_block ?_
                            refine wp_seq ?_
                            refine c_region ?_
                            obtain ⟨ad, hA3⟩ := C_some h3.out (by omega : j < v.f3.length)
                            subst hA3
                            obtain ⟨cs, hK, hrd⟩ := row_agg (P := Try.prog) (t := 43) h3.out (get_some z43 (by omega : j < v.f3.length)) sz43 ag43
                            obtain ⟨B3, d3, B6, d6, rfl, hl3, hc3, hl6, hc6⟩ := k43_open hK
                            clear hK
                            refine l_pure S (p_indexAddr rfl rfl (fun w => ia_any Try.underlying41 sz43 (by omega) (by omega))) rfl rfl rfl ?_; clear S a; intro a S
                            refine l_read S H (hrd _ _ _ _ rfl (by show (j : Int).toNat * 7 = j * 7; omega)) rfl rfl rfl ?_; clear S a; intro a S
                            refine l_alloc (cs := _) S H rfl (fun w => al zv43) rfl rfl rfl ?_; clear S a H; intro g31 w a H S
                            refine l_storeAll S H rfl rfl rfl sz43 .here rfl (by simp [Value.oneCell']) rfl rfl ?_; clear S a H; intro w a H S
                            refine l_nil ?_
                            refine e_then ?_
                            refine wp_seq ?_
                            refine wp_seq ?_
                            refine c_region ?_
                            refine l_pure S (p_move rfl) rfl rfl rfl ?_; clear S a; intro a S
                            refine l_pure S (p_lss rfl rfl) rfl rfl rfl ?_; clear S a; intro a S
                            refine l_nil ?_
                            refine e_then ?_
                            refine c_cond S rfl (fun c33 => ?_) (fun c33 => ?_)
                            · skip
                              have c33 := of_decide_eq_true c33
                              refine wp_seq ?_
                              refine c_region ?_
                              refine l_pure S (p_assign rfl) rfl rfl rfl ?_; clear S a; intro a S
                              refine l_nil ?_
                              refine e_then ?_
                              refine wp_ret ?_
                              refine e_then_ret ?_
                              refine e_in_ret ?_
                              refine e_then_ret ?_
                              refine e_then_ret ?_
                              refine e_in_ret ?_
                              refine e_then_ret ?_
                              exact r_ret1 S rfl rfl ⟨by rw [weigh_eq, if_neg (by simp_all), if_neg (by simp_all), ← hk]; exact congrArg (fun z => Ending.returned (.int .i64 z)) (kids_neg (by omega) (by omega)).symm, H.below⟩
                            · skip
                              have c33 := of_decide_eq_false c33
                              refine wp_skip ?_
                              refine e_then ?_
                              refine c_region ?_
                              refine l_read S H (r_loadn (m := 7) rfl List.mem_cons_self ag43 sz43 rfl rfl) rfl rfl rfl ?_; clear S a; intro a S
                              refine l_pure S (p_move rfl) rfl rfl rfl ?_; clear S a; intro a S
                              refine l_pure S (p_sub (r := ((n - 1 : Nat) : Int)) rfl rfl (by rw [show (n : Int) - 1 = ((n - 1 : Nat) : Int) by omega]; exact IntWalk.i64_in _ (by omega))) rfl rfl rfl ?_; clear S a; intro a S
                              refine l_pure S (p_move rfl) rfl rfl rfl ?_; clear S a; intro a S
                              refine l_call S rfl rfl Try.func47 rfl rfl (ih (n - 1) (by omega) (v.f3.getD j z43) _ _ _ _ mk _ (ok_kid hok hn1 (by omega)) (by omega) (C_old hc3 H) (C_old hc6 H)) rfl rfl rfl ?_
                              rintro e w ⟨rfl, hb⟩
                              refine ⟨_, rfl, ?_⟩; clear S a; intro a S
                              replace H := (H.later hb).sub (List.nil_sublist _); clear hb
                              refine l_pure S (p_assign rfl) rfl rfl rfl ?_; clear S a; intro a S
                              refine l_nil ?_
                              refine e_in 6 ?_
                              refine e_then ?_
                              refine c_region ?_
                              refine l_pure S (p_add (r := _) rfl rfl (IntWalk.i64_in _ (by omega))) rfl rfl rfl ?_; clear S a; intro a S
                              refine l_pure S (p_move rfl) rfl rfl rfl ?_; clear S a; intro a S
                              refine l_nil ?_
                              refine e_then ?_
                              exact ⟨⟨j + 1, _⟩, ⟨S.only ⟨rfl, rfl, rfl, rfl, rfl, trivial⟩, H, ⟨by omega, weigh_hi _ _ (by omega), by rw [← hk, kids_step (by omega : j < v.f3.length) (by omega)]⟩⟩, by show v.f3.length - (j + 1) < v.f3.length - j; omega⟩
                          · skip
                            have c30 := of_decide_eq_false c30
                            refine wp_exit ?_
                            refine e_then_exit ?_
                            refine e_then_exit ?_
                            refine e_in_exit ?_
                            refine e_then ?_
                            refine wp_seq ?_
                            refine c_region ?_
                            refine l_pure S (p_move rfl) rfl rfl rfl ?_; clear S a; intro a S
                            refine l_pure S (p_assign rfl) rfl rfl rfl ?_; clear S a; intro a S
                            refine l_nil ?_
                            refine e_then ?_
                            refine wp_ret ?_
                            exact r_ret1 S rfl rfl ⟨by rw [weigh_eq, if_neg (by simp_all), if_neg (by simp_all), ← hk, List.drop_eq_nil_of_le (by omega)]; rfl, H.below⟩
                  · skip
                    refine c_region ?_
                    refine l_pure S (p_move rfl) rfl rfl rfl ?_; clear S a; intro a S
                    refine l_pure S (p_not rfl) rfl rfl rfl ?_; clear S a; intro a S
                    refine l_pure S (p_move rfl) rfl rfl rfl ?_; clear S a; intro a S
                    refine l_split (S.of 169 rfl) (fun bc36 => ?_) (fun bc36 => ?_)
                    · skip
                      have c36 := bc36
                      replace c36 := not_eq_true_ c36
                      
                      refine l_on S rfl rfl rfl rfl bc36 ?_
                      refine l_pure S (p_fieldAddr rfl (fun w => fa43_0 w _ _)) rfl rfl rfl ?_; clear S a; intro a S
                      refine l_on S rfl rfl rfl rfl bc36 ?_
                      refine l_read S H (r_load rfl List.mem_cons_self rfl (fun w hc => ld1 ag5 hc)) rfl rfl rfl ?_; clear S a; intro a S
                      refine l_on S rfl rfl rfl rfl bc36 ?_
                      refine l_call S rfl rfl Try.func20 rfl rfl (PFnRawTells.spec_Line.calls v.f0 _ _ (line_f v.f0)) rfl rfl rfl ?_
                      rintro e w ⟨rfl, hd⟩
                      refine ⟨_, rfl, ?_⟩; clear S a; intro a S
                      replace H := H.later hd.below; clear hd
                      refine l_on S rfl rfl rfl rfl bc36 ?_
                      refine l_pure S (p_not rfl) rfl rfl rfl ?_; clear S a; intro a S
                      refine l_pure S (p_pick_t rfl bc36 rfl) rfl rfl rfl ?_; clear S a; intro a S
                      refine l_pure S (p_move rfl) rfl rfl rfl ?_; clear S a; intro a S
                      refine l_split (S.of 175 rfl) (fun bc39 => ?_) (fun bc39 => ?_)
                      · skip
                        have c39 := bc39
                        replace c39 := not_eq_true_ c39
                        
                        refine l_on S rfl rfl rfl rfl bc39 ?_
                        refine l_pure S (p_fieldAddr rfl (fun w => fa43_0 w _ _)) rfl rfl rfl ?_; clear S a; intro a S
                        refine l_on S rfl rfl rfl rfl bc39 ?_
                        refine l_read S H (r_load rfl List.mem_cons_self rfl (fun w hc => ld1 ag5 hc)) rfl rfl rfl ?_; clear S a; intro a S
                        refine l_on S rfl rfl rfl rfl bc39 ?_
                        refine l_call S rfl rfl Try.func41 rfl rfl (PFnRawTells.spec_Blob.calls v.f0 _ _ (blob_f v.f0)) rfl rfl rfl ?_
                        rintro e w ⟨rfl, hd⟩
                        refine ⟨_, rfl, ?_⟩; clear S a; intro a S
                        replace H := H.later hd.below; clear hd
                        refine l_on S rfl rfl rfl rfl bc39 ?_
                        refine l_pure S (p_not rfl) rfl rfl rfl ?_; clear S a; intro a S
                        refine l_pure S (p_pick_t rfl bc39 rfl) rfl rfl rfl ?_; clear S a; intro a S
                        refine l_pure S (p_move rfl) rfl rfl rfl ?_; clear S a; intro a S
                        refine l_split (S.of 181 rfl) (fun bc42 => ?_) (fun bc42 => ?_)
                        · skip
                          have c42 := bc42
                          replace c42 := not_eq_true_ c42
                          
                          refine l_off S rfl rfl rfl rfl bc42 rfl rfl ?_; clear S a; intro a S
                          refine l_off S rfl rfl rfl rfl bc42 rfl rfl ?_; clear S a; intro a S
                          refine l_off S rfl rfl rfl rfl bc42 rfl rfl ?_; clear S a; intro a S
                          refine l_pure S (p_pick_t rfl bc42 rfl) rfl rfl rfl ?_; clear S a; intro a S
                          refine l_pure S (p_assign rfl) rfl rfl rfl ?_; clear S a; intro a S
                          refine l_nil ?_
                          refine e_then ?_
                          exact ⟨_, S.only ⟨rfl, rfl, rfl, rfl, rfl, rfl, trivial⟩, H, (by first | (simp only [cc1, cc2, cc3, cc4, cc5]; grind) | (simp only [cc1, cc2, cc3, cc4, cc5]; simp_all; done) | (simp only [cc1, cc2, cc3, cc4, cc5]; simp_all; omega))⟩
                        · skip
                          have c42 := bc42
                          replace c42 := not_eq_false_ c42
                          
                          refine l_on S rfl rfl rfl rfl bc42 ?_
                          refine l_pure S (p_fieldAddr rfl (fun w => fa43_0 w _ _)) rfl rfl rfl ?_; clear S a; intro a S
                          refine l_on S rfl rfl rfl rfl bc42 ?_
                          refine l_read S H (r_load rfl List.mem_cons_self rfl (fun w hc => ld1 ag5 hc)) rfl rfl rfl ?_; clear S a; intro a S
                          refine l_on S rfl rfl rfl rfl bc42 ?_
                          refine l_pure S (p_eql rfl rfl) rfl rfl rfl ?_; clear S a; intro a S
                          refine l_pure S (p_pick_f rfl bc42 rfl) rfl rfl rfl ?_; clear S a; intro a S
                          refine l_pure S (p_assign rfl) rfl rfl rfl ?_; clear S a; intro a S
                          refine l_nil ?_
                          refine e_then ?_
                          exact ⟨_, S.only ⟨rfl, rfl, rfl, rfl, rfl, rfl, trivial⟩, H, (by first | (simp only [cc1, cc2, cc3, cc4, cc5]; grind) | (simp only [cc1, cc2, cc3, cc4, cc5]; simp_all; done) | (simp only [cc1, cc2, cc3, cc4, cc5]; simp_all; omega))⟩
                      · skip
                        have c39 := bc39
                        replace c39 := not_eq_false_ c39
                        
                        refine l_off S rfl rfl rfl rfl bc39 rfl rfl ?_; clear S a; intro a S
                        refine l_off S rfl rfl rfl rfl bc39 rfl rfl ?_; clear S a; intro a S
                        refine l_off S rfl rfl rfl rfl bc39 rfl rfl ?_; clear S a; intro a S
                        refine l_off S rfl rfl rfl rfl bc39 rfl rfl ?_; clear S a; intro a S
                        refine l_pure S (p_pick_f rfl bc39 rfl) rfl rfl rfl ?_; clear S a; intro a S
                        refine l_pure S (p_move rfl) rfl rfl rfl ?_; clear S a; intro a S
                        refine l_on S rfl rfl rfl rfl rfl ?_
                        refine l_pure S (p_fieldAddr rfl (fun w => fa43_0 w _ _)) rfl rfl rfl ?_; clear S a; intro a S
                        refine l_on S rfl rfl rfl rfl rfl ?_
                        refine l_read S H (r_load rfl List.mem_cons_self rfl (fun w hc => ld1 ag5 hc)) rfl rfl rfl ?_; clear S a; intro a S
                        refine l_on S rfl rfl rfl rfl rfl ?_
                        refine l_pure S (p_eql rfl rfl) rfl rfl rfl ?_; clear S a; intro a S
                        refine l_pure S (p_pick_f rfl rfl rfl) rfl rfl rfl ?_; clear S a; intro a S
                        refine l_pure S (p_assign rfl) rfl rfl rfl ?_; clear S a; intro a S
                        refine l_nil ?_
                        refine e_then ?_
                        exact ⟨_, S.only ⟨rfl, rfl, rfl, rfl, rfl, rfl, trivial⟩, H, (by first | (simp only [cc1, cc2, cc3, cc4, cc5]; grind) | (simp only [cc1, cc2, cc3, cc4, cc5]; simp_all; done) | (simp only [cc1, cc2, cc3, cc4, cc5]; simp_all; omega))⟩
                    · skip
                      have c36 := bc36
                      replace c36 := not_eq_false_ c36
                      
                      refine l_off S rfl rfl rfl rfl bc36 rfl rfl ?_; clear S a; intro a S
                      refine l_off S rfl rfl rfl rfl bc36 rfl rfl ?_; clear S a; intro a S
                      refine l_off S rfl rfl rfl rfl bc36 rfl rfl ?_; clear S a; intro a S
                      refine l_off S rfl rfl rfl rfl bc36 rfl rfl ?_; clear S a; intro a S
                      refine l_pure S (p_pick_f rfl bc36 rfl) rfl rfl rfl ?_; clear S a; intro a S
                      refine l_pure S (p_move rfl) rfl rfl rfl ?_; clear S a; intro a S
                      refine l_off S rfl rfl rfl rfl rfl rfl rfl ?_; clear S a; intro a S
                      refine l_off S rfl rfl rfl rfl rfl rfl rfl ?_; clear S a; intro a S
                      refine l_off S rfl rfl rfl rfl rfl rfl rfl ?_; clear S a; intro a S
                      refine l_off S rfl rfl rfl rfl rfl rfl rfl ?_; clear S a; intro a S
                      refine l_pure S (p_pick_f rfl rfl rfl) rfl rfl rfl ?_; clear S a; intro a S
                      refine l_pure S (p_move rfl) rfl rfl rfl ?_; clear S a; intro a S
                      refine l_on S rfl rfl rfl rfl rfl ?_
                      refine l_pure S (p_fieldAddr rfl (fun w => fa43_0 w _ _)) rfl rfl rfl ?_; clear S a; intro a S
                      refine l_on S rfl rfl rfl rfl rfl ?_
                      refine l_read S H (r_load rfl List.mem_cons_self rfl (fun w hc => ld1 ag5 hc)) rfl rfl rfl ?_; clear S a; intro a S
                      refine l_on S rfl rfl rfl rfl rfl ?_
                      refine l_pure S (p_eql rfl rfl) rfl rfl rfl ?_; clear S a; intro a S
                      refine l_pure S (p_pick_f rfl rfl rfl) rfl rfl rfl ?_; clear S a; intro a S
                      refine l_pure S (p_assign rfl) rfl rfl rfl ?_; clear S a; intro a S
                      refine l_nil ?_
                      refine e_then ?_
                      exact ⟨_, S.only ⟨rfl, rfl, rfl, rfl, rfl, rfl, trivial⟩, H, (by first | (simp only [cc1, cc2, cc3, cc4, cc5]; grind) | (simp only [cc1, cc2, cc3, cc4, cc5]; simp_all; done) | (simp only [cc1, cc2, cc3, cc4, cc5]; simp_all; omega))⟩
              · skip
                refine c_region ?_
                refine l_pure S (p_fieldAddr rfl (fun w => fa43_6 w _ _)) rfl rfl rfl ?_; clear S a; intro a S
                refine l_read S H (r_load rfl List.mem_cons_self rfl (fun w hc => ld1 ag28 hc)) rfl rfl rfl ?_; clear S a; intro a S
                refine l_pure S (p_builtin (xs := [_]) rfl (fun _ _ _ => rfl)) rfl rfl rfl ?_; clear S a; intro a S
                refine l_pure S (p_gtr rfl rfl) rfl rfl rfl ?_; clear S a; intro a S
                refine l_pure S (p_move rfl) rfl rfl rfl ?_; clear S a; intro a S
                refine l_split (S.of 141 rfl) (fun bc51 => ?_) (fun bc51 => ?_)
                · skip
                  have c51 := bc51
                  have c51 := of_decide_eq_true c51
                  refine l_on S rfl rfl rfl rfl bc51 ?_
                  refine l_pure S (p_fieldAddr rfl (fun w => fa43_0 w _ _)) rfl rfl rfl ?_; clear S a; intro a S
                  refine l_on S rfl rfl rfl rfl bc51 ?_
                  refine l_read S H (r_load rfl List.mem_cons_self rfl (fun w hc => ld1 ag5 hc)) rfl rfl rfl ?_; clear S a; intro a S
                  refine l_on S rfl rfl rfl rfl bc51 ?_
                  refine l_pure S (p_neq rfl rfl) rfl rfl rfl ?_; clear S a; intro a S
                  refine l_on S rfl rfl rfl rfl bc51 ?_
                  refine l_pure S (p_move rfl) rfl rfl rfl ?_; clear S a; intro a S
                  refine l_split (S.of 145 rfl) (fun bc53 => ?_) (fun bc53 => ?_)
                  · skip
                    have c53 := bc53
                    have c53 := bne_iff_ne.1 c53
                    refine l_off S rfl rfl rfl rfl bc53 rfl rfl ?_; clear S a; intro a S
                    refine l_off S rfl rfl rfl rfl bc53 rfl rfl ?_; clear S a; intro a S
                    refine l_off S rfl rfl rfl rfl bc53 rfl rfl ?_; clear S a; intro a S
                    refine l_on S rfl rfl rfl rfl bc51 ?_
                    refine l_pure S (p_pick_t rfl bc53 rfl) rfl rfl rfl ?_; clear S a; intro a S
                    refine l_pure S (p_pick_t rfl bc51 rfl) rfl rfl rfl ?_; clear S a; intro a S
                    refine l_pure S (p_move rfl) rfl rfl rfl ?_; clear S a; intro a S
                    refine l_off S rfl rfl rfl rfl rfl rfl rfl ?_; clear S a; intro a S
                    refine l_off S rfl rfl rfl rfl rfl rfl rfl ?_; clear S a; intro a S
                    refine l_off S rfl rfl rfl rfl rfl rfl rfl ?_; clear S a; intro a S
                    refine l_off S rfl rfl rfl rfl rfl rfl rfl ?_; clear S a; intro a S
                    refine l_offU S rfl rfl rfl rfl rfl rfl ?_; clear S a; intro a S
                    refine l_offU S rfl rfl rfl rfl rfl rfl ?_; clear S a; intro a S
                    refine l_off S rfl rfl rfl rfl rfl rfl rfl ?_; clear S a; intro a S
                    refine l_off S rfl rfl rfl rfl rfl rfl rfl ?_; clear S a; intro a S
                    refine l_offU S rfl rfl rfl rfl rfl rfl ?_; clear S a; intro a S
                    refine l_offU S rfl rfl rfl rfl rfl rfl ?_; clear S a; intro a S
                    refine l_offU S rfl rfl rfl rfl rfl rfl ?_; clear S a; intro a S
                    refine l_offU S rfl rfl rfl rfl rfl rfl ?_; clear S a; intro a S
                    refine l_off S rfl rfl rfl rfl rfl rfl rfl ?_; clear S a; intro a S
                    refine l_pure S (p_pick_t rfl rfl rfl) rfl rfl rfl ?_; clear S a; intro a S
                    refine l_pure S (p_assign rfl) rfl rfl rfl ?_; clear S a; intro a S
                    refine l_nil ?_
                    refine e_then ?_
                    exact ⟨_, S.only ⟨rfl, rfl, rfl, rfl, rfl, rfl, trivial⟩, H, (by first | (simp only [cc1, cc2, cc3, cc4, cc5]; grind) | (simp only [cc1, cc2, cc3, cc4, cc5]; simp_all; done) | (simp only [cc1, cc2, cc3, cc4, cc5]; simp_all; omega))⟩
                  · skip
                    have c53 := bc53
                    have c53 := bne_eq_false_iff_eq.1 c53
                    refine l_on S rfl rfl rfl rfl bc53 ?_
                    refine l_pure S (p_fieldAddr rfl (fun w => fa43_5 w _ _)) rfl rfl rfl ?_; clear S a; intro a S
                    refine l_on S rfl rfl rfl rfl bc53 ?_
                    refine l_read S H (r_load rfl List.mem_cons_self rfl (fun w hc => ld1 ag4 hc)) rfl rfl rfl ?_; clear S a; intro a S
                    refine l_on S rfl rfl rfl rfl bc53 ?_
                    refine l_pure S (p_not rfl) rfl rfl rfl ?_; clear S a; intro a S
                    refine l_on S rfl rfl rfl rfl bc51 ?_
                    refine l_pure S (p_pick_f rfl bc53 rfl) rfl rfl rfl ?_; clear S a; intro a S
                    refine l_pure S (p_pick_t rfl bc51 rfl) rfl rfl rfl ?_; clear S a; intro a S
                    refine l_pure S (p_move rfl) rfl rfl rfl ?_; clear S a; intro a S
                    refine l_split (S.of 151 rfl) (fun bc58 => ?_) (fun bc58 => ?_)
                    · skip
                      have c58 := bc58
                      replace c58 := not_eq_true_ c58
                      
                      refine l_off S rfl rfl rfl rfl bc58 rfl rfl ?_; clear S a; intro a S
                      refine l_off S rfl rfl rfl rfl bc58 rfl rfl ?_; clear S a; intro a S
                      refine l_off S rfl rfl rfl rfl bc58 rfl rfl ?_; clear S a; intro a S
                      refine l_off S rfl rfl rfl rfl bc58 rfl rfl ?_; clear S a; intro a S
                      refine l_offU S rfl rfl rfl rfl rfl rfl ?_; clear S a; intro a S
                      refine l_offU S rfl rfl rfl rfl rfl rfl ?_; clear S a; intro a S
                      refine l_off S rfl rfl rfl rfl bc58 rfl rfl ?_; clear S a; intro a S
                      refine l_off S rfl rfl rfl rfl bc58 rfl rfl ?_; clear S a; intro a S
                      refine l_offU S rfl rfl rfl rfl rfl rfl ?_; clear S a; intro a S
                      refine l_offU S rfl rfl rfl rfl rfl rfl ?_; clear S a; intro a S
                      refine l_offU S rfl rfl rfl rfl rfl rfl ?_; clear S a; intro a S
                      refine l_offU S rfl rfl rfl rfl rfl rfl ?_; clear S a; intro a S
                      refine l_off S rfl rfl rfl rfl bc58 rfl rfl ?_; clear S a; intro a S
                      refine l_pure S (p_pick_t rfl bc58 rfl) rfl rfl rfl ?_; clear S a; intro a S
                      refine l_pure S (p_assign rfl) rfl rfl rfl ?_; clear S a; intro a S
                      refine l_nil ?_
                      refine e_then ?_
                      exact ⟨_, S.only ⟨rfl, rfl, rfl, rfl, rfl, rfl, trivial⟩, H, (by first | (simp only [cc1, cc2, cc3, cc4, cc5]; grind) | (simp only [cc1, cc2, cc3, cc4, cc5]; simp_all; done) | (simp only [cc1, cc2, cc3, cc4, cc5]; simp_all; omega))⟩
                    · skip
                      have c58 := bc58
                      replace c58 := not_eq_false_ c58
                      
                      refine l_on S rfl rfl rfl rfl bc58 ?_
                      refine l_pure S (p_fieldAddr rfl (fun w => fa43_0 w _ _)) rfl rfl rfl ?_; clear S a; intro a S
                      refine l_on S rfl rfl rfl rfl bc58 ?_
                      refine l_read S H (r_load rfl List.mem_cons_self rfl (fun w hc => ld1 ag5 hc)) rfl rfl rfl ?_; clear S a; intro a S
                      refine l_on S rfl rfl rfl rfl bc58 ?_
                      refine l_pure S (p_eql rfl rfl) rfl rfl rfl ?_; clear S a; intro a S
                      refine l_on S rfl rfl rfl rfl bc58 ?_
                      refine l_pure S (p_move rfl) rfl rfl rfl ?_; clear S a; intro a S
                      refine l_split (S.of 155 rfl) (fun bc61 => ?_) (fun bc61 => ?_)
                      · skip
                        have c61 := bc61
                        have c61 := eq_of_beq c61
                        refine l_on S rfl rfl rfl rfl bc61 ?_
                        refine l_pure S (p_fieldAddr rfl (fun w => fa43_5 w _ _)) rfl rfl rfl ?_; clear S a; intro a S
                        refine l_on S rfl rfl rfl rfl bc61 ?_
                        refine l_read S H (r_load rfl List.mem_cons_self rfl (fun w hc => ld1 ag4 hc)) rfl rfl rfl ?_; clear S a; intro a S
                        refine l_on S rfl rfl rfl rfl bc58 ?_
                        refine l_pure S (p_pick_t rfl bc61 rfl) rfl rfl rfl ?_; clear S a; intro a S
                        refine l_on S rfl rfl rfl rfl bc58 ?_
                        refine l_pure S (p_move rfl) rfl rfl rfl ?_; clear S a; intro a S
                        refine l_split (S.of 159 rfl) (fun bc63 => ?_) (fun bc63 => ?_)
                        · skip
                          refine l_on S rfl rfl rfl rfl bc63 ?_
                          refine l_pure S (p_fieldAddr rfl (fun w => fa43_1 w _ _)) rfl rfl rfl ?_; clear S a; intro a S
                          refine l_on S rfl rfl rfl rfl bc63 ?_
                          refine l_read S H (r_load rfl List.mem_cons_self rfl (fun w hc => ld1 ag9 hc)) rfl rfl rfl ?_; clear S a; intro a S
                          refine l_on S rfl rfl rfl rfl bc63 ?_
                          refine l_pure S (p_builtin (xs := [_]) rfl (fun _ _ _ => rfl)) rfl rfl rfl ?_; clear S a; intro a S
                          refine l_on S rfl rfl rfl rfl bc63 ?_
                          refine l_pure S (p_gtr rfl rfl) rfl rfl rfl ?_; clear S a; intro a S
                          refine l_on S rfl rfl rfl rfl bc58 ?_
                          refine l_pure S (p_pick_t rfl bc63 rfl) rfl rfl rfl ?_; clear S a; intro a S
                          refine l_pure S (p_pick_f rfl bc58 rfl) rfl rfl rfl ?_; clear S a; intro a S
                          refine l_pure S (p_assign rfl) rfl rfl rfl ?_; clear S a; intro a S
                          refine l_nil ?_
                          refine e_then ?_
                          exact ⟨_, S.only ⟨rfl, rfl, rfl, rfl, rfl, rfl, trivial⟩, H, (by first | (simp only [cc1, cc2, cc3, cc4, cc5]; grind) | (simp only [cc1, cc2, cc3, cc4, cc5]; simp_all; done) | (simp only [cc1, cc2, cc3, cc4, cc5]; simp_all; omega))⟩
                        · skip
                          refine l_off S rfl rfl rfl rfl bc63 rfl rfl ?_; clear S a; intro a S
                          refine l_off S rfl rfl rfl rfl bc63 rfl rfl ?_; clear S a; intro a S
                          refine l_off S rfl rfl rfl rfl bc63 rfl rfl ?_; clear S a; intro a S
                          refine l_off S rfl rfl rfl rfl bc63 rfl rfl ?_; clear S a; intro a S
                          refine l_on S rfl rfl rfl rfl bc58 ?_
                          refine l_pure S (p_pick_f rfl bc63 rfl) rfl rfl rfl ?_; clear S a; intro a S
                          refine l_pure S (p_pick_f rfl bc58 rfl) rfl rfl rfl ?_; clear S a; intro a S
                          refine l_pure S (p_assign rfl) rfl rfl rfl ?_; clear S a; intro a S
                          refine l_nil ?_
                          refine e_then ?_
                          exact ⟨_, S.only ⟨rfl, rfl, rfl, rfl, rfl, rfl, trivial⟩, H, (by first | (simp only [cc1, cc2, cc3, cc4, cc5]; grind) | (simp only [cc1, cc2, cc3, cc4, cc5]; simp_all; done) | (simp only [cc1, cc2, cc3, cc4, cc5]; simp_all; omega))⟩
                      · skip
                        have c61 := bc61
                        have c61 := ne_of_beq_false c61
                        refine l_off S rfl rfl rfl rfl bc61 rfl rfl ?_; clear S a; intro a S
                        refine l_off S rfl rfl rfl rfl bc61 rfl rfl ?_; clear S a; intro a S
                        refine l_on S rfl rfl rfl rfl bc58 ?_
                        refine l_pure S (p_pick_f rfl bc61 rfl) rfl rfl rfl ?_; clear S a; intro a S
                        refine l_on S rfl rfl rfl rfl bc58 ?_
                        refine l_pure S (p_move rfl) rfl rfl rfl ?_; clear S a; intro a S
                        refine l_off S rfl rfl rfl rfl rfl rfl rfl ?_; clear S a; intro a S
                        refine l_off S rfl rfl rfl rfl rfl rfl rfl ?_; clear S a; intro a S
                        refine l_off S rfl rfl rfl rfl rfl rfl rfl ?_; clear S a; intro a S
                        refine l_off S rfl rfl rfl rfl rfl rfl rfl ?_; clear S a; intro a S
                        refine l_on S rfl rfl rfl rfl bc58 ?_
                        refine l_pure S (p_pick_f rfl rfl rfl) rfl rfl rfl ?_; clear S a; intro a S
                        refine l_pure S (p_pick_f rfl bc58 rfl) rfl rfl rfl ?_; clear S a; intro a S
                        refine l_pure S (p_assign rfl) rfl rfl rfl ?_; clear S a; intro a S
                        refine l_nil ?_
                        refine e_then ?_
                        exact ⟨_, S.only ⟨rfl, rfl, rfl, rfl, rfl, rfl, trivial⟩, H, (by first | (simp only [cc1, cc2, cc3, cc4, cc5]; grind) | (simp only [cc1, cc2, cc3, cc4, cc5]; simp_all; done) | (simp only [cc1, cc2, cc3, cc4, cc5]; simp_all; omega))⟩
                · skip
                  have c51 := bc51
                  have c51 := of_decide_eq_false c51
                  refine l_off S rfl rfl rfl rfl bc51 rfl rfl ?_; clear S a; intro a S
                  refine l_off S rfl rfl rfl rfl bc51 rfl rfl ?_; clear S a; intro a S
                  refine l_off S rfl rfl rfl rfl bc51 rfl rfl ?_; clear S a; intro a S
                  refine l_off S rfl rfl rfl rfl bc51 rfl rfl ?_; clear S a; intro a S
                  refine l_offU S rfl rfl rfl rfl rfl rfl ?_; clear S a; intro a S
                  refine l_offU S rfl rfl rfl rfl rfl rfl ?_; clear S a; intro a S
                  refine l_offU S rfl rfl rfl rfl rfl rfl ?_; clear S a; intro a S
                  refine l_off S rfl rfl rfl rfl bc51 rfl rfl ?_; clear S a; intro a S
                  refine l_pure S (p_pick_f rfl bc51 rfl) rfl rfl rfl ?_; clear S a; intro a S
                  refine l_pure S (p_move rfl) rfl rfl rfl ?_; clear S a; intro a S
                  refine l_on S rfl rfl rfl rfl rfl ?_
                  refine l_pure S (p_fieldAddr rfl (fun w => fa43_0 w _ _)) rfl rfl rfl ?_; clear S a; intro a S
                  refine l_on S rfl rfl rfl rfl rfl ?_
                  refine l_read S H (r_load rfl List.mem_cons_self rfl (fun w hc => ld1 ag5 hc)) rfl rfl rfl ?_; clear S a; intro a S
                  refine l_on S rfl rfl rfl rfl rfl ?_
                  refine l_pure S (p_eql rfl rfl) rfl rfl rfl ?_; clear S a; intro a S
                  refine l_on S rfl rfl rfl rfl rfl ?_
                  refine l_pure S (p_move rfl) rfl rfl rfl ?_; clear S a; intro a S
                  refine l_split (S.of 155 rfl) (fun bc70 => ?_) (fun bc70 => ?_)
                  · skip
                    have c70 := bc70
                    have c70 := eq_of_beq c70
                    refine l_on S rfl rfl rfl rfl bc70 ?_
                    refine l_pure S (p_fieldAddr rfl (fun w => fa43_5 w _ _)) rfl rfl rfl ?_; clear S a; intro a S
                    refine l_on S rfl rfl rfl rfl bc70 ?_
                    refine l_read S H (r_load rfl List.mem_cons_self rfl (fun w hc => ld1 ag4 hc)) rfl rfl rfl ?_; clear S a; intro a S
                    refine l_on S rfl rfl rfl rfl rfl ?_
                    refine l_pure S (p_pick_t rfl bc70 rfl) rfl rfl rfl ?_; clear S a; intro a S
                    refine l_on S rfl rfl rfl rfl rfl ?_
                    refine l_pure S (p_move rfl) rfl rfl rfl ?_; clear S a; intro a S
                    refine l_split (S.of 159 rfl) (fun bc72 => ?_) (fun bc72 => ?_)
                    · skip
                      refine l_on S rfl rfl rfl rfl bc72 ?_
                      refine l_pure S (p_fieldAddr rfl (fun w => fa43_1 w _ _)) rfl rfl rfl ?_; clear S a; intro a S
                      refine l_on S rfl rfl rfl rfl bc72 ?_
                      refine l_read S H (r_load rfl List.mem_cons_self rfl (fun w hc => ld1 ag9 hc)) rfl rfl rfl ?_; clear S a; intro a S
                      refine l_on S rfl rfl rfl rfl bc72 ?_
                      refine l_pure S (p_builtin (xs := [_]) rfl (fun _ _ _ => rfl)) rfl rfl rfl ?_; clear S a; intro a S
                      refine l_on S rfl rfl rfl rfl bc72 ?_
                      refine l_pure S (p_gtr rfl rfl) rfl rfl rfl ?_; clear S a; intro a S
                      refine l_on S rfl rfl rfl rfl rfl ?_
                      refine l_pure S (p_pick_t rfl bc72 rfl) rfl rfl rfl ?_; clear S a; intro a S
                      refine l_pure S (p_pick_f rfl rfl rfl) rfl rfl rfl ?_; clear S a; intro a S
                      refine l_pure S (p_assign rfl) rfl rfl rfl ?_; clear S a; intro a S
                      refine l_nil ?_
                      refine e_then ?_
                      exact ⟨_, S.only ⟨rfl, rfl, rfl, rfl, rfl, rfl, trivial⟩, H, (by first | (simp only [cc1, cc2, cc3, cc4, cc5]; grind) | (simp only [cc1, cc2, cc3, cc4, cc5]; simp_all; done) | (simp only [cc1, cc2, cc3, cc4, cc5]; simp_all; omega))⟩
                    · skip
                      refine l_off S rfl rfl rfl rfl bc72 rfl rfl ?_; clear S a; intro a S
                      refine l_off S rfl rfl rfl rfl bc72 rfl rfl ?_; clear S a; intro a S
                      refine l_off S rfl rfl rfl rfl bc72 rfl rfl ?_; clear S a; intro a S
                      refine l_off S rfl rfl rfl rfl bc72 rfl rfl ?_; clear S a; intro a S
                      refine l_on S rfl rfl rfl rfl rfl ?_
                      refine l_pure S (p_pick_f rfl bc72 rfl) rfl rfl rfl ?_; clear S a; intro a S
                      refine l_pure S (p_pick_f rfl rfl rfl) rfl rfl rfl ?_; clear S a; intro a S
                      refine l_pure S (p_assign rfl) rfl rfl rfl ?_; clear S a; intro a S
                      refine l_nil ?_
                      refine e_then ?_
                      exact ⟨_, S.only ⟨rfl, rfl, rfl, rfl, rfl, rfl, trivial⟩, H, (by first | (simp only [cc1, cc2, cc3, cc4, cc5]; grind) | (simp only [cc1, cc2, cc3, cc4, cc5]; simp_all; done) | (simp only [cc1, cc2, cc3, cc4, cc5]; simp_all; omega))⟩
                  · skip
                    have c70 := bc70
                    have c70 := ne_of_beq_false c70
                    refine l_off S rfl rfl rfl rfl bc70 rfl rfl ?_; clear S a; intro a S
                    refine l_off S rfl rfl rfl rfl bc70 rfl rfl ?_; clear S a; intro a S
                    refine l_on S rfl rfl rfl rfl rfl ?_
                    refine l_pure S (p_pick_f rfl bc70 rfl) rfl rfl rfl ?_; clear S a; intro a S
                    refine l_on S rfl rfl rfl rfl rfl ?_
                    refine l_pure S (p_move rfl) rfl rfl rfl ?_; clear S a; intro a S
                    refine l_off S rfl rfl rfl rfl rfl rfl rfl ?_; clear S a; intro a S
                    refine l_off S rfl rfl rfl rfl rfl rfl rfl ?_; clear S a; intro a S
                    refine l_off S rfl rfl rfl rfl rfl rfl rfl ?_; clear S a; intro a S
                    refine l_off S rfl rfl rfl rfl rfl rfl rfl ?_; clear S a; intro a S
                    refine l_on S rfl rfl rfl rfl rfl ?_
                    refine l_pure S (p_pick_f rfl rfl rfl) rfl rfl rfl ?_; clear S a; intro a S
                    refine l_pure S (p_pick_f rfl rfl rfl) rfl rfl rfl ?_; clear S a; intro a S
                    refine l_pure S (p_assign rfl) rfl rfl rfl ?_; clear S a; intro a S
                    refine l_nil ?_
                    refine e_then ?_
                    exact ⟨_, S.only ⟨rfl, rfl, rfl, rfl, rfl, rfl, trivial⟩, H, (by first | (simp only [cc1, cc2, cc3, cc4, cc5]; grind) | (simp only [cc1, cc2, cc3, cc4, cc5]; simp_all; done) | (simp only [cc1, cc2, cc3, cc4, cc5]; simp_all; omega))⟩
          · skip
            refine c_region ?_
            refine l_pure S (p_fieldAddr rfl (fun w => fa43_5 w _ _)) rfl rfl rfl ?_; clear S a; intro a S
            refine l_read S H (r_load rfl List.mem_cons_self rfl (fun w hc => ld1 ag4 hc)) rfl rfl rfl ?_; clear S a; intro a S
            refine l_pure S (p_move rfl) rfl rfl rfl ?_; clear S a; intro a S
            refine l_split (S.of 116 rfl) (fun bc78 => ?_) (fun bc78 => ?_)
            · skip
              refine l_on S rfl rfl rfl rfl bc78 ?_
              refine l_pure S (p_fieldAddr rfl (fun w => fa43_0 w _ _)) rfl rfl rfl ?_; clear S a; intro a S
              refine l_on S rfl rfl rfl rfl bc78 ?_
              refine l_read S H (r_load rfl List.mem_cons_self rfl (fun w hc => ld1 ag5 hc)) rfl rfl rfl ?_; clear S a; intro a S
              refine l_on S rfl rfl rfl rfl bc78 ?_
              refine l_pure S (p_neq rfl rfl) rfl rfl rfl ?_; clear S a; intro a S
              refine l_pure S (p_pick_t rfl bc78 rfl) rfl rfl rfl ?_; clear S a; intro a S
              refine l_pure S (p_move rfl) rfl rfl rfl ?_; clear S a; intro a S
              refine l_split (S.of 121 rfl) (fun bc80 => ?_) (fun bc80 => ?_)
              · skip
                have c80 := bc80
                have c80 := bne_iff_ne.1 c80
                refine l_on S rfl rfl rfl rfl bc80 ?_
                refine l_pure S (p_fieldAddr rfl (fun w => fa43_0 w _ _)) rfl rfl rfl ?_; clear S a; intro a S
                refine l_on S rfl rfl rfl rfl bc80 ?_
                refine l_read S H (r_load rfl List.mem_cons_self rfl (fun w hc => ld1 ag5 hc)) rfl rfl rfl ?_; clear S a; intro a S
                refine l_on S rfl rfl rfl rfl bc80 ?_
                refine l_pure S (p_neq rfl rfl) rfl rfl rfl ?_; clear S a; intro a S
                refine l_pure S (p_pick_t rfl bc80 rfl) rfl rfl rfl ?_; clear S a; intro a S
                refine l_pure S (p_move rfl) rfl rfl rfl ?_; clear S a; intro a S
                refine l_split (S.of 126 rfl) (fun bc82 => ?_) (fun bc82 => ?_)
                · skip
                  have c82 := bc82
                  have c82 := bne_iff_ne.1 c82
                  refine l_on S rfl rfl rfl rfl bc82 ?_
                  refine l_pure S (p_fieldAddr rfl (fun w => fa43_0 w _ _)) rfl rfl rfl ?_; clear S a; intro a S
                  refine l_on S rfl rfl rfl rfl bc82 ?_
                  refine l_read S H (r_load rfl List.mem_cons_self rfl (fun w hc => ld1 ag5 hc)) rfl rfl rfl ?_; clear S a; intro a S
                  refine l_on S rfl rfl rfl rfl bc82 ?_
                  refine l_pure S (p_neq rfl rfl) rfl rfl rfl ?_; clear S a; intro a S
                  refine l_pure S (p_pick_t rfl bc82 rfl) rfl rfl rfl ?_; clear S a; intro a S
                  refine l_pure S (p_move rfl) rfl rfl rfl ?_; clear S a; intro a S
                  refine l_split (S.of 131 rfl) (fun bc84 => ?_) (fun bc84 => ?_)
                  · skip
                    have c84 := bc84
                    have c84 := bne_iff_ne.1 c84
                    refine l_on S rfl rfl rfl rfl bc84 ?_
                    refine l_pure S (p_fieldAddr rfl (fun w => fa43_0 w _ _)) rfl rfl rfl ?_; clear S a; intro a S
                    refine l_on S rfl rfl rfl rfl bc84 ?_
                    refine l_read S H (r_load rfl List.mem_cons_self rfl (fun w hc => ld1 ag5 hc)) rfl rfl rfl ?_; clear S a; intro a S
                    refine l_on S rfl rfl rfl rfl bc84 ?_
                    refine l_pure S (p_neq rfl rfl) rfl rfl rfl ?_; clear S a; intro a S
                    refine l_pure S (p_pick_t rfl bc84 rfl) rfl rfl rfl ?_; clear S a; intro a S
                    refine l_pure S (p_assign rfl) rfl rfl rfl ?_; clear S a; intro a S
                    refine l_nil ?_
                    refine e_then ?_
                    exact ⟨_, S.only ⟨rfl, rfl, rfl, rfl, rfl, rfl, trivial⟩, H, (by first | (simp only [cc1, cc2, cc3, cc4, cc5]; grind) | (simp only [cc1, cc2, cc3, cc4, cc5]; simp_all; done) | (simp only [cc1, cc2, cc3, cc4, cc5]; simp_all; omega))⟩
                  · skip
                    have c84 := bc84
                    have c84 := bne_eq_false_iff_eq.1 c84
                    refine l_off S rfl rfl rfl rfl bc84 rfl rfl ?_; clear S a; intro a S
                    refine l_off S rfl rfl rfl rfl bc84 rfl rfl ?_; clear S a; intro a S
                    refine l_off S rfl rfl rfl rfl bc84 rfl rfl ?_; clear S a; intro a S
                    refine l_pure S (p_pick_f rfl bc84 rfl) rfl rfl rfl ?_; clear S a; intro a S
                    refine l_pure S (p_assign rfl) rfl rfl rfl ?_; clear S a; intro a S
                    refine l_nil ?_
                    refine e_then ?_
                    exact ⟨_, S.only ⟨rfl, rfl, rfl, rfl, rfl, rfl, trivial⟩, H, (by first | (simp only [cc1, cc2, cc3, cc4, cc5]; grind) | (simp only [cc1, cc2, cc3, cc4, cc5]; simp_all; done) | (simp only [cc1, cc2, cc3, cc4, cc5]; simp_all; omega))⟩
                · skip
                  have c82 := bc82
                  have c82 := bne_eq_false_iff_eq.1 c82
                  refine l_off S rfl rfl rfl rfl bc82 rfl rfl ?_; clear S a; intro a S
                  refine l_off S rfl rfl rfl rfl bc82 rfl rfl ?_; clear S a; intro a S
                  refine l_off S rfl rfl rfl rfl bc82 rfl rfl ?_; clear S a; intro a S
                  refine l_pure S (p_pick_f rfl bc82 rfl) rfl rfl rfl ?_; clear S a; intro a S
                  refine l_pure S (p_move rfl) rfl rfl rfl ?_; clear S a; intro a S
                  refine l_off S rfl rfl rfl rfl rfl rfl rfl ?_; clear S a; intro a S
                  refine l_off S rfl rfl rfl rfl rfl rfl rfl ?_; clear S a; intro a S
                  refine l_off S rfl rfl rfl rfl rfl rfl rfl ?_; clear S a; intro a S
                  refine l_pure S (p_pick_f rfl rfl rfl) rfl rfl rfl ?_; clear S a; intro a S
                  refine l_pure S (p_assign rfl) rfl rfl rfl ?_; clear S a; intro a S
                  refine l_nil ?_
                  refine e_then ?_
                  exact ⟨_, S.only ⟨rfl, rfl, rfl, rfl, rfl, rfl, trivial⟩, H, (by first | (simp only [cc1, cc2, cc3, cc4, cc5]; grind) | (simp only [cc1, cc2, cc3, cc4, cc5]; simp_all; done) | (simp only [cc1, cc2, cc3, cc4, cc5]; simp_all; omega))⟩
              · skip
                have c80 := bc80
                have c80 := bne_eq_false_iff_eq.1 c80
                refine l_off S rfl rfl rfl rfl bc80 rfl rfl ?_; clear S a; intro a S
                refine l_off S rfl rfl rfl rfl bc80 rfl rfl ?_; clear S a; intro a S
                refine l_off S rfl rfl rfl rfl bc80 rfl rfl ?_; clear S a; intro a S
                refine l_pure S (p_pick_f rfl bc80 rfl) rfl rfl rfl ?_; clear S a; intro a S
                refine l_pure S (p_move rfl) rfl rfl rfl ?_; clear S a; intro a S
                refine l_off S rfl rfl rfl rfl rfl rfl rfl ?_; clear S a; intro a S
                refine l_off S rfl rfl rfl rfl rfl rfl rfl ?_; clear S a; intro a S
                refine l_off S rfl rfl rfl rfl rfl rfl rfl ?_; clear S a; intro a S
                refine l_pure S (p_pick_f rfl rfl rfl) rfl rfl rfl ?_; clear S a; intro a S
                refine l_pure S (p_move rfl) rfl rfl rfl ?_; clear S a; intro a S
                refine l_off S rfl rfl rfl rfl rfl rfl rfl ?_; clear S a; intro a S
                refine l_off S rfl rfl rfl rfl rfl rfl rfl ?_; clear S a; intro a S
                refine l_off S rfl rfl rfl rfl rfl rfl rfl ?_; clear S a; intro a S
                refine l_pure S (p_pick_f rfl rfl rfl) rfl rfl rfl ?_; clear S a; intro a S
                refine l_pure S (p_assign rfl) rfl rfl rfl ?_; clear S a; intro a S
                refine l_nil ?_
                refine e_then ?_
                exact ⟨_, S.only ⟨rfl, rfl, rfl, rfl, rfl, rfl, trivial⟩, H, (by first | (simp only [cc1, cc2, cc3, cc4, cc5]; grind) | (simp only [cc1, cc2, cc3, cc4, cc5]; simp_all; done) | (simp only [cc1, cc2, cc3, cc4, cc5]; simp_all; omega))⟩
            · skip
              refine l_off S rfl rfl rfl rfl bc78 rfl rfl ?_; clear S a; intro a S
              refine l_off S rfl rfl rfl rfl bc78 rfl rfl ?_; clear S a; intro a S
              refine l_off S rfl rfl rfl rfl bc78 rfl rfl ?_; clear S a; intro a S
              refine l_pure S (p_pick_f rfl bc78 rfl) rfl rfl rfl ?_; clear S a; intro a S
              refine l_pure S (p_move rfl) rfl rfl rfl ?_; clear S a; intro a S
              refine l_off S rfl rfl rfl rfl rfl rfl rfl ?_; clear S a; intro a S
              refine l_off S rfl rfl rfl rfl rfl rfl rfl ?_; clear S a; intro a S
              refine l_off S rfl rfl rfl rfl rfl rfl rfl ?_; clear S a; intro a S
              refine l_pure S (p_pick_f rfl rfl rfl) rfl rfl rfl ?_; clear S a; intro a S
              refine l_pure S (p_move rfl) rfl rfl rfl ?_; clear S a; intro a S
              refine l_off S rfl rfl rfl rfl rfl rfl rfl ?_; clear S a; intro a S
              refine l_off S rfl rfl rfl rfl rfl rfl rfl ?_; clear S a; intro a S
              refine l_off S rfl rfl rfl rfl rfl rfl rfl ?_; clear S a; intro a S
              refine l_pure S (p_pick_f rfl rfl rfl) rfl rfl rfl ?_; clear S a; intro a S
              refine l_pure S (p_move rfl) rfl rfl rfl ?_; clear S a; intro a S
              refine l_off S rfl rfl rfl rfl rfl rfl rfl ?_; clear S a; intro a S
              refine l_off S rfl rfl rfl rfl rfl rfl rfl ?_; clear S a; intro a S
              refine l_off S rfl rfl rfl rfl rfl rfl rfl ?_; clear S a; intro a S
              refine l_pure S (p_pick_f rfl rfl rfl) rfl rfl rfl ?_; clear S a; intro a S
              refine l_pure S (p_assign rfl) rfl rfl rfl ?_; clear S a; intro a S
              refine l_nil ?_
              refine e_then ?_
              exact ⟨_, S.only ⟨rfl, rfl, rfl, rfl, rfl, rfl, trivial⟩, H, (by first | (simp only [cc1, cc2, cc3, cc4, cc5]; grind) | (simp only [cc1, cc2, cc3, cc4, cc5]; simp_all; done) | (simp only [cc1, cc2, cc3, cc4, cc5]; simp_all; omega))⟩
      · skip
        refine c_region ?_
        refine l_pure S (p_fieldAddr rfl (fun w => fa43_4 w _ _)) rfl rfl rfl ?_; clear S a; intro a S
        refine l_read S H (r_load rfl List.mem_cons_self rfl (fun w hc => ld1 ag4 hc)) rfl rfl rfl ?_; clear S a; intro a S
        refine l_pure S (p_move rfl) rfl rfl rfl ?_; clear S a; intro a S
        refine l_split (S.of 89 rfl) (fun bc97 => ?_) (fun bc97 => ?_)
        · skip
          refine l_on S rfl rfl rfl rfl bc97 ?_
          refine l_pure S (p_fieldAddr rfl (fun w => fa43_0 w _ _)) rfl rfl rfl ?_; clear S a; intro a S
          refine l_on S rfl rfl rfl rfl bc97 ?_
          refine l_read S H (r_load rfl List.mem_cons_self rfl (fun w hc => ld1 ag5 hc)) rfl rfl rfl ?_; clear S a; intro a S
          refine l_on S rfl rfl rfl rfl bc97 ?_
          refine l_pure S (p_neq rfl rfl) rfl rfl rfl ?_; clear S a; intro a S
          refine l_on S rfl rfl rfl rfl bc97 ?_
          refine l_pure S (p_move rfl) rfl rfl rfl ?_; clear S a; intro a S
          refine l_split (S.of 93 rfl) (fun bc99 => ?_) (fun bc99 => ?_)
          · skip
            have c99 := bc99
            have c99 := bne_iff_ne.1 c99
            refine l_on S rfl rfl rfl rfl bc99 ?_
            refine l_pure S (p_fieldAddr rfl (fun w => fa43_0 w _ _)) rfl rfl rfl ?_; clear S a; intro a S
            refine l_on S rfl rfl rfl rfl bc99 ?_
            refine l_read S H (r_load rfl List.mem_cons_self rfl (fun w hc => ld1 ag5 hc)) rfl rfl rfl ?_; clear S a; intro a S
            refine l_on S rfl rfl rfl rfl bc99 ?_
            refine l_pure S (p_neq rfl rfl) rfl rfl rfl ?_; clear S a; intro a S
            refine l_on S rfl rfl rfl rfl bc97 ?_
            refine l_pure S (p_pick_t rfl bc99 rfl) rfl rfl rfl ?_; clear S a; intro a S
            refine l_on S rfl rfl rfl rfl bc97 ?_
            refine l_pure S (p_move rfl) rfl rfl rfl ?_; clear S a; intro a S
            refine l_split (S.of 98 rfl) (fun bc101 => ?_) (fun bc101 => ?_)
            · skip
              have c101 := bc101
              have c101 := bne_iff_ne.1 c101
              refine l_off S rfl rfl rfl rfl bc101 rfl rfl ?_; clear S a; intro a S
              refine l_off S rfl rfl rfl rfl bc101 rfl rfl ?_; clear S a; intro a S
              refine l_on S rfl rfl rfl rfl bc97 ?_
              refine l_pure S (p_pick_t rfl bc101 rfl) rfl rfl rfl ?_; clear S a; intro a S
              refine l_on S rfl rfl rfl rfl bc97 ?_
              refine l_pure S (p_move rfl) rfl rfl rfl ?_; clear S a; intro a S
              refine l_off S rfl rfl rfl rfl rfl rfl rfl ?_; clear S a; intro a S
              refine l_off S rfl rfl rfl rfl rfl rfl rfl ?_; clear S a; intro a S
              refine l_off S rfl rfl rfl rfl rfl rfl rfl ?_; clear S a; intro a S
              refine l_off S rfl rfl rfl rfl rfl rfl rfl ?_; clear S a; intro a S
              refine l_off S rfl rfl rfl rfl rfl rfl rfl ?_; clear S a; intro a S
              refine l_off S rfl rfl rfl rfl rfl rfl rfl ?_; clear S a; intro a S
              refine l_off S rfl rfl rfl rfl rfl rfl rfl ?_; clear S a; intro a S
              refine l_off S rfl rfl rfl rfl rfl rfl rfl ?_; clear S a; intro a S
              refine l_on S rfl rfl rfl rfl bc97 ?_
              refine l_pure S (p_pick_t rfl rfl rfl) rfl rfl rfl ?_; clear S a; intro a S
              refine l_pure S (p_pick_t rfl bc97 rfl) rfl rfl rfl ?_; clear S a; intro a S
              refine l_pure S (p_assign rfl) rfl rfl rfl ?_; clear S a; intro a S
              refine l_nil ?_
              refine e_then ?_
              exact ⟨_, S.only ⟨rfl, rfl, rfl, rfl, rfl, rfl, trivial⟩, H, (by first | (simp only [cc1, cc2, cc3, cc4, cc5]; grind) | (simp only [cc1, cc2, cc3, cc4, cc5]; simp_all; done) | (simp only [cc1, cc2, cc3, cc4, cc5]; simp_all; omega))⟩
            · skip
              have c101 := bc101
              have c101 := bne_eq_false_iff_eq.1 c101
              refine l_on S rfl rfl rfl rfl bc101 ?_
              refine l_pure S (p_fieldAddr rfl (fun w => fa43_5 w _ _)) rfl rfl rfl ?_; clear S a; intro a S
              refine l_on S rfl rfl rfl rfl bc101 ?_
              refine l_read S H (r_load rfl List.mem_cons_self rfl (fun w hc => ld1 ag4 hc)) rfl rfl rfl ?_; clear S a; intro a S
              refine l_on S rfl rfl rfl rfl bc97 ?_
              refine l_pure S (p_pick_f rfl bc101 rfl) rfl rfl rfl ?_; clear S a; intro a S
              refine l_on S rfl rfl rfl rfl bc97 ?_
              refine l_pure S (p_move rfl) rfl rfl rfl ?_; clear S a; intro a S
              refine l_split (S.of 102 rfl) (fun bc105 => ?_) (fun bc105 => ?_)
              · skip
                refine l_off S rfl rfl rfl rfl bc105 rfl rfl ?_; clear S a; intro a S
                refine l_off S rfl rfl rfl rfl bc105 rfl rfl ?_; clear S a; intro a S
                refine l_off S rfl rfl rfl rfl bc105 rfl rfl ?_; clear S a; intro a S
                refine l_off S rfl rfl rfl rfl bc105 rfl rfl ?_; clear S a; intro a S
                refine l_off S rfl rfl rfl rfl bc105 rfl rfl ?_; clear S a; intro a S
                refine l_off S rfl rfl rfl rfl bc105 rfl rfl ?_; clear S a; intro a S
                refine l_off S rfl rfl rfl rfl bc105 rfl rfl ?_; clear S a; intro a S
                refine l_off S rfl rfl rfl rfl bc105 rfl rfl ?_; clear S a; intro a S
                refine l_on S rfl rfl rfl rfl bc97 ?_
                refine l_pure S (p_pick_t rfl bc105 rfl) rfl rfl rfl ?_; clear S a; intro a S
                refine l_pure S (p_pick_t rfl bc97 rfl) rfl rfl rfl ?_; clear S a; intro a S
                refine l_pure S (p_assign rfl) rfl rfl rfl ?_; clear S a; intro a S
                refine l_nil ?_
                refine e_then ?_
                exact ⟨_, S.only ⟨rfl, rfl, rfl, rfl, rfl, rfl, trivial⟩, H, (by first | (simp only [cc1, cc2, cc3, cc4, cc5]; grind) | (simp only [cc1, cc2, cc3, cc4, cc5]; simp_all; done) | (simp only [cc1, cc2, cc3, cc4, cc5]; simp_all; omega))⟩
              · skip
                refine l_on S rfl rfl rfl rfl bc105 ?_
                refine l_pure S (p_fieldAddr rfl (fun w => fa43_1 w _ _)) rfl rfl rfl ?_; clear S a; intro a S
                refine l_on S rfl rfl rfl rfl bc105 ?_
                refine l_read S H (r_load rfl List.mem_cons_self rfl (fun w hc => ld1 ag9 hc)) rfl rfl rfl ?_; clear S a; intro a S
                refine l_on S rfl rfl rfl rfl bc105 ?_
                refine l_pure S (p_builtin (xs := [_]) rfl (fun _ _ _ => rfl)) rfl rfl rfl ?_; clear S a; intro a S
                refine l_on S rfl rfl rfl rfl bc105 ?_
                refine l_pure S (p_fieldAddr rfl (fun w => fa43_3 w _ _)) rfl rfl rfl ?_; clear S a; intro a S
                refine l_on S rfl rfl rfl rfl bc105 ?_
                refine l_read S H (r_load rfl List.mem_cons_self rfl (fun w hc => ld1 ag41 hc)) rfl rfl rfl ?_; clear S a; intro a S
                refine l_on S rfl rfl rfl rfl bc105 ?_
                refine l_pure S (p_builtin (xs := [_]) rfl (fun _ _ _ => rfl)) rfl rfl rfl ?_; clear S a; intro a S
                refine l_on S rfl rfl rfl rfl bc105 ?_
                refine l_pure S (p_add (r := _) rfl rfl (IntWalk.i64_in _ (by omega))) rfl rfl rfl ?_; clear S a; intro a S
                refine l_on S rfl rfl rfl rfl bc105 ?_
                refine l_pure S (p_gtr rfl rfl) rfl rfl rfl ?_; clear S a; intro a S
                refine l_on S rfl rfl rfl rfl bc97 ?_
                refine l_pure S (p_pick_f rfl bc105 rfl) rfl rfl rfl ?_; clear S a; intro a S
                refine l_pure S (p_pick_t rfl bc97 rfl) rfl rfl rfl ?_; clear S a; intro a S
                refine l_pure S (p_assign rfl) rfl rfl rfl ?_; clear S a; intro a S
                refine l_nil ?_
                refine e_then ?_
                exact ⟨_, S.only ⟨rfl, rfl, rfl, rfl, rfl, rfl, trivial⟩, H, (by first | (simp only [cc1, cc2, cc3, cc4, cc5]; grind) | (simp only [cc1, cc2, cc3, cc4, cc5]; simp_all; done) | (simp only [cc1, cc2, cc3, cc4, cc5]; simp_all; omega))⟩
          · skip
            have c99 := bc99
            have c99 := bne_eq_false_iff_eq.1 c99
            refine l_off S rfl rfl rfl rfl bc99 rfl rfl ?_; clear S a; intro a S
            refine l_off S rfl rfl rfl rfl bc99 rfl rfl ?_; clear S a; intro a S
            refine l_off S rfl rfl rfl rfl bc99 rfl rfl ?_; clear S a; intro a S
            refine l_on S rfl rfl rfl rfl bc97 ?_
            refine l_pure S (p_pick_f rfl bc99 rfl) rfl rfl rfl ?_; clear S a; intro a S
            refine l_on S rfl rfl rfl rfl bc97 ?_
            refine l_pure S (p_move rfl) rfl rfl rfl ?_; clear S a; intro a S
            refine l_on S rfl rfl rfl rfl rfl ?_
            refine l_pure S (p_fieldAddr rfl (fun w => fa43_5 w _ _)) rfl rfl rfl ?_; clear S a; intro a S
            refine l_on S rfl rfl rfl rfl rfl ?_
            refine l_read S H (r_load rfl List.mem_cons_self rfl (fun w hc => ld1 ag4 hc)) rfl rfl rfl ?_; clear S a; intro a S
            refine l_on S rfl rfl rfl rfl bc97 ?_
            refine l_pure S (p_pick_f rfl rfl rfl) rfl rfl rfl ?_; clear S a; intro a S
            refine l_on S rfl rfl rfl rfl bc97 ?_
            refine l_pure S (p_move rfl) rfl rfl rfl ?_; clear S a; intro a S
            refine l_split (S.of 102 rfl) (fun bc110 => ?_) (fun bc110 => ?_)
            · skip
              refine l_off S rfl rfl rfl rfl bc110 rfl rfl ?_; clear S a; intro a S
              refine l_off S rfl rfl rfl rfl bc110 rfl rfl ?_; clear S a; intro a S
              refine l_off S rfl rfl rfl rfl bc110 rfl rfl ?_; clear S a; intro a S
              refine l_off S rfl rfl rfl rfl bc110 rfl rfl ?_; clear S a; intro a S
              refine l_off S rfl rfl rfl rfl bc110 rfl rfl ?_; clear S a; intro a S
              refine l_off S rfl rfl rfl rfl bc110 rfl rfl ?_; clear S a; intro a S
              refine l_off S rfl rfl rfl rfl bc110 rfl rfl ?_; clear S a; intro a S
              refine l_off S rfl rfl rfl rfl bc110 rfl rfl ?_; clear S a; intro a S
              refine l_on S rfl rfl rfl rfl bc97 ?_
              refine l_pure S (p_pick_t rfl bc110 rfl) rfl rfl rfl ?_; clear S a; intro a S
              refine l_pure S (p_pick_t rfl bc97 rfl) rfl rfl rfl ?_; clear S a; intro a S
              refine l_pure S (p_assign rfl) rfl rfl rfl ?_; clear S a; intro a S
              refine l_nil ?_
              refine e_then ?_
              exact ⟨_, S.only ⟨rfl, rfl, rfl, rfl, rfl, rfl, trivial⟩, H, (by first | (simp only [cc1, cc2, cc3, cc4, cc5]; grind) | (simp only [cc1, cc2, cc3, cc4, cc5]; simp_all; done) | (simp only [cc1, cc2, cc3, cc4, cc5]; simp_all; omega))⟩
            · skip
              refine l_on S rfl rfl rfl rfl bc110 ?_
              refine l_pure S (p_fieldAddr rfl (fun w => fa43_1 w _ _)) rfl rfl rfl ?_; clear S a; intro a S
              refine l_on S rfl rfl rfl rfl bc110 ?_
              refine l_read S H (r_load rfl List.mem_cons_self rfl (fun w hc => ld1 ag9 hc)) rfl rfl rfl ?_; clear S a; intro a S
              refine l_on S rfl rfl rfl rfl bc110 ?_
              refine l_pure S (p_builtin (xs := [_]) rfl (fun _ _ _ => rfl)) rfl rfl rfl ?_; clear S a; intro a S
              refine l_on S rfl rfl rfl rfl bc110 ?_
              refine l_pure S (p_fieldAddr rfl (fun w => fa43_3 w _ _)) rfl rfl rfl ?_; clear S a; intro a S
              refine l_on S rfl rfl rfl rfl bc110 ?_
              refine l_read S H (r_load rfl List.mem_cons_self rfl (fun w hc => ld1 ag41 hc)) rfl rfl rfl ?_; clear S a; intro a S
              refine l_on S rfl rfl rfl rfl bc110 ?_
              refine l_pure S (p_builtin (xs := [_]) rfl (fun _ _ _ => rfl)) rfl rfl rfl ?_; clear S a; intro a S
              refine l_on S rfl rfl rfl rfl bc110 ?_
              refine l_pure S (p_add (r := _) rfl rfl (IntWalk.i64_in _ (by omega))) rfl rfl rfl ?_; clear S a; intro a S
              refine l_on S rfl rfl rfl rfl bc110 ?_
              refine l_pure S (p_gtr rfl rfl) rfl rfl rfl ?_; clear S a; intro a S
              refine l_on S rfl rfl rfl rfl bc97 ?_
              refine l_pure S (p_pick_f rfl bc110 rfl) rfl rfl rfl ?_; clear S a; intro a S
              refine l_pure S (p_pick_t rfl bc97 rfl) rfl rfl rfl ?_; clear S a; intro a S
              refine l_pure S (p_assign rfl) rfl rfl rfl ?_; clear S a; intro a S
              refine l_nil ?_
              refine e_then ?_
              exact ⟨_, S.only ⟨rfl, rfl, rfl, rfl, rfl, rfl, trivial⟩, H, (by first | (simp only [cc1, cc2, cc3, cc4, cc5]; grind) | (simp only [cc1, cc2, cc3, cc4, cc5]; simp_all; done) | (simp only [cc1, cc2, cc3, cc4, cc5]; simp_all; omega))⟩
        · skip
          refine l_off S rfl rfl rfl rfl bc97 rfl rfl ?_; clear S a; intro a S
          refine l_off S rfl rfl rfl rfl bc97 rfl rfl ?_; clear S a; intro a S
          refine l_off S rfl rfl rfl rfl bc97 rfl rfl ?_; clear S a; intro a S
          refine l_off S rfl rfl rfl rfl bc97 rfl rfl ?_; clear S a; intro a S
          refine l_offU S rfl rfl rfl rfl rfl rfl ?_; clear S a; intro a S
          refine l_offU S rfl rfl rfl rfl rfl rfl ?_; clear S a; intro a S
          refine l_offU S rfl rfl rfl rfl rfl rfl ?_; clear S a; intro a S
          refine l_off S rfl rfl rfl rfl bc97 rfl rfl ?_; clear S a; intro a S
          refine l_off S rfl rfl rfl rfl bc97 rfl rfl ?_; clear S a; intro a S
          refine l_offU S rfl rfl rfl rfl rfl rfl ?_; clear S a; intro a S
          refine l_offU S rfl rfl rfl rfl rfl rfl ?_; clear S a; intro a S
          refine l_off S rfl rfl rfl rfl bc97 rfl rfl ?_; clear S a; intro a S
          refine l_off S rfl rfl rfl rfl bc97 rfl rfl ?_; clear S a; intro a S
          refine l_offU S rfl rfl rfl rfl rfl rfl ?_; clear S a; intro a S
          refine l_offU S rfl rfl rfl rfl rfl rfl ?_; clear S a; intro a S
          refine l_offU S rfl rfl rfl rfl rfl rfl ?_; clear S a; intro a S
          refine l_offU S rfl rfl rfl rfl rfl rfl ?_; clear S a; intro a S
          refine l_offU S rfl rfl rfl rfl rfl rfl ?_; clear S a; intro a S
          refine l_offU S rfl rfl rfl rfl rfl rfl ?_; clear S a; intro a S
          refine l_offU S rfl rfl rfl rfl rfl rfl ?_; clear S a; intro a S
          refine l_offU S rfl rfl rfl rfl rfl rfl ?_; clear S a; intro a S
          refine l_off S rfl rfl rfl rfl bc97 rfl rfl ?_; clear S a; intro a S
          refine l_pure S (p_pick_f rfl bc97 rfl) rfl rfl rfl ?_; clear S a; intro a S
          refine l_pure S (p_assign rfl) rfl rfl rfl ?_; clear S a; intro a S
          refine l_nil ?_
          refine e_then ?_
          exact ⟨_, S.only ⟨rfl, rfl, rfl, rfl, rfl, rfl, trivial⟩, H, (by first | (simp only [cc1, cc2, cc3, cc4, cc5]; grind) | (simp only [cc1, cc2, cc3, cc4, cc5]; simp_all; done) | (simp only [cc1, cc2, cc3, cc4, cc5]; simp_all; omega))⟩
  · skip
    refine c_region ?_
    refine l_pure S (p_move rfl) rfl rfl rfl ?_; clear S a; intro a S
    refine l_pure S (p_lss rfl rfl) rfl rfl rfl ?_; clear S a; intro a S
    refine l_pure S (p_move rfl) rfl rfl rfl ?_; clear S a; intro a S
    refine l_split (S.of 33 rfl) (fun bc115 => ?_) (fun bc115 => ?_)
    · skip
      have c115 := bc115
      have c115 := of_decide_eq_true c115
      refine l_off S rfl rfl rfl rfl bc115 rfl rfl ?_; clear S a; intro a S
      refine l_off S rfl rfl rfl rfl bc115 rfl rfl ?_; clear S a; intro a S
      refine l_pure S (p_pick_t rfl bc115 rfl) rfl rfl rfl ?_; clear S a; intro a S
      refine l_pure S (p_move rfl) rfl rfl rfl ?_; clear S a; intro a S
      refine l_off S rfl rfl rfl rfl rfl rfl rfl ?_; clear S a; intro a S
      refine l_off S rfl rfl rfl rfl rfl rfl rfl ?_; clear S a; intro a S
      refine l_off S rfl rfl rfl rfl rfl rfl rfl ?_; clear S a; intro a S
      refine l_offU S rfl rfl rfl rfl rfl rfl ?_; clear S a; intro a S
      refine l_offU S rfl rfl rfl rfl rfl rfl ?_; clear S a; intro a S
      refine l_offU S rfl rfl rfl rfl rfl rfl ?_; clear S a; intro a S
      refine l_offU S rfl rfl rfl rfl rfl rfl ?_; clear S a; intro a S
      refine l_off S rfl rfl rfl rfl rfl rfl rfl ?_; clear S a; intro a S
      refine l_pure S (p_pick_t rfl rfl rfl) rfl rfl rfl ?_; clear S a; intro a S
      refine l_pure S (p_move rfl) rfl rfl rfl ?_; clear S a; intro a S
      refine l_off S rfl rfl rfl rfl rfl rfl rfl ?_; clear S a; intro a S
      refine l_off S rfl rfl rfl rfl rfl rfl rfl ?_; clear S a; intro a S
      refine l_offU S rfl rfl rfl rfl rfl rfl ?_; clear S a; intro a S
      refine l_offU S rfl rfl rfl rfl rfl rfl ?_; clear S a; intro a S
      refine l_offU S rfl rfl rfl rfl rfl rfl ?_; clear S a; intro a S
      refine l_offU S rfl rfl rfl rfl rfl rfl ?_; clear S a; intro a S
      refine l_offU S rfl rfl rfl rfl rfl rfl ?_; clear S a; intro a S
      refine l_offU S rfl rfl rfl rfl rfl rfl ?_; clear S a; intro a S
      refine l_offU S rfl rfl rfl rfl rfl rfl ?_; clear S a; intro a S
      refine l_offU S rfl rfl rfl rfl rfl rfl ?_; clear S a; intro a S
      refine l_offU S rfl rfl rfl rfl rfl rfl ?_; clear S a; intro a S
      refine l_offU S rfl rfl rfl rfl rfl rfl ?_; clear S a; intro a S
      refine l_offU S rfl rfl rfl rfl rfl rfl ?_; clear S a; intro a S
      refine l_offU S rfl rfl rfl rfl rfl rfl ?_; clear S a; intro a S
      refine l_off S rfl rfl rfl rfl rfl rfl rfl ?_; clear S a; intro a S
      refine l_pure S (p_pick_t rfl rfl rfl) rfl rfl rfl ?_; clear S a; intro a S
      refine l_pure S (p_move rfl) rfl rfl rfl ?_; clear S a; intro a S
      refine l_off S rfl rfl rfl rfl rfl rfl rfl ?_; clear S a; intro a S
      refine l_off S rfl rfl rfl rfl rfl rfl rfl ?_; clear S a; intro a S
      refine l_off S rfl rfl rfl rfl rfl rfl rfl ?_; clear S a; intro a S
      refine l_off S rfl rfl rfl rfl rfl rfl rfl ?_; clear S a; intro a S
      refine l_offU S rfl rfl rfl rfl rfl rfl ?_; clear S a; intro a S
      refine l_offU S rfl rfl rfl rfl rfl rfl ?_; clear S a; intro a S
      refine l_offU S rfl rfl rfl rfl rfl rfl ?_; clear S a; intro a S
      refine l_offU S rfl rfl rfl rfl rfl rfl ?_; clear S a; intro a S
      refine l_off S rfl rfl rfl rfl rfl rfl rfl ?_; clear S a; intro a S
      refine l_pure S (p_pick_t rfl rfl rfl) rfl rfl rfl ?_; clear S a; intro a S
      refine l_pure S (p_move rfl) rfl rfl rfl ?_; clear S a; intro a S
      refine l_off S rfl rfl rfl rfl rfl rfl rfl ?_; clear S a; intro a S
      refine l_off S rfl rfl rfl rfl rfl rfl rfl ?_; clear S a; intro a S
      refine l_off S rfl rfl rfl rfl rfl rfl rfl ?_; clear S a; intro a S
      refine l_off S rfl rfl rfl rfl rfl rfl rfl ?_; clear S a; intro a S
      refine l_offU S rfl rfl rfl rfl rfl rfl ?_; clear S a; intro a S
      refine l_offU S rfl rfl rfl rfl rfl rfl ?_; clear S a; intro a S
      refine l_offU S rfl rfl rfl rfl rfl rfl ?_; clear S a; intro a S
      refine l_offU S rfl rfl rfl rfl rfl rfl ?_; clear S a; intro a S
      refine l_off S rfl rfl rfl rfl rfl rfl rfl ?_; clear S a; intro a S
      refine l_pure S (p_pick_t rfl rfl rfl) rfl rfl rfl ?_; clear S a; intro a S
      refine l_pure S (p_assign rfl) rfl rfl rfl ?_; clear S a; intro a S
      refine l_nil ?_
      refine e_then ?_
      exact ⟨_, S.only ⟨rfl, rfl, rfl, rfl, rfl, rfl, trivial⟩, H, (by first | (simp only [cc1, cc2, cc3, cc4, cc5]; grind) | (simp only [cc1, cc2, cc3, cc4, cc5]; simp_all; done) | (simp only [cc1, cc2, cc3, cc4, cc5]; simp_all; omega))⟩
    · skip
      have c115 := bc115
      have c115 := of_decide_eq_false c115
      refine l_on S rfl rfl rfl rfl bc115 ?_
      refine l_pure S (p_move rfl) rfl rfl rfl ?_; clear S a; intro a S
      refine l_on S rfl rfl rfl rfl bc115 ?_
      refine l_pure S (p_lss rfl rfl) rfl rfl rfl ?_; clear S a; intro a S
      refine l_pure S (p_pick_f rfl bc115 rfl) rfl rfl rfl ?_; clear S a; intro a S
      refine l_pure S (p_move rfl) rfl rfl rfl ?_; clear S a; intro a S
      refine l_split (S.of 37 rfl) (fun bc122 => ?_) (fun bc122 => ?_)
      · skip
        have c122 := bc122
        have c122 := of_decide_eq_true c122
        refine l_off S rfl rfl rfl rfl bc122 rfl rfl ?_; clear S a; intro a S
        refine l_off S rfl rfl rfl rfl bc122 rfl rfl ?_; clear S a; intro a S
        refine l_off S rfl rfl rfl rfl bc122 rfl rfl ?_; clear S a; intro a S
        refine l_offU S rfl rfl rfl rfl rfl rfl ?_; clear S a; intro a S
        refine l_offU S rfl rfl rfl rfl rfl rfl ?_; clear S a; intro a S
        refine l_offU S rfl rfl rfl rfl rfl rfl ?_; clear S a; intro a S
        refine l_offU S rfl rfl rfl rfl rfl rfl ?_; clear S a; intro a S
        refine l_off S rfl rfl rfl rfl bc122 rfl rfl ?_; clear S a; intro a S
        refine l_pure S (p_pick_t rfl bc122 rfl) rfl rfl rfl ?_; clear S a; intro a S
        refine l_pure S (p_move rfl) rfl rfl rfl ?_; clear S a; intro a S
        refine l_off S rfl rfl rfl rfl rfl rfl rfl ?_; clear S a; intro a S
        refine l_off S rfl rfl rfl rfl rfl rfl rfl ?_; clear S a; intro a S
        refine l_offU S rfl rfl rfl rfl rfl rfl ?_; clear S a; intro a S
        refine l_offU S rfl rfl rfl rfl rfl rfl ?_; clear S a; intro a S
        refine l_offU S rfl rfl rfl rfl rfl rfl ?_; clear S a; intro a S
        refine l_offU S rfl rfl rfl rfl rfl rfl ?_; clear S a; intro a S
        refine l_offU S rfl rfl rfl rfl rfl rfl ?_; clear S a; intro a S
        refine l_offU S rfl rfl rfl rfl rfl rfl ?_; clear S a; intro a S
        refine l_offU S rfl rfl rfl rfl rfl rfl ?_; clear S a; intro a S
        refine l_offU S rfl rfl rfl rfl rfl rfl ?_; clear S a; intro a S
        refine l_offU S rfl rfl rfl rfl rfl rfl ?_; clear S a; intro a S
        refine l_offU S rfl rfl rfl rfl rfl rfl ?_; clear S a; intro a S
        refine l_offU S rfl rfl rfl rfl rfl rfl ?_; clear S a; intro a S
        refine l_offU S rfl rfl rfl rfl rfl rfl ?_; clear S a; intro a S
        refine l_off S rfl rfl rfl rfl rfl rfl rfl ?_; clear S a; intro a S
        refine l_pure S (p_pick_t rfl rfl rfl) rfl rfl rfl ?_; clear S a; intro a S
        refine l_pure S (p_move rfl) rfl rfl rfl ?_; clear S a; intro a S
        refine l_off S rfl rfl rfl rfl rfl rfl rfl ?_; clear S a; intro a S
        refine l_off S rfl rfl rfl rfl rfl rfl rfl ?_; clear S a; intro a S
        refine l_off S rfl rfl rfl rfl rfl rfl rfl ?_; clear S a; intro a S
        refine l_off S rfl rfl rfl rfl rfl rfl rfl ?_; clear S a; intro a S
        refine l_offU S rfl rfl rfl rfl rfl rfl ?_; clear S a; intro a S
        refine l_offU S rfl rfl rfl rfl rfl rfl ?_; clear S a; intro a S
        refine l_offU S rfl rfl rfl rfl rfl rfl ?_; clear S a; intro a S
        refine l_offU S rfl rfl rfl rfl rfl rfl ?_; clear S a; intro a S
        refine l_off S rfl rfl rfl rfl rfl rfl rfl ?_; clear S a; intro a S
        refine l_pure S (p_pick_t rfl rfl rfl) rfl rfl rfl ?_; clear S a; intro a S
        refine l_pure S (p_move rfl) rfl rfl rfl ?_; clear S a; intro a S
        refine l_off S rfl rfl rfl rfl rfl rfl rfl ?_; clear S a; intro a S
        refine l_off S rfl rfl rfl rfl rfl rfl rfl ?_; clear S a; intro a S
        refine l_off S rfl rfl rfl rfl rfl rfl rfl ?_; clear S a; intro a S
        refine l_off S rfl rfl rfl rfl rfl rfl rfl ?_; clear S a; intro a S
        refine l_offU S rfl rfl rfl rfl rfl rfl ?_; clear S a; intro a S
        refine l_offU S rfl rfl rfl rfl rfl rfl ?_; clear S a; intro a S
        refine l_offU S rfl rfl rfl rfl rfl rfl ?_; clear S a; intro a S
        refine l_offU S rfl rfl rfl rfl rfl rfl ?_; clear S a; intro a S
        refine l_off S rfl rfl rfl rfl rfl rfl rfl ?_; clear S a; intro a S
        refine l_pure S (p_pick_t rfl rfl rfl) rfl rfl rfl ?_; clear S a; intro a S
        refine l_pure S (p_assign rfl) rfl rfl rfl ?_; clear S a; intro a S
        refine l_nil ?_
        refine e_then ?_
        exact ⟨_, S.only ⟨rfl, rfl, rfl, rfl, rfl, rfl, trivial⟩, H, (by first | (simp only [cc1, cc2, cc3, cc4, cc5]; grind) | (simp only [cc1, cc2, cc3, cc4, cc5]; simp_all; done) | (simp only [cc1, cc2, cc3, cc4, cc5]; simp_all; omega))⟩
      · skip
        have c122 := bc122
        have c122 := of_decide_eq_false c122
        refine l_on S rfl rfl rfl rfl bc122 ?_
        refine l_pure S (p_move rfl) rfl rfl rfl ?_; clear S a; intro a S
        refine l_on S rfl rfl rfl rfl bc122 ?_
        refine l_pure S (p_not rfl) rfl rfl rfl ?_; clear S a; intro a S
        refine l_on S rfl rfl rfl rfl bc122 ?_
        refine l_pure S (p_move rfl) rfl rfl rfl ?_; clear S a; intro a S
        refine l_split (S.of 40 rfl) (fun bc128 => ?_) (fun bc128 => ?_)
        · skip
          have c128 := bc128
          replace c128 := not_eq_true_ c128
          
          refine l_on S rfl rfl rfl rfl bc128 ?_
          refine l_pure S (p_fieldAddr rfl (fun w => fa43_3 w _ _)) rfl rfl rfl ?_; clear S a; intro a S
          refine l_on S rfl rfl rfl rfl bc128 ?_
          refine l_read S H (r_load rfl List.mem_cons_self rfl (fun w hc => ld1 ag41 hc)) rfl rfl rfl ?_; clear S a; intro a S
          refine l_on S rfl rfl rfl rfl bc128 ?_
          refine l_pure S (p_builtin (xs := [_]) rfl (fun _ _ _ => rfl)) rfl rfl rfl ?_; clear S a; intro a S
          refine l_on S rfl rfl rfl rfl bc128 ?_
          refine l_pure S (p_gtr rfl rfl) rfl rfl rfl ?_; clear S a; intro a S
          refine l_on S rfl rfl rfl rfl bc122 ?_
          refine l_pure S (p_pick_t rfl bc128 rfl) rfl rfl rfl ?_; clear S a; intro a S
          refine l_pure S (p_pick_f rfl bc122 rfl) rfl rfl rfl ?_; clear S a; intro a S
          refine l_pure S (p_move rfl) rfl rfl rfl ?_; clear S a; intro a S
          refine l_split (S.of 47 rfl) (fun bc130 => ?_) (fun bc130 => ?_)
          · skip
            have c130 := bc130
            have c130 := of_decide_eq_true c130
            refine l_off S rfl rfl rfl rfl bc130 rfl rfl ?_; clear S a; intro a S
            refine l_off S rfl rfl rfl rfl bc130 rfl rfl ?_; clear S a; intro a S
            refine l_offU S rfl rfl rfl rfl rfl rfl ?_; clear S a; intro a S
            refine l_offU S rfl rfl rfl rfl rfl rfl ?_; clear S a; intro a S
            refine l_offU S rfl rfl rfl rfl rfl rfl ?_; clear S a; intro a S
            refine l_offU S rfl rfl rfl rfl rfl rfl ?_; clear S a; intro a S
            refine l_offU S rfl rfl rfl rfl rfl rfl ?_; clear S a; intro a S
            refine l_offU S rfl rfl rfl rfl rfl rfl ?_; clear S a; intro a S
            refine l_offU S rfl rfl rfl rfl rfl rfl ?_; clear S a; intro a S
            refine l_offU S rfl rfl rfl rfl rfl rfl ?_; clear S a; intro a S
            refine l_offU S rfl rfl rfl rfl rfl rfl ?_; clear S a; intro a S
            refine l_offU S rfl rfl rfl rfl rfl rfl ?_; clear S a; intro a S
            refine l_offU S rfl rfl rfl rfl rfl rfl ?_; clear S a; intro a S
            refine l_offU S rfl rfl rfl rfl rfl rfl ?_; clear S a; intro a S
            refine l_off S rfl rfl rfl rfl bc130 rfl rfl ?_; clear S a; intro a S
            refine l_pure S (p_pick_t rfl bc130 rfl) rfl rfl rfl ?_; clear S a; intro a S
            refine l_pure S (p_move rfl) rfl rfl rfl ?_; clear S a; intro a S
            refine l_off S rfl rfl rfl rfl rfl rfl rfl ?_; clear S a; intro a S
            refine l_off S rfl rfl rfl rfl rfl rfl rfl ?_; clear S a; intro a S
            refine l_off S rfl rfl rfl rfl rfl rfl rfl ?_; clear S a; intro a S
            refine l_off S rfl rfl rfl rfl rfl rfl rfl ?_; clear S a; intro a S
            refine l_offU S rfl rfl rfl rfl rfl rfl ?_; clear S a; intro a S
            refine l_offU S rfl rfl rfl rfl rfl rfl ?_; clear S a; intro a S
            refine l_offU S rfl rfl rfl rfl rfl rfl ?_; clear S a; intro a S
            refine l_offU S rfl rfl rfl rfl rfl rfl ?_; clear S a; intro a S
            refine l_off S rfl rfl rfl rfl rfl rfl rfl ?_; clear S a; intro a S
            refine l_pure S (p_pick_t rfl rfl rfl) rfl rfl rfl ?_; clear S a; intro a S
            refine l_pure S (p_move rfl) rfl rfl rfl ?_; clear S a; intro a S
            refine l_off S rfl rfl rfl rfl rfl rfl rfl ?_; clear S a; intro a S
            refine l_off S rfl rfl rfl rfl rfl rfl rfl ?_; clear S a; intro a S
            refine l_off S rfl rfl rfl rfl rfl rfl rfl ?_; clear S a; intro a S
            refine l_off S rfl rfl rfl rfl rfl rfl rfl ?_; clear S a; intro a S
            refine l_offU S rfl rfl rfl rfl rfl rfl ?_; clear S a; intro a S
            refine l_offU S rfl rfl rfl rfl rfl rfl ?_; clear S a; intro a S
            refine l_offU S rfl rfl rfl rfl rfl rfl ?_; clear S a; intro a S
            refine l_offU S rfl rfl rfl rfl rfl rfl ?_; clear S a; intro a S
            refine l_off S rfl rfl rfl rfl rfl rfl rfl ?_; clear S a; intro a S
            refine l_pure S (p_pick_t rfl rfl rfl) rfl rfl rfl ?_; clear S a; intro a S
            refine l_pure S (p_assign rfl) rfl rfl rfl ?_; clear S a; intro a S
            refine l_nil ?_
            refine e_then ?_
            exact ⟨_, S.only ⟨rfl, rfl, rfl, rfl, rfl, rfl, trivial⟩, H, (by first | (simp only [cc1, cc2, cc3, cc4, cc5]; grind) | (simp only [cc1, cc2, cc3, cc4, cc5]; simp_all; done) | (simp only [cc1, cc2, cc3, cc4, cc5]; simp_all; omega))⟩
          · skip
            have c130 := bc130
            have c130 := of_decide_eq_false c130
            refine l_on S rfl rfl rfl rfl bc130 ?_
            refine l_pure S (p_move rfl) rfl rfl rfl ?_; clear S a; intro a S
            refine l_on S rfl rfl rfl rfl bc130 ?_
            refine l_pure S (p_move rfl) rfl rfl rfl ?_; clear S a; intro a S
            refine l_split (S.of 49 rfl) (fun bc134 => ?_) (fun bc134 => ?_)
            · skip
              refine l_on S rfl rfl rfl rfl bc134 ?_
              refine l_pure S (p_fieldAddr rfl (fun w => fa43_1 w _ _)) rfl rfl rfl ?_; clear S a; intro a S
              refine l_on S rfl rfl rfl rfl bc134 ?_
              refine l_read S H (r_load rfl List.mem_cons_self rfl (fun w hc => ld1 ag9 hc)) rfl rfl rfl ?_; clear S a; intro a S
              refine l_on S rfl rfl rfl rfl bc134 ?_
              refine l_pure S (p_builtin (xs := [_]) rfl (fun _ _ _ => rfl)) rfl rfl rfl ?_; clear S a; intro a S
              refine l_on S rfl rfl rfl rfl bc134 ?_
              refine l_pure S (p_gtr rfl rfl) rfl rfl rfl ?_; clear S a; intro a S
              refine l_on S rfl rfl rfl rfl bc134 ?_
              refine l_pure S (p_move rfl) rfl rfl rfl ?_; clear S a; intro a S
              refine l_split (S.of 54 rfl) (fun bc136 => ?_) (fun bc136 => ?_)
              · skip
                have c136 := bc136
                have c136 := of_decide_eq_true c136
                refine l_off S rfl rfl rfl rfl bc136 rfl rfl ?_; clear S a; intro a S
                refine l_off S rfl rfl rfl rfl bc136 rfl rfl ?_; clear S a; intro a S
                refine l_off S rfl rfl rfl rfl bc136 rfl rfl ?_; clear S a; intro a S
                refine l_off S rfl rfl rfl rfl bc136 rfl rfl ?_; clear S a; intro a S
                refine l_off S rfl rfl rfl rfl bc136 rfl rfl ?_; clear S a; intro a S
                refine l_off S rfl rfl rfl rfl bc136 rfl rfl ?_; clear S a; intro a S
                refine l_on S rfl rfl rfl rfl bc134 ?_
                refine l_pure S (p_pick_t rfl bc136 rfl) rfl rfl rfl ?_; clear S a; intro a S
                refine l_on S rfl rfl rfl rfl bc130 ?_
                refine l_pure S (p_pick_t rfl bc134 rfl) rfl rfl rfl ?_; clear S a; intro a S
                refine l_pure S (p_pick_f rfl bc130 rfl) rfl rfl rfl ?_; clear S a; intro a S
                refine l_pure S (p_move rfl) rfl rfl rfl ?_; clear S a; intro a S
                refine l_off S rfl rfl rfl rfl rfl rfl rfl ?_; clear S a; intro a S
                refine l_off S rfl rfl rfl rfl rfl rfl rfl ?_; clear S a; intro a S
                refine l_off S rfl rfl rfl rfl rfl rfl rfl ?_; clear S a; intro a S
                refine l_off S rfl rfl rfl rfl rfl rfl rfl ?_; clear S a; intro a S
                refine l_offU S rfl rfl rfl rfl rfl rfl ?_; clear S a; intro a S
                refine l_offU S rfl rfl rfl rfl rfl rfl ?_; clear S a; intro a S
                refine l_offU S rfl rfl rfl rfl rfl rfl ?_; clear S a; intro a S
                refine l_offU S rfl rfl rfl rfl rfl rfl ?_; clear S a; intro a S
                refine l_off S rfl rfl rfl rfl rfl rfl rfl ?_; clear S a; intro a S
                refine l_pure S (p_pick_t rfl rfl rfl) rfl rfl rfl ?_; clear S a; intro a S
                refine l_pure S (p_move rfl) rfl rfl rfl ?_; clear S a; intro a S
                refine l_off S rfl rfl rfl rfl rfl rfl rfl ?_; clear S a; intro a S
                refine l_off S rfl rfl rfl rfl rfl rfl rfl ?_; clear S a; intro a S
                refine l_off S rfl rfl rfl rfl rfl rfl rfl ?_; clear S a; intro a S
                refine l_off S rfl rfl rfl rfl rfl rfl rfl ?_; clear S a; intro a S
                refine l_offU S rfl rfl rfl rfl rfl rfl ?_; clear S a; intro a S
                refine l_offU S rfl rfl rfl rfl rfl rfl ?_; clear S a; intro a S
                refine l_offU S rfl rfl rfl rfl rfl rfl ?_; clear S a; intro a S
                refine l_offU S rfl rfl rfl rfl rfl rfl ?_; clear S a; intro a S
                refine l_off S rfl rfl rfl rfl rfl rfl rfl ?_; clear S a; intro a S
                refine l_pure S (p_pick_t rfl rfl rfl) rfl rfl rfl ?_; clear S a; intro a S
                refine l_pure S (p_assign rfl) rfl rfl rfl ?_; clear S a; intro a S
                refine l_nil ?_
                refine e_then ?_
                exact ⟨_, S.only ⟨rfl, rfl, rfl, rfl, rfl, rfl, trivial⟩, H, (by first | (simp only [cc1, cc2, cc3, cc4, cc5]; grind) | (simp only [cc1, cc2, cc3, cc4, cc5]; simp_all; done) | (simp only [cc1, cc2, cc3, cc4, cc5]; simp_all; omega))⟩
              · skip
                have c136 := bc136
                have c136 := of_decide_eq_false c136
                refine l_on S rfl rfl rfl rfl bc136 ?_
                refine l_pure S (p_fieldAddr rfl (fun w => fa43_3 w _ _)) rfl rfl rfl ?_; clear S a; intro a S
                refine l_on S rfl rfl rfl rfl bc136 ?_
                refine l_read S H (r_load rfl List.mem_cons_self rfl (fun w hc => ld1 ag41 hc)) rfl rfl rfl ?_; clear S a; intro a S
                refine l_on S rfl rfl rfl rfl bc136 ?_
                refine l_pure S (p_builtin (xs := [_]) rfl (fun _ _ _ => rfl)) rfl rfl rfl ?_; clear S a; intro a S
                refine l_on S rfl rfl rfl rfl bc136 ?_
                refine l_pure S (p_move rfl) rfl rfl rfl ?_; clear S a; intro a S
                refine l_on S rfl rfl rfl rfl bc136 ?_
                have hpos : (manyOf v.f0).1 = 1 ∨ (manyOf v.f0).1 = 2 := many_pos (by assumption)
                have hrem : (v.f3.length : Int).tmod (manyOf v.f0).1 = (v.f3.length : Int) % (manyOf v.f0).1 := Int.tmod_eq_emod_of_nonneg (by omega)
                refine l_pure S (p_rem (r := (v.f3.length : Int) % (manyOf v.f0).1) rfl rfl (by omega) hrem) rfl rfl rfl ?_; clear S a; intro a S
                refine l_on S rfl rfl rfl rfl bc136 ?_
                refine l_pure S (p_neq rfl rfl) rfl rfl rfl ?_; clear S a; intro a S
                refine l_on S rfl rfl rfl rfl bc134 ?_
                refine l_pure S (p_pick_f rfl bc136 rfl) rfl rfl rfl ?_; clear S a; intro a S
                refine l_on S rfl rfl rfl rfl bc130 ?_
                refine l_pure S (p_pick_t rfl bc134 rfl) rfl rfl rfl ?_; clear S a; intro a S
                refine l_pure S (p_pick_f rfl bc130 rfl) rfl rfl rfl ?_; clear S a; intro a S
                refine l_pure S (p_move rfl) rfl rfl rfl ?_; clear S a; intro a S
                refine l_split (S.of 64 rfl) (fun bc141 => ?_) (fun bc141 => ?_)
                · skip
                  have c141 := bc141
                  have c141 := bne_iff_ne.1 c141
                  refine l_off S rfl rfl rfl rfl bc141 rfl rfl ?_; clear S a; intro a S
                  refine l_off S rfl rfl rfl rfl bc141 rfl rfl ?_; clear S a; intro a S
                  refine l_off S rfl rfl rfl rfl bc141 rfl rfl ?_; clear S a; intro a S
                  refine l_off S rfl rfl rfl rfl bc141 rfl rfl ?_; clear S a; intro a S
                  refine l_offU S rfl rfl rfl rfl rfl rfl ?_; clear S a; intro a S
                  refine l_offU S rfl rfl rfl rfl rfl rfl ?_; clear S a; intro a S
                  refine l_offU S rfl rfl rfl rfl rfl rfl ?_; clear S a; intro a S
                  refine l_offU S rfl rfl rfl rfl rfl rfl ?_; clear S a; intro a S
                  refine l_off S rfl rfl rfl rfl bc141 rfl rfl ?_; clear S a; intro a S
                  refine l_pure S (p_pick_t rfl bc141 rfl) rfl rfl rfl ?_; clear S a; intro a S
                  refine l_pure S (p_move rfl) rfl rfl rfl ?_; clear S a; intro a S
                  refine l_off S rfl rfl rfl rfl rfl rfl rfl ?_; clear S a; intro a S
                  refine l_off S rfl rfl rfl rfl rfl rfl rfl ?_; clear S a; intro a S
                  refine l_off S rfl rfl rfl rfl rfl rfl rfl ?_; clear S a; intro a S
                  refine l_off S rfl rfl rfl rfl rfl rfl rfl ?_; clear S a; intro a S
                  refine l_offU S rfl rfl rfl rfl rfl rfl ?_; clear S a; intro a S
                  refine l_offU S rfl rfl rfl rfl rfl rfl ?_; clear S a; intro a S
                  refine l_offU S rfl rfl rfl rfl rfl rfl ?_; clear S a; intro a S
                  refine l_offU S rfl rfl rfl rfl rfl rfl ?_; clear S a; intro a S
                  refine l_off S rfl rfl rfl rfl rfl rfl rfl ?_; clear S a; intro a S
                  refine l_pure S (p_pick_t rfl rfl rfl) rfl rfl rfl ?_; clear S a; intro a S
                  refine l_pure S (p_assign rfl) rfl rfl rfl ?_; clear S a; intro a S
                  refine l_nil ?_
                  refine e_then ?_
                  exact ⟨_, S.only ⟨rfl, rfl, rfl, rfl, rfl, rfl, trivial⟩, H, (by first | (simp only [cc1, cc2, cc3, cc4, cc5]; grind) | (simp only [cc1, cc2, cc3, cc4, cc5]; simp_all; done) | (simp only [cc1, cc2, cc3, cc4, cc5]; simp_all; omega))⟩
                · skip
                  have c141 := bc141
                  have c141 := bne_eq_false_iff_eq.1 c141
                  refine l_on S rfl rfl rfl rfl bc141 ?_
                  refine l_pure S (p_fieldAddr rfl (fun w => fa43_0 w _ _)) rfl rfl rfl ?_; clear S a; intro a S
                  refine l_on S rfl rfl rfl rfl bc141 ?_
                  refine l_read S H (r_load rfl List.mem_cons_self rfl (fun w hc => ld1 ag5 hc)) rfl rfl rfl ?_; clear S a; intro a S
                  refine l_on S rfl rfl rfl rfl bc141 ?_
                  refine l_pure S (p_neq rfl rfl) rfl rfl rfl ?_; clear S a; intro a S
                  refine l_on S rfl rfl rfl rfl bc141 ?_
                  refine l_pure S (p_move rfl) rfl rfl rfl ?_; clear S a; intro a S
                  refine l_split (S.of 68 rfl) (fun bc145 => ?_) (fun bc145 => ?_)
                  · skip
                    have c145 := bc145
                    have c145 := bne_iff_ne.1 c145
                    refine l_on S rfl rfl rfl rfl bc145 ?_
                    refine l_pure S (p_fieldAddr rfl (fun w => fa43_2 w _ _)) rfl rfl rfl ?_; clear S a; intro a S
                    refine l_on S rfl rfl rfl rfl bc145 ?_
                    refine l_read S H (r_load rfl List.mem_cons_self rfl (fun w hc => ld1 ag9 hc)) rfl rfl rfl ?_; clear S a; intro a S
                    refine l_on S rfl rfl rfl rfl bc145 ?_
                    refine l_pure S (p_builtin (xs := [_]) rfl (fun _ _ _ => rfl)) rfl rfl rfl ?_; clear S a; intro a S
                    refine l_on S rfl rfl rfl rfl bc145 ?_
                    refine l_pure S (p_gtr rfl rfl) rfl rfl rfl ?_; clear S a; intro a S
                    refine l_on S rfl rfl rfl rfl bc141 ?_
                    refine l_pure S (p_pick_t rfl bc145 rfl) rfl rfl rfl ?_; clear S a; intro a S
                    refine l_pure S (p_pick_f rfl bc141 rfl) rfl rfl rfl ?_; clear S a; intro a S
                    refine l_pure S (p_move rfl) rfl rfl rfl ?_; clear S a; intro a S
                    refine l_split (S.of 75 rfl) (fun bc147 => ?_) (fun bc147 => ?_)
                    · skip
                      have c147 := bc147
                      have c147 := of_decide_eq_true c147
                      refine l_off S rfl rfl rfl rfl bc147 rfl rfl ?_; clear S a; intro a S
                      refine l_off S rfl rfl rfl rfl bc147 rfl rfl ?_; clear S a; intro a S
                      refine l_off S rfl rfl rfl rfl bc147 rfl rfl ?_; clear S a; intro a S
                      refine l_off S rfl rfl rfl rfl bc147 rfl rfl ?_; clear S a; intro a S
                      refine l_offU S rfl rfl rfl rfl rfl rfl ?_; clear S a; intro a S
                      refine l_offU S rfl rfl rfl rfl rfl rfl ?_; clear S a; intro a S
                      refine l_offU S rfl rfl rfl rfl rfl rfl ?_; clear S a; intro a S
                      refine l_offU S rfl rfl rfl rfl rfl rfl ?_; clear S a; intro a S
                      refine l_off S rfl rfl rfl rfl bc147 rfl rfl ?_; clear S a; intro a S
                      refine l_pure S (p_pick_t rfl bc147 rfl) rfl rfl rfl ?_; clear S a; intro a S
                      refine l_pure S (p_assign rfl) rfl rfl rfl ?_; clear S a; intro a S
                      refine l_nil ?_
                      refine e_then ?_
                      exact ⟨_, S.only ⟨rfl, rfl, rfl, rfl, rfl, rfl, trivial⟩, H, (by first | (simp only [cc1, cc2, cc3, cc4, cc5]; grind) | (simp only [cc1, cc2, cc3, cc4, cc5]; simp_all; done) | (simp only [cc1, cc2, cc3, cc4, cc5]; simp_all; omega))⟩
                    · skip
                      have c147 := bc147
                      have c147 := of_decide_eq_false c147
                      refine l_on S rfl rfl rfl rfl bc147 ?_
                      refine l_pure S (p_fieldAddr rfl (fun w => fa43_0 w _ _)) rfl rfl rfl ?_; clear S a; intro a S
                      refine l_on S rfl rfl rfl rfl bc147 ?_
                      refine l_read S H (r_load rfl List.mem_cons_self rfl (fun w hc => ld1 ag5 hc)) rfl rfl rfl ?_; clear S a; intro a S
                      refine l_on S rfl rfl rfl rfl bc147 ?_
                      refine l_pure S (p_eql rfl rfl) rfl rfl rfl ?_; clear S a; intro a S
                      refine l_on S rfl rfl rfl rfl bc147 ?_
                      refine l_pure S (p_move rfl) rfl rfl rfl ?_; clear S a; intro a S
                      refine l_split (S.of 79 rfl) (fun bc150 => ?_) (fun bc150 => ?_)
                      · skip
                        have c150 := bc150
                        have c150 := eq_of_beq c150
                        refine l_on S rfl rfl rfl rfl bc150 ?_
                        refine l_pure S (p_fieldAddr rfl (fun w => fa43_2 w _ _)) rfl rfl rfl ?_; clear S a; intro a S
                        refine l_on S rfl rfl rfl rfl bc150 ?_
                        refine l_read S H (r_load rfl List.mem_cons_self rfl (fun w hc => ld1 ag9 hc)) rfl rfl rfl ?_; clear S a; intro a S
                        refine l_on S rfl rfl rfl rfl bc150 ?_
                        refine l_pure S (p_builtin (xs := [_]) rfl (fun _ _ _ => rfl)) rfl rfl rfl ?_; clear S a; intro a S
                        refine l_on S rfl rfl rfl rfl bc150 ?_
                        refine l_pure S (p_neq rfl rfl) rfl rfl rfl ?_; clear S a; intro a S
                        refine l_on S rfl rfl rfl rfl bc147 ?_
                        refine l_pure S (p_pick_t rfl bc150 rfl) rfl rfl rfl ?_; clear S a; intro a S
                        refine l_pure S (p_pick_f rfl bc147 rfl) rfl rfl rfl ?_; clear S a; intro a S
                        refine l_pure S (p_assign rfl) rfl rfl rfl ?_; clear S a; intro a S
                        refine l_nil ?_
                        refine e_then ?_
                        exact ⟨_, S.only ⟨rfl, rfl, rfl, rfl, rfl, rfl, trivial⟩, H, (by first | (simp only [cc1, cc2, cc3, cc4, cc5]; grind) | (simp only [cc1, cc2, cc3, cc4, cc5]; simp_all; done) | (simp only [cc1, cc2, cc3, cc4, cc5]; simp_all; omega))⟩
                      · skip
                        have c150 := bc150
                        have c150 := ne_of_beq_false c150
                        refine l_off S rfl rfl rfl rfl bc150 rfl rfl ?_; clear S a; intro a S
                        refine l_off S rfl rfl rfl rfl bc150 rfl rfl ?_; clear S a; intro a S
                        refine l_off S rfl rfl rfl rfl bc150 rfl rfl ?_; clear S a; intro a S
                        refine l_off S rfl rfl rfl rfl bc150 rfl rfl ?_; clear S a; intro a S
                        refine l_on S rfl rfl rfl rfl bc147 ?_
                        refine l_pure S (p_pick_f rfl bc150 rfl) rfl rfl rfl ?_; clear S a; intro a S
                        refine l_pure S (p_pick_f rfl bc147 rfl) rfl rfl rfl ?_; clear S a; intro a S
                        refine l_pure S (p_assign rfl) rfl rfl rfl ?_; clear S a; intro a S
                        refine l_nil ?_
                        refine e_then ?_
                        exact ⟨_, S.only ⟨rfl, rfl, rfl, rfl, rfl, rfl, trivial⟩, H, (by first | (simp only [cc1, cc2, cc3, cc4, cc5]; grind) | (simp only [cc1, cc2, cc3, cc4, cc5]; simp_all; done) | (simp only [cc1, cc2, cc3, cc4, cc5]; simp_all; omega))⟩
                  · skip
                    have c145 := bc145
                    have c145 := bne_eq_false_iff_eq.1 c145
                    refine l_off S rfl rfl rfl rfl bc145 rfl rfl ?_; clear S a; intro a S
                    refine l_off S rfl rfl rfl rfl bc145 rfl rfl ?_; clear S a; intro a S
                    refine l_off S rfl rfl rfl rfl bc145 rfl rfl ?_; clear S a; intro a S
                    refine l_off S rfl rfl rfl rfl bc145 rfl rfl ?_; clear S a; intro a S
                    refine l_on S rfl rfl rfl rfl bc141 ?_
                    refine l_pure S (p_pick_f rfl bc145 rfl) rfl rfl rfl ?_; clear S a; intro a S
                    refine l_pure S (p_pick_f rfl bc141 rfl) rfl rfl rfl ?_; clear S a; intro a S
                    refine l_pure S (p_move rfl) rfl rfl rfl ?_; clear S a; intro a S
                    refine l_on S rfl rfl rfl rfl rfl ?_
                    refine l_pure S (p_fieldAddr rfl (fun w => fa43_0 w _ _)) rfl rfl rfl ?_; clear S a; intro a S
                    refine l_on S rfl rfl rfl rfl rfl ?_
                    refine l_read S H (r_load rfl List.mem_cons_self rfl (fun w hc => ld1 ag5 hc)) rfl rfl rfl ?_; clear S a; intro a S
                    refine l_on S rfl rfl rfl rfl rfl ?_
                    refine l_pure S (p_eql rfl rfl) rfl rfl rfl ?_; clear S a; intro a S
                    refine l_on S rfl rfl rfl rfl rfl ?_
                    refine l_pure S (p_move rfl) rfl rfl rfl ?_; clear S a; intro a S
                    refine l_split (S.of 79 rfl) (fun bc155 => ?_) (fun bc155 => ?_)
                    · skip
                      have c155 := bc155
                      have c155 := eq_of_beq c155
                      refine l_on S rfl rfl rfl rfl bc155 ?_
                      refine l_pure S (p_fieldAddr rfl (fun w => fa43_2 w _ _)) rfl rfl rfl ?_; clear S a; intro a S
                      refine l_on S rfl rfl rfl rfl bc155 ?_
                      refine l_read S H (r_load rfl List.mem_cons_self rfl (fun w hc => ld1 ag9 hc)) rfl rfl rfl ?_; clear S a; intro a S
                      refine l_on S rfl rfl rfl rfl bc155 ?_
                      refine l_pure S (p_builtin (xs := [_]) rfl (fun _ _ _ => rfl)) rfl rfl rfl ?_; clear S a; intro a S
                      refine l_on S rfl rfl rfl rfl bc155 ?_
                      refine l_pure S (p_neq rfl rfl) rfl rfl rfl ?_; clear S a; intro a S
                      refine l_on S rfl rfl rfl rfl rfl ?_
                      refine l_pure S (p_pick_t rfl bc155 rfl) rfl rfl rfl ?_; clear S a; intro a S
                      refine l_pure S (p_pick_f rfl rfl rfl) rfl rfl rfl ?_; clear S a; intro a S
                      refine l_pure S (p_assign rfl) rfl rfl rfl ?_; clear S a; intro a S
                      refine l_nil ?_
                      refine e_then ?_
                      exact ⟨_, S.only ⟨rfl, rfl, rfl, rfl, rfl, rfl, trivial⟩, H, (by first | (simp only [cc1, cc2, cc3, cc4, cc5]; grind) | (simp only [cc1, cc2, cc3, cc4, cc5]; simp_all; done) | (simp only [cc1, cc2, cc3, cc4, cc5]; simp_all; omega))⟩
                    · skip
                      have c155 := bc155
                      have c155 := ne_of_beq_false c155
                      refine l_off S rfl rfl rfl rfl bc155 rfl rfl ?_; clear S a; intro a S
                      refine l_off S rfl rfl rfl rfl bc155 rfl rfl ?_; clear S a; intro a S
                      refine l_off S rfl rfl rfl rfl bc155 rfl rfl ?_; clear S a; intro a S
                      refine l_off S rfl rfl rfl rfl bc155 rfl rfl ?_; clear S a; intro a S
                      refine l_on S rfl rfl rfl rfl rfl ?_
                      refine l_pure S (p_pick_f rfl bc155 rfl) rfl rfl rfl ?_; clear S a; intro a S
                      refine l_pure S (p_pick_f rfl rfl rfl) rfl rfl rfl ?_; clear S a; intro a S
                      refine l_pure S (p_assign rfl) rfl rfl rfl ?_; clear S a; intro a S
                      refine l_nil ?_
                      refine e_then ?_
                      exact ⟨_, S.only ⟨rfl, rfl, rfl, rfl, rfl, rfl, trivial⟩, H, (by first | (simp only [cc1, cc2, cc3, cc4, cc5]; grind) | (simp only [cc1, cc2, cc3, cc4, cc5]; simp_all; done) | (simp only [cc1, cc2, cc3, cc4, cc5]; simp_all; omega))⟩
            · skip
              refine l_off S rfl rfl rfl rfl bc134 rfl rfl ?_; clear S a; intro a S
              refine l_off S rfl rfl rfl rfl bc134 rfl rfl ?_; clear S a; intro a S
              refine l_off S rfl rfl rfl rfl bc134 rfl rfl ?_; clear S a; intro a S
              refine l_off S rfl rfl rfl rfl bc134 rfl rfl ?_; clear S a; intro a S
              refine l_off S rfl rfl rfl rfl bc134 rfl rfl ?_; clear S a; intro a S
              refine l_offU S rfl rfl rfl rfl rfl rfl ?_; clear S a; intro a S
              refine l_offU S rfl rfl rfl rfl rfl rfl ?_; clear S a; intro a S
              refine l_offU S rfl rfl rfl rfl rfl rfl ?_; clear S a; intro a S
              refine l_offU S rfl rfl rfl rfl rfl rfl ?_; clear S a; intro a S
              refine l_offU S rfl rfl rfl rfl rfl rfl ?_; clear S a; intro a S
              refine l_offU S rfl rfl rfl rfl rfl rfl ?_; clear S a; intro a S
              refine l_off S rfl rfl rfl rfl bc134 rfl rfl ?_; clear S a; intro a S
              refine l_on S rfl rfl rfl rfl bc130 ?_
              refine l_pure S (p_pick_f rfl bc134 rfl) rfl rfl rfl ?_; clear S a; intro a S
              refine l_pure S (p_pick_f rfl bc130 rfl) rfl rfl rfl ?_; clear S a; intro a S
              refine l_pure S (p_move rfl) rfl rfl rfl ?_; clear S a; intro a S
              refine l_on S rfl rfl rfl rfl rfl ?_
              refine l_pure S (p_fieldAddr rfl (fun w => fa43_0 w _ _)) rfl rfl rfl ?_; clear S a; intro a S
              refine l_on S rfl rfl rfl rfl rfl ?_
              refine l_read S H (r_load rfl List.mem_cons_self rfl (fun w hc => ld1 ag5 hc)) rfl rfl rfl ?_; clear S a; intro a S
              refine l_on S rfl rfl rfl rfl rfl ?_
              refine l_pure S (p_neq rfl rfl) rfl rfl rfl ?_; clear S a; intro a S
              refine l_on S rfl rfl rfl rfl rfl ?_
              refine l_pure S (p_move rfl) rfl rfl rfl ?_; clear S a; intro a S
              refine l_split (S.of 68 rfl) (fun bc160 => ?_) (fun bc160 => ?_)
              · skip
                have c160 := bc160
                have c160 := bne_iff_ne.1 c160
                refine l_on S rfl rfl rfl rfl bc160 ?_
                refine l_pure S (p_fieldAddr rfl (fun w => fa43_2 w _ _)) rfl rfl rfl ?_; clear S a; intro a S
                refine l_on S rfl rfl rfl rfl bc160 ?_
                refine l_read S H (r_load rfl List.mem_cons_self rfl (fun w hc => ld1 ag9 hc)) rfl rfl rfl ?_; clear S a; intro a S
                refine l_on S rfl rfl rfl rfl bc160 ?_
                refine l_pure S (p_builtin (xs := [_]) rfl (fun _ _ _ => rfl)) rfl rfl rfl ?_; clear S a; intro a S
                refine l_on S rfl rfl rfl rfl bc160 ?_
                refine l_pure S (p_gtr rfl rfl) rfl rfl rfl ?_; clear S a; intro a S
                refine l_on S rfl rfl rfl rfl rfl ?_
                refine l_pure S (p_pick_t rfl bc160 rfl) rfl rfl rfl ?_; clear S a; intro a S
                refine l_pure S (p_pick_f rfl rfl rfl) rfl rfl rfl ?_; clear S a; intro a S
                refine l_pure S (p_move rfl) rfl rfl rfl ?_; clear S a; intro a S
                refine l_split (S.of 75 rfl) (fun bc162 => ?_) (fun bc162 => ?_)
                · skip
                  have c162 := bc162
                  have c162 := of_decide_eq_true c162
                  refine l_off S rfl rfl rfl rfl bc162 rfl rfl ?_; clear S a; intro a S
                  refine l_off S rfl rfl rfl rfl bc162 rfl rfl ?_; clear S a; intro a S
                  refine l_off S rfl rfl rfl rfl bc162 rfl rfl ?_; clear S a; intro a S
                  refine l_off S rfl rfl rfl rfl bc162 rfl rfl ?_; clear S a; intro a S
                  refine l_offU S rfl rfl rfl rfl rfl rfl ?_; clear S a; intro a S
                  refine l_offU S rfl rfl rfl rfl rfl rfl ?_; clear S a; intro a S
                  refine l_offU S rfl rfl rfl rfl rfl rfl ?_; clear S a; intro a S
                  refine l_offU S rfl rfl rfl rfl rfl rfl ?_; clear S a; intro a S
                  refine l_off S rfl rfl rfl rfl bc162 rfl rfl ?_; clear S a; intro a S
                  refine l_pure S (p_pick_t rfl bc162 rfl) rfl rfl rfl ?_; clear S a; intro a S
                  refine l_pure S (p_assign rfl) rfl rfl rfl ?_; clear S a; intro a S
                  refine l_nil ?_
                  refine e_then ?_
                  exact ⟨_, S.only ⟨rfl, rfl, rfl, rfl, rfl, rfl, trivial⟩, H, (by first | (simp only [cc1, cc2, cc3, cc4, cc5]; grind) | (simp only [cc1, cc2, cc3, cc4, cc5]; simp_all; done) | (simp only [cc1, cc2, cc3, cc4, cc5]; simp_all; omega))⟩
                · skip
                  have c162 := bc162
                  have c162 := of_decide_eq_false c162
                  refine l_on S rfl rfl rfl rfl bc162 ?_
                  refine l_pure S (p_fieldAddr rfl (fun w => fa43_0 w _ _)) rfl rfl rfl ?_; clear S a; intro a S
                  refine l_on S rfl rfl rfl rfl bc162 ?_
                  refine l_read S H (r_load rfl List.mem_cons_self rfl (fun w hc => ld1 ag5 hc)) rfl rfl rfl ?_; clear S a; intro a S
                  refine l_on S rfl rfl rfl rfl bc162 ?_
                  refine l_pure S (p_eql rfl rfl) rfl rfl rfl ?_; clear S a; intro a S
                  refine l_on S rfl rfl rfl rfl bc162 ?_
                  refine l_pure S (p_move rfl) rfl rfl rfl ?_; clear S a; intro a S
                  refine l_split (S.of 79 rfl) (fun bc165 => ?_) (fun bc165 => ?_)
                  · skip
                    have c165 := bc165
                    have c165 := eq_of_beq c165
                    refine l_on S rfl rfl rfl rfl bc165 ?_
                    refine l_pure S (p_fieldAddr rfl (fun w => fa43_2 w _ _)) rfl rfl rfl ?_; clear S a; intro a S
                    refine l_on S rfl rfl rfl rfl bc165 ?_
                    refine l_read S H (r_load rfl List.mem_cons_self rfl (fun w hc => ld1 ag9 hc)) rfl rfl rfl ?_; clear S a; intro a S
                    refine l_on S rfl rfl rfl rfl bc165 ?_
                    refine l_pure S (p_builtin (xs := [_]) rfl (fun _ _ _ => rfl)) rfl rfl rfl ?_; clear S a; intro a S
                    refine l_on S rfl rfl rfl rfl bc165 ?_
                    refine l_pure S (p_neq rfl rfl) rfl rfl rfl ?_; clear S a; intro a S
                    refine l_on S rfl rfl rfl rfl bc162 ?_
                    refine l_pure S (p_pick_t rfl bc165 rfl) rfl rfl rfl ?_; clear S a; intro a S
                    refine l_pure S (p_pick_f rfl bc162 rfl) rfl rfl rfl ?_; clear S a; intro a S
                    refine l_pure S (p_assign rfl) rfl rfl rfl ?_; clear S a; intro a S
                    refine l_nil ?_
                    refine e_then ?_
                    exact ⟨_, S.only ⟨rfl, rfl, rfl, rfl, rfl, rfl, trivial⟩, H, (by first | (simp only [cc1, cc2, cc3, cc4, cc5]; grind) | (simp only [cc1, cc2, cc3, cc4, cc5]; simp_all; done) | (simp only [cc1, cc2, cc3, cc4, cc5]; simp_all; omega))⟩
                  · skip
                    have c165 := bc165
                    have c165 := ne_of_beq_false c165
                    refine l_off S rfl rfl rfl rfl bc165 rfl rfl ?_; clear S a; intro a S
                    refine l_off S rfl rfl rfl rfl bc165 rfl rfl ?_; clear S a; intro a S
                    refine l_off S rfl rfl rfl rfl bc165 rfl rfl ?_; clear S a; intro a S
                    refine l_off S rfl rfl rfl rfl bc165 rfl rfl ?_; clear S a; intro a S
                    refine l_on S rfl rfl rfl rfl bc162 ?_
                    refine l_pure S (p_pick_f rfl bc165 rfl) rfl rfl rfl ?_; clear S a; intro a S
                    refine l_pure S (p_pick_f rfl bc162 rfl) rfl rfl rfl ?_; clear S a; intro a S
                    refine l_pure S (p_assign rfl) rfl rfl rfl ?_; clear S a; intro a S
                    refine l_nil ?_
                    refine e_then ?_
                    exact ⟨_, S.only ⟨rfl, rfl, rfl, rfl, rfl, rfl, trivial⟩, H, (by first | (simp only [cc1, cc2, cc3, cc4, cc5]; grind) | (simp only [cc1, cc2, cc3, cc4, cc5]; simp_all; done) | (simp only [cc1, cc2, cc3, cc4, cc5]; simp_all; omega))⟩
              · skip
                have c160 := bc160
                have c160 := bne_eq_false_iff_eq.1 c160
                refine l_off S rfl rfl rfl rfl bc160 rfl rfl ?_; clear S a; intro a S
                refine l_off S rfl rfl rfl rfl bc160 rfl rfl ?_; clear S a; intro a S
                refine l_off S rfl rfl rfl rfl bc160 rfl rfl ?_; clear S a; intro a S
                refine l_off S rfl rfl rfl rfl bc160 rfl rfl ?_; clear S a; intro a S
                refine l_on S rfl rfl rfl rfl rfl ?_
                refine l_pure S (p_pick_f rfl bc160 rfl) rfl rfl rfl ?_; clear S a; intro a S
                refine l_pure S (p_pick_f rfl rfl rfl) rfl rfl rfl ?_; clear S a; intro a S
                refine l_pure S (p_move rfl) rfl rfl rfl ?_; clear S a; intro a S
                refine l_on S rfl rfl rfl rfl rfl ?_
                refine l_pure S (p_fieldAddr rfl (fun w => fa43_0 w _ _)) rfl rfl rfl ?_; clear S a; intro a S
                refine l_on S rfl rfl rfl rfl rfl ?_
                refine l_read S H (r_load rfl List.mem_cons_self rfl (fun w hc => ld1 ag5 hc)) rfl rfl rfl ?_; clear S a; intro a S
                refine l_on S rfl rfl rfl rfl rfl ?_
                refine l_pure S (p_eql rfl rfl) rfl rfl rfl ?_; clear S a; intro a S
                refine l_on S rfl rfl rfl rfl rfl ?_
                refine l_pure S (p_move rfl) rfl rfl rfl ?_; clear S a; intro a S
                refine l_split (S.of 79 rfl) (fun bc170 => ?_) (fun bc170 => ?_)
                · skip
                  have c170 := bc170
                  have c170 := eq_of_beq c170
                  refine l_on S rfl rfl rfl rfl bc170 ?_
                  refine l_pure S (p_fieldAddr rfl (fun w => fa43_2 w _ _)) rfl rfl rfl ?_; clear S a; intro a S
                  refine l_on S rfl rfl rfl rfl bc170 ?_
                  refine l_read S H (r_load rfl List.mem_cons_self rfl (fun w hc => ld1 ag9 hc)) rfl rfl rfl ?_; clear S a; intro a S
                  refine l_on S rfl rfl rfl rfl bc170 ?_
                  refine l_pure S (p_builtin (xs := [_]) rfl (fun _ _ _ => rfl)) rfl rfl rfl ?_; clear S a; intro a S
                  refine l_on S rfl rfl rfl rfl bc170 ?_
                  refine l_pure S (p_neq rfl rfl) rfl rfl rfl ?_; clear S a; intro a S
                  refine l_on S rfl rfl rfl rfl rfl ?_
                  refine l_pure S (p_pick_t rfl bc170 rfl) rfl rfl rfl ?_; clear S a; intro a S
                  refine l_pure S (p_pick_f rfl rfl rfl) rfl rfl rfl ?_; clear S a; intro a S
                  refine l_pure S (p_assign rfl) rfl rfl rfl ?_; clear S a; intro a S
                  refine l_nil ?_
                  refine e_then ?_
                  exact ⟨_, S.only ⟨rfl, rfl, rfl, rfl, rfl, rfl, trivial⟩, H, (by first | (simp only [cc1, cc2, cc3, cc4, cc5]; grind) | (simp only [cc1, cc2, cc3, cc4, cc5]; simp_all; done) | (simp only [cc1, cc2, cc3, cc4, cc5]; simp_all; omega))⟩
                · skip
                  have c170 := bc170
                  have c170 := ne_of_beq_false c170
                  refine l_off S rfl rfl rfl rfl bc170 rfl rfl ?_; clear S a; intro a S
                  refine l_off S rfl rfl rfl rfl bc170 rfl rfl ?_; clear S a; intro a S
                  refine l_off S rfl rfl rfl rfl bc170 rfl rfl ?_; clear S a; intro a S
                  refine l_off S rfl rfl rfl rfl bc170 rfl rfl ?_; clear S a; intro a S
                  refine l_on S rfl rfl rfl rfl rfl ?_
                  refine l_pure S (p_pick_f rfl bc170 rfl) rfl rfl rfl ?_; clear S a; intro a S
                  refine l_pure S (p_pick_f rfl rfl rfl) rfl rfl rfl ?_; clear S a; intro a S
                  refine l_pure S (p_assign rfl) rfl rfl rfl ?_; clear S a; intro a S
                  refine l_nil ?_
                  refine e_then ?_
                  exact ⟨_, S.only ⟨rfl, rfl, rfl, rfl, rfl, rfl, trivial⟩, H, (by first | (simp only [cc1, cc2, cc3, cc4, cc5]; grind) | (simp only [cc1, cc2, cc3, cc4, cc5]; simp_all; done) | (simp only [cc1, cc2, cc3, cc4, cc5]; simp_all; omega))⟩
        · skip
          have c128 := bc128
          replace c128 := not_eq_false_ c128
          
          refine l_off S rfl rfl rfl rfl bc128 rfl rfl ?_; clear S a; intro a S
          refine l_off S rfl rfl rfl rfl bc128 rfl rfl ?_; clear S a; intro a S
          refine l_off S rfl rfl rfl rfl bc128 rfl rfl ?_; clear S a; intro a S
          refine l_off S rfl rfl rfl rfl bc128 rfl rfl ?_; clear S a; intro a S
          refine l_on S rfl rfl rfl rfl bc122 ?_
          refine l_pure S (p_pick_f rfl bc128 rfl) rfl rfl rfl ?_; clear S a; intro a S
          refine l_pure S (p_pick_f rfl bc122 rfl) rfl rfl rfl ?_; clear S a; intro a S
          refine l_pure S (p_move rfl) rfl rfl rfl ?_; clear S a; intro a S
          refine l_on S rfl rfl rfl rfl rfl ?_
          refine l_pure S (p_move rfl) rfl rfl rfl ?_; clear S a; intro a S
          refine l_on S rfl rfl rfl rfl rfl ?_
          refine l_pure S (p_move rfl) rfl rfl rfl ?_; clear S a; intro a S
          refine l_split (S.of 49 rfl) (fun bc174 => ?_) (fun bc174 => ?_)
          · skip
            refine l_on S rfl rfl rfl rfl bc174 ?_
            refine l_pure S (p_fieldAddr rfl (fun w => fa43_1 w _ _)) rfl rfl rfl ?_; clear S a; intro a S
            refine l_on S rfl rfl rfl rfl bc174 ?_
            refine l_read S H (r_load rfl List.mem_cons_self rfl (fun w hc => ld1 ag9 hc)) rfl rfl rfl ?_; clear S a; intro a S
            refine l_on S rfl rfl rfl rfl bc174 ?_
            refine l_pure S (p_builtin (xs := [_]) rfl (fun _ _ _ => rfl)) rfl rfl rfl ?_; clear S a; intro a S
            refine l_on S rfl rfl rfl rfl bc174 ?_
            refine l_pure S (p_gtr rfl rfl) rfl rfl rfl ?_; clear S a; intro a S
            refine l_on S rfl rfl rfl rfl bc174 ?_
            refine l_pure S (p_move rfl) rfl rfl rfl ?_; clear S a; intro a S
            refine l_split (S.of 54 rfl) (fun bc176 => ?_) (fun bc176 => ?_)
            · skip
              have c176 := bc176
              have c176 := of_decide_eq_true c176
              refine l_off S rfl rfl rfl rfl bc176 rfl rfl ?_; clear S a; intro a S
              refine l_off S rfl rfl rfl rfl bc176 rfl rfl ?_; clear S a; intro a S
              refine l_off S rfl rfl rfl rfl bc176 rfl rfl ?_; clear S a; intro a S
              refine l_off S rfl rfl rfl rfl bc176 rfl rfl ?_; clear S a; intro a S
              refine l_off S rfl rfl rfl rfl bc176 rfl rfl ?_; clear S a; intro a S
              refine l_off S rfl rfl rfl rfl bc176 rfl rfl ?_; clear S a; intro a S
              refine l_on S rfl rfl rfl rfl bc174 ?_
              refine l_pure S (p_pick_t rfl bc176 rfl) rfl rfl rfl ?_; clear S a; intro a S
              refine l_on S rfl rfl rfl rfl rfl ?_
              refine l_pure S (p_pick_t rfl bc174 rfl) rfl rfl rfl ?_; clear S a; intro a S
              refine l_pure S (p_pick_f rfl rfl rfl) rfl rfl rfl ?_; clear S a; intro a S
              refine l_pure S (p_move rfl) rfl rfl rfl ?_; clear S a; intro a S
              refine l_off S rfl rfl rfl rfl rfl rfl rfl ?_; clear S a; intro a S
              refine l_off S rfl rfl rfl rfl rfl rfl rfl ?_; clear S a; intro a S
              refine l_off S rfl rfl rfl rfl rfl rfl rfl ?_; clear S a; intro a S
              refine l_off S rfl rfl rfl rfl rfl rfl rfl ?_; clear S a; intro a S
              refine l_offU S rfl rfl rfl rfl rfl rfl ?_; clear S a; intro a S
              refine l_offU S rfl rfl rfl rfl rfl rfl ?_; clear S a; intro a S
              refine l_offU S rfl rfl rfl rfl rfl rfl ?_; clear S a; intro a S
              refine l_offU S rfl rfl rfl rfl rfl rfl ?_; clear S a; intro a S
              refine l_off S rfl rfl rfl rfl rfl rfl rfl ?_; clear S a; intro a S
              refine l_pure S (p_pick_t rfl rfl rfl) rfl rfl rfl ?_; clear S a; intro a S
              refine l_pure S (p_move rfl) rfl rfl rfl ?_; clear S a; intro a S
              refine l_off S rfl rfl rfl rfl rfl rfl rfl ?_; clear S a; intro a S
              refine l_off S rfl rfl rfl rfl rfl rfl rfl ?_; clear S a; intro a S
              refine l_off S rfl rfl rfl rfl rfl rfl rfl ?_; clear S a; intro a S
              refine l_off S rfl rfl rfl rfl rfl rfl rfl ?_; clear S a; intro a S
              refine l_offU S rfl rfl rfl rfl rfl rfl ?_; clear S a; intro a S
              refine l_offU S rfl rfl rfl rfl rfl rfl ?_; clear S a; intro a S
              refine l_offU S rfl rfl rfl rfl rfl rfl ?_; clear S a; intro a S
              refine l_offU S rfl rfl rfl rfl rfl rfl ?_; clear S a; intro a S
              refine l_off S rfl rfl rfl rfl rfl rfl rfl ?_; clear S a; intro a S
              refine l_pure S (p_pick_t rfl rfl rfl) rfl rfl rfl ?_; clear S a; intro a S
              refine l_pure S (p_assign rfl) rfl rfl rfl ?_; clear S a; intro a S
              refine l_nil ?_
              refine e_then ?_
              exact ⟨_, S.only ⟨rfl, rfl, rfl, rfl, rfl, rfl, trivial⟩, H, (by first | (simp only [cc1, cc2, cc3, cc4, cc5]; grind) | (simp only [cc1, cc2, cc3, cc4, cc5]; simp_all; done) | (simp only [cc1, cc2, cc3, cc4, cc5]; simp_all; omega))⟩
            · skip
              have c176 := bc176
              have c176 := of_decide_eq_false c176
              refine l_on S rfl rfl rfl rfl bc176 ?_
              refine l_pure S (p_fieldAddr rfl (fun w => fa43_3 w _ _)) rfl rfl rfl ?_; clear S a; intro a S
              refine l_on S rfl rfl rfl rfl bc176 ?_
              refine l_read S H (r_load rfl List.mem_cons_self rfl (fun w hc => ld1 ag41 hc)) rfl rfl rfl ?_; clear S a; intro a S
              refine l_on S rfl rfl rfl rfl bc176 ?_
              refine l_pure S (p_builtin (xs := [_]) rfl (fun _ _ _ => rfl)) rfl rfl rfl ?_; clear S a; intro a S
              refine l_on S rfl rfl rfl rfl bc176 ?_
              refine l_pure S (p_move rfl) rfl rfl rfl ?_; clear S a; intro a S
              refine l_on S rfl rfl rfl rfl bc176 ?_
              have hpos : (manyOf v.f0).1 = 1 ∨ (manyOf v.f0).1 = 2 := many_pos (by assumption)
              have hrem : (v.f3.length : Int).tmod (manyOf v.f0).1 = (v.f3.length : Int) % (manyOf v.f0).1 := Int.tmod_eq_emod_of_nonneg (by omega)
              refine l_pure S (p_rem (r := (v.f3.length : Int) % (manyOf v.f0).1) rfl rfl (by omega) hrem) rfl rfl rfl ?_; clear S a; intro a S
              refine l_on S rfl rfl rfl rfl bc176 ?_
              refine l_pure S (p_neq rfl rfl) rfl rfl rfl ?_; clear S a; intro a S
              refine l_on S rfl rfl rfl rfl bc174 ?_
              refine l_pure S (p_pick_f rfl bc176 rfl) rfl rfl rfl ?_; clear S a; intro a S
              refine l_on S rfl rfl rfl rfl rfl ?_
              refine l_pure S (p_pick_t rfl bc174 rfl) rfl rfl rfl ?_; clear S a; intro a S
              refine l_pure S (p_pick_f rfl rfl rfl) rfl rfl rfl ?_; clear S a; intro a S
              refine l_pure S (p_move rfl) rfl rfl rfl ?_; clear S a; intro a S
              refine l_split (S.of 64 rfl) (fun bc181 => ?_) (fun bc181 => ?_)
              · skip
                have c181 := bc181
                have c181 := bne_iff_ne.1 c181
                refine l_off S rfl rfl rfl rfl bc181 rfl rfl ?_; clear S a; intro a S
                refine l_off S rfl rfl rfl rfl bc181 rfl rfl ?_; clear S a; intro a S
                refine l_off S rfl rfl rfl rfl bc181 rfl rfl ?_; clear S a; intro a S
                refine l_off S rfl rfl rfl rfl bc181 rfl rfl ?_; clear S a; intro a S
                refine l_offU S rfl rfl rfl rfl rfl rfl ?_; clear S a; intro a S
                refine l_offU S rfl rfl rfl rfl rfl rfl ?_; clear S a; intro a S
                refine l_offU S rfl rfl rfl rfl rfl rfl ?_; clear S a; intro a S
                refine l_offU S rfl rfl rfl rfl rfl rfl ?_; clear S a; intro a S
                refine l_off S rfl rfl rfl rfl bc181 rfl rfl ?_; clear S a; intro a S
                refine l_pure S (p_pick_t rfl bc181 rfl) rfl rfl rfl ?_; clear S a; intro a S
                refine l_pure S (p_move rfl) rfl rfl rfl ?_; clear S a; intro a S
                refine l_off S rfl rfl rfl rfl rfl rfl rfl ?_; clear S a; intro a S
                refine l_off S rfl rfl rfl rfl rfl rfl rfl ?_; clear S a; intro a S
                refine l_off S rfl rfl rfl rfl rfl rfl rfl ?_; clear S a; intro a S
                refine l_off S rfl rfl rfl rfl rfl rfl rfl ?_; clear S a; intro a S
                refine l_offU S rfl rfl rfl rfl rfl rfl ?_; clear S a; intro a S
                refine l_offU S rfl rfl rfl rfl rfl rfl ?_; clear S a; intro a S
                refine l_offU S rfl rfl rfl rfl rfl rfl ?_; clear S a; intro a S
                refine l_offU S rfl rfl rfl rfl rfl rfl ?_; clear S a; intro a S
                refine l_off S rfl rfl rfl rfl rfl rfl rfl ?_; clear S a; intro a S
                refine l_pure S (p_pick_t rfl rfl rfl) rfl rfl rfl ?_; clear S a; intro a S
                refine l_pure S (p_assign rfl) rfl rfl rfl ?_; clear S a; intro a S
                refine l_nil ?_
                refine e_then ?_
                exact ⟨_, S.only ⟨rfl, rfl, rfl, rfl, rfl, rfl, trivial⟩, H, (by first | (simp only [cc1, cc2, cc3, cc4, cc5]; grind) | (simp only [cc1, cc2, cc3, cc4, cc5]; simp_all; done) | (simp only [cc1, cc2, cc3, cc4, cc5]; simp_all; omega))⟩
              · skip
                have c181 := bc181
                have c181 := bne_eq_false_iff_eq.1 c181
                refine l_on S rfl rfl rfl rfl bc181 ?_
                refine l_pure S (p_fieldAddr rfl (fun w => fa43_0 w _ _)) rfl rfl rfl ?_; clear S a; intro a S
                refine l_on S rfl rfl rfl rfl bc181 ?_
                refine l_read S H (r_load rfl List.mem_cons_self rfl (fun w hc => ld1 ag5 hc)) rfl rfl rfl ?_; clear S a; intro a S
                refine l_on S rfl rfl rfl rfl bc181 ?_
                refine l_pure S (p_neq rfl rfl) rfl rfl rfl ?_; clear S a; intro a S
                refine l_on S rfl rfl rfl rfl bc181 ?_
                refine l_pure S (p_move rfl) rfl rfl rfl ?_; clear S a; intro a S
                refine l_split (S.of 68 rfl) (fun bc185 => ?_) (fun bc185 => ?_)
                · skip
                  have c185 := bc185
                  have c185 := bne_iff_ne.1 c185
                  refine l_on S rfl rfl rfl rfl bc185 ?_
                  refine l_pure S (p_fieldAddr rfl (fun w => fa43_2 w _ _)) rfl rfl rfl ?_; clear S a; intro a S
                  refine l_on S rfl rfl rfl rfl bc185 ?_
                  refine l_read S H (r_load rfl List.mem_cons_self rfl (fun w hc => ld1 ag9 hc)) rfl rfl rfl ?_; clear S a; intro a S
                  refine l_on S rfl rfl rfl rfl bc185 ?_
                  refine l_pure S (p_builtin (xs := [_]) rfl (fun _ _ _ => rfl)) rfl rfl rfl ?_; clear S a; intro a S
                  refine l_on S rfl rfl rfl rfl bc185 ?_
                  refine l_pure S (p_gtr rfl rfl) rfl rfl rfl ?_; clear S a; intro a S
                  refine l_on S rfl rfl rfl rfl bc181 ?_
                  refine l_pure S (p_pick_t rfl bc185 rfl) rfl rfl rfl ?_; clear S a; intro a S
                  refine l_pure S (p_pick_f rfl bc181 rfl) rfl rfl rfl ?_; clear S a; intro a S
                  refine l_pure S (p_move rfl) rfl rfl rfl ?_; clear S a; intro a S
                  refine l_split (S.of 75 rfl) (fun bc187 => ?_) (fun bc187 => ?_)
                  · skip
                    have c187 := bc187
                    have c187 := of_decide_eq_true c187
                    refine l_off S rfl rfl rfl rfl bc187 rfl rfl ?_; clear S a; intro a S
                    refine l_off S rfl rfl rfl rfl bc187 rfl rfl ?_; clear S a; intro a S
                    refine l_off S rfl rfl rfl rfl bc187 rfl rfl ?_; clear S a; intro a S
                    refine l_off S rfl rfl rfl rfl bc187 rfl rfl ?_; clear S a; intro a S
                    refine l_offU S rfl rfl rfl rfl rfl rfl ?_; clear S a; intro a S
                    refine l_offU S rfl rfl rfl rfl rfl rfl ?_; clear S a; intro a S
                    refine l_offU S rfl rfl rfl rfl rfl rfl ?_; clear S a; intro a S
                    refine l_offU S rfl rfl rfl rfl rfl rfl ?_; clear S a; intro a S
                    refine l_off S rfl rfl rfl rfl bc187 rfl rfl ?_; clear S a; intro a S
                    refine l_pure S (p_pick_t rfl bc187 rfl) rfl rfl rfl ?_; clear S a; intro a S
                    refine l_pure S (p_assign rfl) rfl rfl rfl ?_; clear S a; intro a S
                    refine l_nil ?_
                    refine e_then ?_
                    exact ⟨_, S.only ⟨rfl, rfl, rfl, rfl, rfl, rfl, trivial⟩, H, (by first | (simp only [cc1, cc2, cc3, cc4, cc5]; grind) | (simp only [cc1, cc2, cc3, cc4, cc5]; simp_all; done) | (simp only [cc1, cc2, cc3, cc4, cc5]; simp_all; omega))⟩
                  · skip
                    have c187 := bc187
                    have c187 := of_decide_eq_false c187
                    refine l_on S rfl rfl rfl rfl bc187 ?_
                    refine l_pure S (p_fieldAddr rfl (fun w => fa43_0 w _ _)) rfl rfl rfl ?_; clear S a; intro a S
                    refine l_on S rfl rfl rfl rfl bc187 ?_
                    refine l_read S H (r_load rfl List.mem_cons_self rfl (fun w hc => ld1 ag5 hc)) rfl rfl rfl ?_; clear S a; intro a S
                    refine l_on S rfl rfl rfl rfl bc187 ?_
                    refine l_pure S (p_eql rfl rfl) rfl rfl rfl ?_; clear S a; intro a S
                    refine l_on S rfl rfl rfl rfl bc187 ?_
                    refine l_pure S (p_move rfl) rfl rfl rfl ?_; clear S a; intro a S
                    refine l_split (S.of 79 rfl) (fun bc190 => ?_) (fun bc190 => ?_)
                    · skip
                      have c190 := bc190
                      have c190 := eq_of_beq c190
                      refine l_on S rfl rfl rfl rfl bc190 ?_
                      refine l_pure S (p_fieldAddr rfl (fun w => fa43_2 w _ _)) rfl rfl rfl ?_; clear S a; intro a S
                      refine l_on S rfl rfl rfl rfl bc190 ?_
                      refine l_read S H (r_load rfl List.mem_cons_self rfl (fun w hc => ld1 ag9 hc)) rfl rfl rfl ?_; clear S a; intro a S
                      refine l_on S rfl rfl rfl rfl bc190 ?_
                      refine l_pure S (p_builtin (xs := [_]) rfl (fun _ _ _ => rfl)) rfl rfl rfl ?_; clear S a; intro a S
                      refine l_on S rfl rfl rfl rfl bc190 ?_
                      refine l_pure S (p_neq rfl rfl) rfl rfl rfl ?_; clear S a; intro a S
                      refine l_on S rfl rfl rfl rfl bc187 ?_
                      refine l_pure S (p_pick_t rfl bc190 rfl) rfl rfl rfl ?_; clear S a; intro a S
                      refine l_pure S (p_pick_f rfl bc187 rfl) rfl rfl rfl ?_; clear S a; intro a S
                      refine l_pure S (p_assign rfl) rfl rfl rfl ?_; clear S a; intro a S
                      refine l_nil ?_
                      refine e_then ?_
                      exact ⟨_, S.only ⟨rfl, rfl, rfl, rfl, rfl, rfl, trivial⟩, H, (by first | (simp only [cc1, cc2, cc3, cc4, cc5]; grind) | (simp only [cc1, cc2, cc3, cc4, cc5]; simp_all; done) | (simp only [cc1, cc2, cc3, cc4, cc5]; simp_all; omega))⟩
                    · skip
                      have c190 := bc190
                      have c190 := ne_of_beq_false c190
                      refine l_off S rfl rfl rfl rfl bc190 rfl rfl ?_; clear S a; intro a S
                      refine l_off S rfl rfl rfl rfl bc190 rfl rfl ?_; clear S a; intro a S
                      refine l_off S rfl rfl rfl rfl bc190 rfl rfl ?_; clear S a; intro a S
                      refine l_off S rfl rfl rfl rfl bc190 rfl rfl ?_; clear S a; intro a S
                      refine l_on S rfl rfl rfl rfl bc187 ?_
                      refine l_pure S (p_pick_f rfl bc190 rfl) rfl rfl rfl ?_; clear S a; intro a S
                      refine l_pure S (p_pick_f rfl bc187 rfl) rfl rfl rfl ?_; clear S a; intro a S
                      refine l_pure S (p_assign rfl) rfl rfl rfl ?_; clear S a; intro a S
                      refine l_nil ?_
                      refine e_then ?_
                      exact ⟨_, S.only ⟨rfl, rfl, rfl, rfl, rfl, rfl, trivial⟩, H, (by first | (simp only [cc1, cc2, cc3, cc4, cc5]; grind) | (simp only [cc1, cc2, cc3, cc4, cc5]; simp_all; done) | (simp only [cc1, cc2, cc3, cc4, cc5]; simp_all; omega))⟩
                · skip
                  have c185 := bc185
                  have c185 := bne_eq_false_iff_eq.1 c185
                  refine l_off S rfl rfl rfl rfl bc185 rfl rfl ?_; clear S a; intro a S
                  refine l_off S rfl rfl rfl rfl bc185 rfl rfl ?_; clear S a; intro a S
                  refine l_off S rfl rfl rfl rfl bc185 rfl rfl ?_; clear S a; intro a S
                  refine l_off S rfl rfl rfl rfl bc185 rfl rfl ?_; clear S a; intro a S
                  refine l_on S rfl rfl rfl rfl bc181 ?_
                  refine l_pure S (p_pick_f rfl bc185 rfl) rfl rfl rfl ?_; clear S a; intro a S
                  refine l_pure S (p_pick_f rfl bc181 rfl) rfl rfl rfl ?_; clear S a; intro a S
                  refine l_pure S (p_move rfl) rfl rfl rfl ?_; clear S a; intro a S
                  refine l_on S rfl rfl rfl rfl rfl ?_
                  refine l_pure S (p_fieldAddr rfl (fun w => fa43_0 w _ _)) rfl rfl rfl ?_; clear S a; intro a S
                  refine l_on S rfl rfl rfl rfl rfl ?_
                  refine l_read S H (r_load rfl List.mem_cons_self rfl (fun w hc => ld1 ag5 hc)) rfl rfl rfl ?_; clear S a; intro a S
                  refine l_on S rfl rfl rfl rfl rfl ?_
                  refine l_pure S (p_eql rfl rfl) rfl rfl rfl ?_; clear S a; intro a S
                  refine l_on S rfl rfl rfl rfl rfl ?_
                  refine l_pure S (p_move rfl) rfl rfl rfl ?_; clear S a; intro a S
                  refine l_split (S.of 79 rfl) (fun bc195 => ?_) (fun bc195 => ?_)
                  · skip
                    have c195 := bc195
                    have c195 := eq_of_beq c195
                    refine l_on S rfl rfl rfl rfl bc195 ?_
                    refine l_pure S (p_fieldAddr rfl (fun w => fa43_2 w _ _)) rfl rfl rfl ?_; clear S a; intro a S
                    refine l_on S rfl rfl rfl rfl bc195 ?_
                    refine l_read S H (r_load rfl List.mem_cons_self rfl (fun w hc => ld1 ag9 hc)) rfl rfl rfl ?_; clear S a; intro a S
                    refine l_on S rfl rfl rfl rfl bc195 ?_
                    refine l_pure S (p_builtin (xs := [_]) rfl (fun _ _ _ => rfl)) rfl rfl rfl ?_; clear S a; intro a S
                    refine l_on S rfl rfl rfl rfl bc195 ?_
                    refine l_pure S (p_neq rfl rfl) rfl rfl rfl ?_; clear S a; intro a S
                    refine l_on S rfl rfl rfl rfl rfl ?_
                    refine l_pure S (p_pick_t rfl bc195 rfl) rfl rfl rfl ?_; clear S a; intro a S
                    refine l_pure S (p_pick_f rfl rfl rfl) rfl rfl rfl ?_; clear S a; intro a S
                    refine l_pure S (p_assign rfl) rfl rfl rfl ?_; clear S a; intro a S
                    refine l_nil ?_
                    refine e_then ?_
                    exact ⟨_, S.only ⟨rfl, rfl, rfl, rfl, rfl, rfl, trivial⟩, H, (by first | (simp only [cc1, cc2, cc3, cc4, cc5]; grind) | (simp only [cc1, cc2, cc3, cc4, cc5]; simp_all; done) | (simp only [cc1, cc2, cc3, cc4, cc5]; simp_all; omega))⟩
                  · skip
                    have c195 := bc195
                    have c195 := ne_of_beq_false c195
                    refine l_off S rfl rfl rfl rfl bc195 rfl rfl ?_; clear S a; intro a S
                    refine l_off S rfl rfl rfl rfl bc195 rfl rfl ?_; clear S a; intro a S
                    refine l_off S rfl rfl rfl rfl bc195 rfl rfl ?_; clear S a; intro a S
                    refine l_off S rfl rfl rfl rfl bc195 rfl rfl ?_; clear S a; intro a S
                    refine l_on S rfl rfl rfl rfl rfl ?_
                    refine l_pure S (p_pick_f rfl bc195 rfl) rfl rfl rfl ?_; clear S a; intro a S
                    refine l_pure S (p_pick_f rfl rfl rfl) rfl rfl rfl ?_; clear S a; intro a S
                    refine l_pure S (p_assign rfl) rfl rfl rfl ?_; clear S a; intro a S
                    refine l_nil ?_
                    refine e_then ?_
                    exact ⟨_, S.only ⟨rfl, rfl, rfl, rfl, rfl, rfl, trivial⟩, H, (by first | (simp only [cc1, cc2, cc3, cc4, cc5]; grind) | (simp only [cc1, cc2, cc3, cc4, cc5]; simp_all; done) | (simp only [cc1, cc2, cc3, cc4, cc5]; simp_all; omega))⟩
          · skip
            refine l_off S rfl rfl rfl rfl bc174 rfl rfl ?_; clear S a; intro a S
            refine l_off S rfl rfl rfl rfl bc174 rfl rfl ?_; clear S a; intro a S
            refine l_off S rfl rfl rfl rfl bc174 rfl rfl ?_; clear S a; intro a S
            refine l_off S rfl rfl rfl rfl bc174 rfl rfl ?_; clear S a; intro a S
            refine l_off S rfl rfl rfl rfl bc174 rfl rfl ?_; clear S a; intro a S
            refine l_offU S rfl rfl rfl rfl rfl rfl ?_; clear S a; intro a S
            refine l_offU S rfl rfl rfl rfl rfl rfl ?_; clear S a; intro a S
            refine l_offU S rfl rfl rfl rfl rfl rfl ?_; clear S a; intro a S
            refine l_offU S rfl rfl rfl rfl rfl rfl ?_; clear S a; intro a S
            refine l_offU S rfl rfl rfl rfl rfl rfl ?_; clear S a; intro a S
            refine l_offU S rfl rfl rfl rfl rfl rfl ?_; clear S a; intro a S
            refine l_off S rfl rfl rfl rfl bc174 rfl rfl ?_; clear S a; intro a S
            refine l_on S rfl rfl rfl rfl rfl ?_
            refine l_pure S (p_pick_f rfl bc174 rfl) rfl rfl rfl ?_; clear S a; intro a S
            refine l_pure S (p_pick_f rfl rfl rfl) rfl rfl rfl ?_; clear S a; intro a S
            refine l_pure S (p_move rfl) rfl rfl rfl ?_; clear S a; intro a S
            refine l_on S rfl rfl rfl rfl rfl ?_
            refine l_pure S (p_fieldAddr rfl (fun w => fa43_0 w _ _)) rfl rfl rfl ?_; clear S a; intro a S
            refine l_on S rfl rfl rfl rfl rfl ?_
            refine l_read S H (r_load rfl List.mem_cons_self rfl (fun w hc => ld1 ag5 hc)) rfl rfl rfl ?_; clear S a; intro a S
            refine l_on S rfl rfl rfl rfl rfl ?_
            refine l_pure S (p_neq rfl rfl) rfl rfl rfl ?_; clear S a; intro a S
            refine l_on S rfl rfl rfl rfl rfl ?_
            refine l_pure S (p_move rfl) rfl rfl rfl ?_; clear S a; intro a S
            refine l_split (S.of 68 rfl) (fun bc200 => ?_) (fun bc200 => ?_)
            · skip
              have c200 := bc200
              have c200 := bne_iff_ne.1 c200
              refine l_on S rfl rfl rfl rfl bc200 ?_
              refine l_pure S (p_fieldAddr rfl (fun w => fa43_2 w _ _)) rfl rfl rfl ?_; clear S a; intro a S
              refine l_on S rfl rfl rfl rfl bc200 ?_
              refine l_read S H (r_load rfl List.mem_cons_self rfl (fun w hc => ld1 ag9 hc)) rfl rfl rfl ?_; clear S a; intro a S
              refine l_on S rfl rfl rfl rfl bc200 ?_
              refine l_pure S (p_builtin (xs := [_]) rfl (fun _ _ _ => rfl)) rfl rfl rfl ?_; clear S a; intro a S
              refine l_on S rfl rfl rfl rfl bc200 ?_
              refine l_pure S (p_gtr rfl rfl) rfl rfl rfl ?_; clear S a; intro a S
              refine l_on S rfl rfl rfl rfl rfl ?_
              refine l_pure S (p_pick_t rfl bc200 rfl) rfl rfl rfl ?_; clear S a; intro a S
              refine l_pure S (p_pick_f rfl rfl rfl) rfl rfl rfl ?_; clear S a; intro a S
              refine l_pure S (p_move rfl) rfl rfl rfl ?_; clear S a; intro a S
              refine l_split (S.of 75 rfl) (fun bc202 => ?_) (fun bc202 => ?_)
              · skip
                have c202 := bc202
                have c202 := of_decide_eq_true c202
                refine l_off S rfl rfl rfl rfl bc202 rfl rfl ?_; clear S a; intro a S
                refine l_off S rfl rfl rfl rfl bc202 rfl rfl ?_; clear S a; intro a S
                refine l_off S rfl rfl rfl rfl bc202 rfl rfl ?_; clear S a; intro a S
                refine l_off S rfl rfl rfl rfl bc202 rfl rfl ?_; clear S a; intro a S
                refine l_offU S rfl rfl rfl rfl rfl rfl ?_; clear S a; intro a S
                refine l_offU S rfl rfl rfl rfl rfl rfl ?_; clear S a; intro a S
                refine l_offU S rfl rfl rfl rfl rfl rfl ?_; clear S a; intro a S
                refine l_offU S rfl rfl rfl rfl rfl rfl ?_; clear S a; intro a S
                refine l_off S rfl rfl rfl rfl bc202 rfl rfl ?_; clear S a; intro a S
                refine l_pure S (p_pick_t rfl bc202 rfl) rfl rfl rfl ?_; clear S a; intro a S
                refine l_pure S (p_assign rfl) rfl rfl rfl ?_; clear S a; intro a S
                refine l_nil ?_
                refine e_then ?_
                exact ⟨_, S.only ⟨rfl, rfl, rfl, rfl, rfl, rfl, trivial⟩, H, (by first | (simp only [cc1, cc2, cc3, cc4, cc5]; grind) | (simp only [cc1, cc2, cc3, cc4, cc5]; simp_all; done) | (simp only [cc1, cc2, cc3, cc4, cc5]; simp_all; omega))⟩
              · skip
                have c202 := bc202
                have c202 := of_decide_eq_false c202
                refine l_on S rfl rfl rfl rfl bc202 ?_
                refine l_pure S (p_fieldAddr rfl (fun w => fa43_0 w _ _)) rfl rfl rfl ?_; clear S a; intro a S
                refine l_on S rfl rfl rfl rfl bc202 ?_
                refine l_read S H (r_load rfl List.mem_cons_self rfl (fun w hc => ld1 ag5 hc)) rfl rfl rfl ?_; clear S a; intro a S
                refine l_on S rfl rfl rfl rfl bc202 ?_
                refine l_pure S (p_eql rfl rfl) rfl rfl rfl ?_; clear S a; intro a S
                refine l_on S rfl rfl rfl rfl bc202 ?_
                refine l_pure S (p_move rfl) rfl rfl rfl ?_; clear S a; intro a S
                refine l_split (S.of 79 rfl) (fun bc205 => ?_) (fun bc205 => ?_)
                · skip
                  have c205 := bc205
                  have c205 := eq_of_beq c205
                  refine l_on S rfl rfl rfl rfl bc205 ?_
                  refine l_pure S (p_fieldAddr rfl (fun w => fa43_2 w _ _)) rfl rfl rfl ?_; clear S a; intro a S
                  refine l_on S rfl rfl rfl rfl bc205 ?_
                  refine l_read S H (r_load rfl List.mem_cons_self rfl (fun w hc => ld1 ag9 hc)) rfl rfl rfl ?_; clear S a; intro a S
                  refine l_on S rfl rfl rfl rfl bc205 ?_
                  refine l_pure S (p_builtin (xs := [_]) rfl (fun _ _ _ => rfl)) rfl rfl rfl ?_; clear S a; intro a S
                  refine l_on S rfl rfl rfl rfl bc205 ?_
                  refine l_pure S (p_neq rfl rfl) rfl rfl rfl ?_; clear S a; intro a S
                  refine l_on S rfl rfl rfl rfl bc202 ?_
                  refine l_pure S (p_pick_t rfl bc205 rfl) rfl rfl rfl ?_; clear S a; intro a S
                  refine l_pure S (p_pick_f rfl bc202 rfl) rfl rfl rfl ?_; clear S a; intro a S
                  refine l_pure S (p_assign rfl) rfl rfl rfl ?_; clear S a; intro a S
                  refine l_nil ?_
                  refine e_then ?_
                  exact ⟨_, S.only ⟨rfl, rfl, rfl, rfl, rfl, rfl, trivial⟩, H, (by first | (simp only [cc1, cc2, cc3, cc4, cc5]; grind) | (simp only [cc1, cc2, cc3, cc4, cc5]; simp_all; done) | (simp only [cc1, cc2, cc3, cc4, cc5]; simp_all; omega))⟩
                · skip
                  have c205 := bc205
                  have c205 := ne_of_beq_false c205
                  refine l_off S rfl rfl rfl rfl bc205 rfl rfl ?_; clear S a; intro a S
                  refine l_off S rfl rfl rfl rfl bc205 rfl rfl ?_; clear S a; intro a S
                  refine l_off S rfl rfl rfl rfl bc205 rfl rfl ?_; clear S a; intro a S
                  refine l_off S rfl rfl rfl rfl bc205 rfl rfl ?_; clear S a; intro a S
                  refine l_on S rfl rfl rfl rfl bc202 ?_
                  refine l_pure S (p_pick_f rfl bc205 rfl) rfl rfl rfl ?_; clear S a; intro a S
                  refine l_pure S (p_pick_f rfl bc202 rfl) rfl rfl rfl ?_; clear S a; intro a S
                  refine l_pure S (p_assign rfl) rfl rfl rfl ?_; clear S a; intro a S
                  refine l_nil ?_
                  refine e_then ?_
                  exact ⟨_, S.only ⟨rfl, rfl, rfl, rfl, rfl, rfl, trivial⟩, H, (by first | (simp only [cc1, cc2, cc3, cc4, cc5]; grind) | (simp only [cc1, cc2, cc3, cc4, cc5]; simp_all; done) | (simp only [cc1, cc2, cc3, cc4, cc5]; simp_all; omega))⟩
            · skip
              have c200 := bc200
              have c200 := bne_eq_false_iff_eq.1 c200
              refine l_off S rfl rfl rfl rfl bc200 rfl rfl ?_; clear S a; intro a S
              refine l_off S rfl rfl rfl rfl bc200 rfl rfl ?_; clear S a; intro a S
              refine l_off S rfl rfl rfl rfl bc200 rfl rfl ?_; clear S a; intro a S
              refine l_off S rfl rfl rfl rfl bc200 rfl rfl ?_; clear S a; intro a S
              refine l_on S rfl rfl rfl rfl rfl ?_
              refine l_pure S (p_pick_f rfl bc200 rfl) rfl rfl rfl ?_; clear S a; intro a S
              refine l_pure S (p_pick_f rfl rfl rfl) rfl rfl rfl ?_; clear S a; intro a S
              refine l_pure S (p_move rfl) rfl rfl rfl ?_; clear S a; intro a S
              refine l_on S rfl rfl rfl rfl rfl ?_
              refine l_pure S (p_fieldAddr rfl (fun w => fa43_0 w _ _)) rfl rfl rfl ?_; clear S a; intro a S
              refine l_on S rfl rfl rfl rfl rfl ?_
              refine l_read S H (r_load rfl List.mem_cons_self rfl (fun w hc => ld1 ag5 hc)) rfl rfl rfl ?_; clear S a; intro a S
              refine l_on S rfl rfl rfl rfl rfl ?_
              refine l_pure S (p_eql rfl rfl) rfl rfl rfl ?_; clear S a; intro a S
              refine l_on S rfl rfl rfl rfl rfl ?_
              refine l_pure S (p_move rfl) rfl rfl rfl ?_; clear S a; intro a S
              refine l_split (S.of 79 rfl) (fun bc210 => ?_) (fun bc210 => ?_)
              · skip
                have c210 := bc210
                have c210 := eq_of_beq c210
                refine l_on S rfl rfl rfl rfl bc210 ?_
                refine l_pure S (p_fieldAddr rfl (fun w => fa43_2 w _ _)) rfl rfl rfl ?_; clear S a; intro a S
                refine l_on S rfl rfl rfl rfl bc210 ?_
                refine l_read S H (r_load rfl List.mem_cons_self rfl (fun w hc => ld1 ag9 hc)) rfl rfl rfl ?_; clear S a; intro a S
                refine l_on S rfl rfl rfl rfl bc210 ?_
                refine l_pure S (p_builtin (xs := [_]) rfl (fun _ _ _ => rfl)) rfl rfl rfl ?_; clear S a; intro a S
                refine l_on S rfl rfl rfl rfl bc210 ?_
                refine l_pure S (p_neq rfl rfl) rfl rfl rfl ?_; clear S a; intro a S
                refine l_on S rfl rfl rfl rfl rfl ?_
                refine l_pure S (p_pick_t rfl bc210 rfl) rfl rfl rfl ?_; clear S a; intro a S
                refine l_pure S (p_pick_f rfl rfl rfl) rfl rfl rfl ?_; clear S a; intro a S
                refine l_pure S (p_assign rfl) rfl rfl rfl ?_; clear S a; intro a S
                refine l_nil ?_
                refine e_then ?_
                exact ⟨_, S.only ⟨rfl, rfl, rfl, rfl, rfl, rfl, trivial⟩, H, (by first | (simp only [cc1, cc2, cc3, cc4, cc5]; grind) | (simp only [cc1, cc2, cc3, cc4, cc5]; simp_all; done) | (simp only [cc1, cc2, cc3, cc4, cc5]; simp_all; omega))⟩
              · skip
                have c210 := bc210
                have c210 := ne_of_beq_false c210
                refine l_off S rfl rfl rfl rfl bc210 rfl rfl ?_; clear S a; intro a S
                refine l_off S rfl rfl rfl rfl bc210 rfl rfl ?_; clear S a; intro a S
                refine l_off S rfl rfl rfl rfl bc210 rfl rfl ?_; clear S a; intro a S
                refine l_off S rfl rfl rfl rfl bc210 rfl rfl ?_; clear S a; intro a S
                refine l_on S rfl rfl rfl rfl rfl ?_
                refine l_pure S (p_pick_f rfl bc210 rfl) rfl rfl rfl ?_; clear S a; intro a S
                refine l_pure S (p_pick_f rfl rfl rfl) rfl rfl rfl ?_; clear S a; intro a S
                refine l_pure S (p_assign rfl) rfl rfl rfl ?_; clear S a; intro a S
                refine l_nil ?_
                refine e_then ?_
                exact ⟨_, S.only ⟨rfl, rfl, rfl, rfl, rfl, rfl, trivial⟩, H, (by first | (simp only [cc1, cc2, cc3, cc4, cc5]; grind) | (simp only [cc1, cc2, cc3, cc4, cc5]; simp_all; done) | (simp only [cc1, cc2, cc3, cc4, cc5]; simp_all; omega))⟩
end Go.Proofs.Ytcjdadfiedoflaa.tells
