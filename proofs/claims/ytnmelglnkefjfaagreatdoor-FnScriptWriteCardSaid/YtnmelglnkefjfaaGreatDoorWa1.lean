/- bytes.Buffer: what is written to it. -/
import Derived.Test.YtnmelglnkefjfaaGreatDoorIt
namespace Go.Proofs.YtnmelglnkefjfaaGreatDoor.wr
open Go.RowKit Go.Proofs.HHW Go.Proofs.YtnmelglnkefjfaaGreatDoorW.PrintWords
set_option linter.unusedVariables false
set_option linter.unusedSimpArgs false
namespace bb
theorem ag3 : aggB Tryz.prog 3 = some false := by kernel_rfl
theorem ag39 : aggB Tryz.prog 39 = some false := by kernel_rfl
theorem fa43_0 (w : World) (g o : Nat) : (Instr.fieldAt 43 (.pointer (some ⟨g, o, none⟩)) 0).run Tryz.prog w = .ok (.pointer (some ⟨g, o + 0, none⟩)) w := by kernel_rfl
theorem fa43_1 (w : World) (g o : Nat) : (Instr.fieldAt 43 (.pointer (some ⟨g, o, none⟩)) 1).run Tryz.prog w = .ok (.pointer (some ⟨g, o + 1, none⟩)) w := by kernel_rfl
theorem fa43_2 (w : World) (g o : Nat) : (Instr.fieldAt 43 (.pointer (some ⟨g, o, none⟩)) 2).run Tryz.prog w = .ok (.pointer (some ⟨g, o + 2, none⟩)) w := by kernel_rfl
theorem sz3 : szB Tryz.prog 3 = some 1 := by kernel_rfl
theorem sz39 : szB Tryz.prog 39 = some 1 := by kernel_rfl
theorem sz41 : szB Tryz.prog 41 = some 1 := by kernel_rfl
theorem sz5 : szB Tryz.prog 5 = some 1 := by kernel_rfl
theorem in5 : (Tryz.prog.info? 5).map (fun i => (i.zero, i.size, i.bytes)) = some (some (.int .u8 0), 1, 1) := by kernel_rfl


theorem tg_nil (wb w0 : World) (B : Nat) (L0 : dc.Bk) (b n : Nat) (H : HH B wb w0 ((b, .cells #[(.slice none 0 0), .int .i64 0, .int .i8 0] 43 (0, 0)) :: L0)) (hn0 : 0 < n)  : Calls Tryz.prog 149 #[.pointer (some ⟨b, 0, none⟩), .int .i64 (n : Int)] w0 fun e w' => e = .returned (.tuple #[.int .i64 0, .bool false]) ∧ HH B wb w' ((b, .cells #[(.slice none 0 0), .int .i64 0, .int .i8 0] 43 (0, 0)) :: L0) := by
  refine c_enter (args := [.pointer (some ⟨b, 0, none⟩), .int .i64 (n : Int)]) (k := 31) Tryz.func149 rfl rfl rfl (fun a S => ?_)
  refine wp_seq ?_
  refine c_region ?_
  refine l_pure S (p_assign rfl) rfl rfl rfl ?_; clear S a; intro a S
  refine l_pure S (p_assign rfl) rfl rfl rfl ?_; clear S a; intro a S
  refine l_nil ?_
  refine e_then ?_
  refine wp_seq ?_
  refine wp_seq ?_
  refine c_region ?_
  refine l_pure S (p_move rfl) rfl rfl rfl ?_; clear S a; intro a S
  refine l_pure S (p_nilCheck rfl) rfl rfl rfl ?_; clear S a; intro a S
  refine l_pure S (p_fieldAddr rfl (fun w => fa43_0 w _ _)) rfl rfl rfl ?_; clear S a; intro a S
  refine l_read S H (r_load rfl List.mem_cons_self rfl (fun w hc => ld1 ag39 hc)) rfl rfl rfl ?_; clear S a; intro a S
  refine l_pure S (p_len Tryz.underlying39 rfl) rfl rfl rfl ?_; clear S a; intro a S
  refine l_pure S (p_assign rfl) rfl rfl rfl ?_; clear S a; intro a S
  refine l_nil ?_
  refine e_then ?_
  refine wp_seq ?_
  refine c_region ?_
  refine l_pure S (p_move rfl) rfl rfl rfl ?_; clear S a; intro a S
  refine l_pure S (p_move rfl) rfl rfl rfl ?_; clear S a; intro a S
  refine l_pure S (p_nilCheck rfl) rfl rfl rfl ?_; clear S a; intro a S
  refine l_pure S (p_fieldAddr rfl (fun w => fa43_0 w _ _)) rfl rfl rfl ?_; clear S a; intro a S
  refine l_read S H (r_load rfl List.mem_cons_self rfl (fun w hc => ld1 ag39 hc)) rfl rfl rfl ?_; clear S a; intro a S
  refine l_pure S (p_cap Tryz.underlying39 rfl) rfl rfl rfl ?_; clear S a; intro a S
  refine l_pure S (p_move rfl) rfl rfl rfl ?_; clear S a; intro a S
  refine l_pure S (p_sub rfl rfl (nat_sub (x := 0) (y := 0) (by omega) (by omega))) rfl rfl rfl ?_; clear S a; intro a S
  refine l_pure S (p_leq rfl rfl) rfl rfl rfl ?_; clear S a; intro a S
  refine l_nil ?_
  refine e_then ?_
  refine c_cond S rfl (fun c3 => by have c3 := of_decide_eq_true c3; exfalso; omega) (fun c3 => ?_)
  have c3 := of_decide_eq_false c3
  refine wp_skip ?_
  refine e_then ?_
  refine wp_seq ?_
  refine c_region ?_
  refine l_pure S (p_assign rfl) rfl rfl rfl ?_; clear S a; intro a S
  refine l_pure S (p_assign rfl) rfl rfl rfl ?_; clear S a; intro a S
  refine l_nil ?_
  refine e_then ?_
  refine wp_ret ?_
  exact r_ret2 S rfl rfl rfl ⟨rfl, H⟩
theorem tg_room (wb w0 : World) (B : Nat) (L0 : dc.Bk) (b gr n c : Nat) (l : List Int) (H : HH B wb w0 ((b, .cells #[(.slice (some ⟨gr, 0, none⟩) l.length c), .int .i64 0, .int .i8 0] 43 (0, 0)) :: L0)) (hn0 : 0 < n) (hlc : l.length ≤ c) (hn : n ≤ c - l.length) (hb : c ≤ 9223372036854775807) : Calls Tryz.prog 149 #[.pointer (some ⟨b, 0, none⟩), .int .i64 (n : Int)] w0 fun e w' => e = .returned (.tuple #[.int .i64 (l.length : Int), .bool true]) ∧ HH B wb w' ((b, .cells #[(.slice (some ⟨gr, 0, none⟩) (l.length + n) c), .int .i64 0, .int .i8 0] 43 (0, 0)) :: L0) := by
  refine c_enter (args := [.pointer (some ⟨b, 0, none⟩), .int .i64 (n : Int)]) (k := 31) Tryz.func149 rfl rfl rfl (fun a S => ?_)
  refine wp_seq ?_
  refine c_region ?_
  refine l_pure S (p_assign rfl) rfl rfl rfl ?_; clear S a; intro a S
  refine l_pure S (p_assign rfl) rfl rfl rfl ?_; clear S a; intro a S
  refine l_nil ?_
  refine e_then ?_
  refine wp_seq ?_
  refine wp_seq ?_
  refine c_region ?_
  refine l_pure S (p_move rfl) rfl rfl rfl ?_; clear S a; intro a S
  refine l_pure S (p_nilCheck rfl) rfl rfl rfl ?_; clear S a; intro a S
  refine l_pure S (p_fieldAddr rfl (fun w => fa43_0 w _ _)) rfl rfl rfl ?_; clear S a; intro a S
  refine l_read S H (r_load rfl List.mem_cons_self rfl (fun w hc => ld1 ag39 hc)) rfl rfl rfl ?_; clear S a; intro a S
  refine l_pure S (p_len Tryz.underlying39 rfl) rfl rfl rfl ?_; clear S a; intro a S
  refine l_pure S (p_assign rfl) rfl rfl rfl ?_; clear S a; intro a S
  refine l_nil ?_
  refine e_then ?_
  refine wp_seq ?_
  refine c_region ?_
  refine l_pure S (p_move rfl) rfl rfl rfl ?_; clear S a; intro a S
  refine l_pure S (p_move rfl) rfl rfl rfl ?_; clear S a; intro a S
  refine l_pure S (p_nilCheck rfl) rfl rfl rfl ?_; clear S a; intro a S
  refine l_pure S (p_fieldAddr rfl (fun w => fa43_0 w _ _)) rfl rfl rfl ?_; clear S a; intro a S
  refine l_read S H (r_load rfl List.mem_cons_self rfl (fun w hc => ld1 ag39 hc)) rfl rfl rfl ?_; clear S a; intro a S
  refine l_pure S (p_cap Tryz.underlying39 rfl) rfl rfl rfl ?_; clear S a; intro a S
  refine l_pure S (p_move rfl) rfl rfl rfl ?_; clear S a; intro a S
  refine l_pure S (p_sub rfl rfl (nat_sub (x := c) (y := l.length) (by omega) (by omega))) rfl rfl rfl ?_; clear S a; intro a S
  refine l_pure S (p_leq rfl rfl) rfl rfl rfl ?_; clear S a; intro a S
  refine l_nil ?_
  refine e_then ?_
  refine c_cond S rfl (fun c3 => ?_) (fun c3 => by have c3 := of_decide_eq_false c3; exfalso; omega)
  have c3 := of_decide_eq_true c3
  refine wp_seq ?_
  refine c_region ?_
  refine l_pure S (p_move rfl) rfl rfl rfl ?_; clear S a; intro a S
  refine l_pure S (p_move rfl) rfl rfl rfl ?_; clear S a; intro a S
  refine l_pure S (p_nilCheck rfl) rfl rfl rfl ?_; clear S a; intro a S
  refine l_pure S (p_fieldAddr rfl (fun w => fa43_0 w _ _)) rfl rfl rfl ?_; clear S a; intro a S
  refine l_read S H (r_load rfl List.mem_cons_self rfl (fun w hc => ld1 ag39 hc)) rfl rfl rfl ?_; clear S a; intro a S
  refine l_pure S (p_move rfl) rfl rfl rfl ?_; clear S a; intro a S
  refine l_pure S (p_move rfl) rfl rfl rfl ?_; clear S a; intro a S
  refine l_pure S (p_add rfl rfl (nat_add (x := l.length) (y := n) (by omega))) rfl rfl rfl ?_; clear S a; intro a S
  refine l_pure S (p_slice rfl (fun _ _ => o_none) (o_some rfl) (fun _ _ => o_none) (fun w => sl_hi (m := l.length + n) Tryz.underlying39 sz5 rfl (by omega))) rfl rfl rfl ?_; clear S a; intro a S
  refine l_pure S (p_nilCheck rfl) rfl rfl rfl ?_; clear S a; intro a S
  refine l_pure S (p_fieldAddr rfl (fun w => fa43_0 w _ _)) rfl rfl rfl ?_; clear S a; intro a S
  refine l_store S H rfl rfl rfl .here (by first | decide | simp [Value.cells]) (fun w u hc hz => st1 sz39 rfl hc hz) rfl rfl ?_; clear S a H; intro w a H S
  refine l_nil ?_
  refine e_then ?_
  refine wp_seq ?_
  refine c_region ?_
  refine l_pure S (p_move rfl) rfl rfl rfl ?_; clear S a; intro a S
  refine l_pure S (p_assign rfl) rfl rfl rfl ?_; clear S a; intro a S
  refine l_pure S (p_assign rfl) rfl rfl rfl ?_; clear S a; intro a S
  refine l_nil ?_
  refine e_then ?_
  refine wp_ret ?_
  refine e_then_ret ?_
  exact r_ret2 S rfl rfl rfl ⟨rfl, H⟩
theorem tg_full (wb w0 : World) (B : Nat) (L0 : dc.Bk) (b gr n c : Nat) (l : List Int) (H : HH B wb w0 ((b, .cells #[(.slice (some ⟨gr, 0, none⟩) l.length c), .int .i64 0, .int .i8 0] 43 (0, 0)) :: L0)) (hn0 : 0 < n) (hlc : l.length ≤ c) (hn : c - l.length < n) (hb : c ≤ 9223372036854775807) : Calls Tryz.prog 149 #[.pointer (some ⟨b, 0, none⟩), .int .i64 (n : Int)] w0 fun e w' => e = .returned (.tuple #[.int .i64 0, .bool false]) ∧ HH B wb w' ((b, .cells #[(.slice (some ⟨gr, 0, none⟩) l.length c), .int .i64 0, .int .i8 0] 43 (0, 0)) :: L0) := by
  refine c_enter (args := [.pointer (some ⟨b, 0, none⟩), .int .i64 (n : Int)]) (k := 31) Tryz.func149 rfl rfl rfl (fun a S => ?_)
  refine wp_seq ?_
  refine c_region ?_
  refine l_pure S (p_assign rfl) rfl rfl rfl ?_; clear S a; intro a S
  refine l_pure S (p_assign rfl) rfl rfl rfl ?_; clear S a; intro a S
  refine l_nil ?_
  refine e_then ?_
  refine wp_seq ?_
  refine wp_seq ?_
  refine c_region ?_
  refine l_pure S (p_move rfl) rfl rfl rfl ?_; clear S a; intro a S
  refine l_pure S (p_nilCheck rfl) rfl rfl rfl ?_; clear S a; intro a S
  refine l_pure S (p_fieldAddr rfl (fun w => fa43_0 w _ _)) rfl rfl rfl ?_; clear S a; intro a S
  refine l_read S H (r_load rfl List.mem_cons_self rfl (fun w hc => ld1 ag39 hc)) rfl rfl rfl ?_; clear S a; intro a S
  refine l_pure S (p_len Tryz.underlying39 rfl) rfl rfl rfl ?_; clear S a; intro a S
  refine l_pure S (p_assign rfl) rfl rfl rfl ?_; clear S a; intro a S
  refine l_nil ?_
  refine e_then ?_
  refine wp_seq ?_
  refine c_region ?_
  refine l_pure S (p_move rfl) rfl rfl rfl ?_; clear S a; intro a S
  refine l_pure S (p_move rfl) rfl rfl rfl ?_; clear S a; intro a S
  refine l_pure S (p_nilCheck rfl) rfl rfl rfl ?_; clear S a; intro a S
  refine l_pure S (p_fieldAddr rfl (fun w => fa43_0 w _ _)) rfl rfl rfl ?_; clear S a; intro a S
  refine l_read S H (r_load rfl List.mem_cons_self rfl (fun w hc => ld1 ag39 hc)) rfl rfl rfl ?_; clear S a; intro a S
  refine l_pure S (p_cap Tryz.underlying39 rfl) rfl rfl rfl ?_; clear S a; intro a S
  refine l_pure S (p_move rfl) rfl rfl rfl ?_; clear S a; intro a S
  refine l_pure S (p_sub rfl rfl (nat_sub (x := c) (y := l.length) (by omega) (by omega))) rfl rfl rfl ?_; clear S a; intro a S
  refine l_pure S (p_leq rfl rfl) rfl rfl rfl ?_; clear S a; intro a S
  refine l_nil ?_
  refine e_then ?_
  refine c_cond S rfl (fun c3 => by have c3 := of_decide_eq_true c3; exfalso; omega) (fun c3 => ?_)
  have c3 := of_decide_eq_false c3
  refine wp_skip ?_
  refine e_then ?_
  refine wp_seq ?_
  refine c_region ?_
  refine l_pure S (p_assign rfl) rfl rfl rfl ?_; clear S a; intro a S
  refine l_pure S (p_assign rfl) rfl rfl rfl ?_; clear S a; intro a S
  refine l_nil ?_
  refine e_then ?_
  refine wp_ret ?_
  exact r_ret2 S rfl rfl rfl ⟨rfl, H⟩
theorem len_nil (wb w0 : World) (B : Nat) (L0 : dc.Bk) (b : Nat) (H : HH B wb w0 ((b, .cells #[(.slice none 0 0), .int .i64 0, .int .i8 0] 43 (0, 0)) :: L0))  : Calls Tryz.prog 151 #[.pointer (some ⟨b, 0, none⟩)] w0 fun e w' => e = .returned (.int .i64 0) ∧ HH B wb w' ((b, .cells #[(.slice none 0 0), .int .i64 0, .int .i8 0] 43 (0, 0)) :: L0) := by
  refine c_enter (args := [.pointer (some ⟨b, 0, none⟩)]) (k := 12) Tryz.func151 rfl rfl rfl (fun a S => ?_)
  refine wp_seq ?_
  refine c_region ?_
  refine l_pure S (p_assign rfl) rfl rfl rfl ?_; clear S a; intro a S
  refine l_nil ?_
  refine e_then ?_
  refine wp_seq ?_
  refine d_start (id := 1) [] 11 #[false, false, false, false, false, false, false, false, false, false, false] H rfl rfl rfl (fun w H => ?_)
  refine d_pure (i := 0) #[true, false, false, false, false, false, false, false, false, false, false] S rfl (p_move rfl) (wanted_none rfl) rfl rfl (by kernel_rfl) (fun _ _ _ h => h) ?_; clear S a; intro a S
  refine d_pure (i := 1) #[true, true, false, false, false, false, false, false, false, false, false] S rfl (p_nilCheck rfl) (wanted_none rfl) rfl rfl (by kernel_rfl) (fun _ _ _ h => h) ?_; clear S a; intro a S
  refine d_pure (i := 2) #[true, true, true, false, false, false, false, false, false, false, false] S rfl (p_fieldAddr rfl (fun w => fa43_0 w _ _)) (wanted_none rfl) rfl rfl (by kernel_rfl) (fun _ _ _ h => h) ?_; clear S a; intro a S
  refine d_read (i := 3) #[true, true, true, true, false, false, false, false, false, false, false] S H rfl (r_load rfl List.mem_cons_self rfl (fun w hc => ld1 ag39 hc)) (wanted_none rfl) rfl rfl (by kernel_rfl) (fun _ _ _ h => h) ?_; clear S a; intro a S
  refine d_pure (i := 4) #[true, true, true, true, true, false, false, false, false, false, false] S rfl (p_len Tryz.underlying39 rfl) (wanted_none rfl) rfl rfl (by kernel_rfl) (fun _ _ _ h => h) ?_; clear S a; intro a S
  refine d_pure (i := 5) #[true, true, true, true, true, true, false, false, false, false, false] S rfl (p_move rfl) (wanted_none rfl) rfl rfl (by kernel_rfl) (fun _ _ _ h => h) ?_; clear S a; intro a S
  refine d_pure (i := 6) #[true, true, true, true, true, true, true, false, false, false, false] S rfl (p_nilCheck rfl) (wanted_none rfl) rfl rfl (by kernel_rfl) (fun _ _ _ h => h) ?_; clear S a; intro a S
  refine d_pure (i := 7) #[true, true, true, true, true, true, true, true, false, false, false] S rfl (p_fieldAddr rfl (fun w => fa43_1 w _ _)) (wanted_none rfl) rfl rfl (by kernel_rfl) (fun _ _ _ h => h) ?_; clear S a; intro a S
  refine d_read (i := 8) #[true, true, true, true, true, true, true, true, true, false, false] S H rfl (r_load rfl List.mem_cons_self rfl (fun w hc => ld1 ag3 hc)) (wanted_none rfl) rfl rfl (by kernel_rfl) (fun _ _ _ h => h) ?_; clear S a; intro a S
  refine d_pure (i := 9) #[true, true, true, true, true, true, true, true, true, true, false] S rfl (p_sub (r := (0 : Int)) rfl rfl (by rw [Int.sub_zero]; exact IntWalk.i64_in _ (by omega))) (wanted_none rfl) rfl rfl (by kernel_rfl) (fun _ _ _ h => h) ?_; clear S a; intro a S
  refine d_pure (i := 10) #[true, true, true, true, true, true, true, true, true, true, true] S rfl (p_assign rfl) (wanted_none rfl) rfl rfl (by kernel_rfl) (fun _ _ _ h => h) ?_; clear S a; intro a S
  refine d_done (by kernel_rfl) ?_
  refine e_then ?_
  refine wp_ret ?_
  exact r_ret1 S rfl rfl ⟨rfl, H⟩
theorem len_row (wb w0 : World) (B : Nat) (L0 : dc.Bk) (b gr c : Nat) (l : List Int) (H : HH B wb w0 ((b, .cells #[(.slice (some ⟨gr, 0, none⟩) l.length c), .int .i64 0, .int .i8 0] 43 (0, 0)) :: L0)) (hl : l.length ≤ 9223372036854775807) : Calls Tryz.prog 151 #[.pointer (some ⟨b, 0, none⟩)] w0 fun e w' => e = .returned (.int .i64 (l.length : Int)) ∧ HH B wb w' ((b, .cells #[(.slice (some ⟨gr, 0, none⟩) l.length c), .int .i64 0, .int .i8 0] 43 (0, 0)) :: L0) := by
  refine c_enter (args := [.pointer (some ⟨b, 0, none⟩)]) (k := 12) Tryz.func151 rfl rfl rfl (fun a S => ?_)
  refine wp_seq ?_
  refine c_region ?_
  refine l_pure S (p_assign rfl) rfl rfl rfl ?_; clear S a; intro a S
  refine l_nil ?_
  refine e_then ?_
  refine wp_seq ?_
  refine d_start (id := 1) [] 11 #[false, false, false, false, false, false, false, false, false, false, false] H rfl rfl rfl (fun w H => ?_)
  refine d_pure (i := 0) #[true, false, false, false, false, false, false, false, false, false, false] S rfl (p_move rfl) (wanted_none rfl) rfl rfl (by kernel_rfl) (fun _ _ _ h => h) ?_; clear S a; intro a S
  refine d_pure (i := 1) #[true, true, false, false, false, false, false, false, false, false, false] S rfl (p_nilCheck rfl) (wanted_none rfl) rfl rfl (by kernel_rfl) (fun _ _ _ h => h) ?_; clear S a; intro a S
  refine d_pure (i := 2) #[true, true, true, false, false, false, false, false, false, false, false] S rfl (p_fieldAddr rfl (fun w => fa43_0 w _ _)) (wanted_none rfl) rfl rfl (by kernel_rfl) (fun _ _ _ h => h) ?_; clear S a; intro a S
  refine d_read (i := 3) #[true, true, true, true, false, false, false, false, false, false, false] S H rfl (r_load rfl List.mem_cons_self rfl (fun w hc => ld1 ag39 hc)) (wanted_none rfl) rfl rfl (by kernel_rfl) (fun _ _ _ h => h) ?_; clear S a; intro a S
  refine d_pure (i := 4) #[true, true, true, true, true, false, false, false, false, false, false] S rfl (p_len Tryz.underlying39 rfl) (wanted_none rfl) rfl rfl (by kernel_rfl) (fun _ _ _ h => h) ?_; clear S a; intro a S
  refine d_pure (i := 5) #[true, true, true, true, true, true, false, false, false, false, false] S rfl (p_move rfl) (wanted_none rfl) rfl rfl (by kernel_rfl) (fun _ _ _ h => h) ?_; clear S a; intro a S
  refine d_pure (i := 6) #[true, true, true, true, true, true, true, false, false, false, false] S rfl (p_nilCheck rfl) (wanted_none rfl) rfl rfl (by kernel_rfl) (fun _ _ _ h => h) ?_; clear S a; intro a S
  refine d_pure (i := 7) #[true, true, true, true, true, true, true, true, false, false, false] S rfl (p_fieldAddr rfl (fun w => fa43_1 w _ _)) (wanted_none rfl) rfl rfl (by kernel_rfl) (fun _ _ _ h => h) ?_; clear S a; intro a S
  refine d_read (i := 8) #[true, true, true, true, true, true, true, true, true, false, false] S H rfl (r_load rfl List.mem_cons_self rfl (fun w hc => ld1 ag3 hc)) (wanted_none rfl) rfl rfl (by kernel_rfl) (fun _ _ _ h => h) ?_; clear S a; intro a S
  refine d_pure (i := 9) #[true, true, true, true, true, true, true, true, true, true, false] S rfl (p_sub (r := (l.length : Int)) rfl rfl (by rw [Int.sub_zero]; exact IntWalk.i64_in _ (by omega))) (wanted_none rfl) rfl rfl (by kernel_rfl) (fun _ _ _ h => h) ?_; clear S a; intro a S
  refine d_pure (i := 10) #[true, true, true, true, true, true, true, true, true, true, true] S rfl (p_assign rfl) (wanted_none rfl) rfl rfl (by kernel_rfl) (fun _ _ _ h => h) ?_; clear S a; intro a S
  refine d_done (by kernel_rfl) ?_
  refine e_then ?_
  refine wp_ret ?_
  exact r_ret1 S rfl rfl ⟨rfl, H⟩
set_option maxHeartbeats 1000000 in
theorem grow_nil (wb w0 : World) (B : Nat) (L0 : dc.Bk) (b n : Nat) (H : HH B wb w0 ((b, .cells #[(.slice none 0 0), .int .i64 0, .int .i8 0] 43 (0, 0)) :: L0)) (hn0 : 0 < n) (hlim : 0 + n ≤ 140737488355328) : Calls Tryz.prog 150 #[.pointer (some ⟨b, 0, none⟩), .int .i64 (n : Int)] w0 fun e w' => ∃ (g' c' : Nat) (cs' : Array Value), e = .returned (.int .i64 0) ∧ HH B wb w' ((b, .cells #[(.slice (some ⟨g', 0, none⟩) (n) c'), .int .i64 0, .int .i8 0] 43 (0, 0)) :: (g', .cells cs' 5 (0, 0)) :: L0) ∧ cs'.size = c' ∧ 0 + n ≤ c' ∧ c' ≤ 9223372036854775807 ∧ bf.Row cs' 0 [] := by
  refine c_enter (args := [.pointer (some ⟨b, 0, none⟩), .int .i64 (n : Int)]) (k := 108) Tryz.func150 rfl rfl rfl (fun a S => ?_)
  refine wp_seq ?_
  refine c_region ?_
  refine l_pure S (p_assign rfl) rfl rfl rfl ?_; clear S a; intro a S
  refine l_nil ?_
  refine e_then ?_
  refine wp_seq ?_
  refine c_region ?_
  refine l_pure S (p_move rfl) rfl rfl rfl ?_; clear S a; intro a S
  refine l_call S rfl rfl Tryz.func151 rfl rfl (len_nil wb _ B _ b H ) rfl rfl rfl ?_
  rintro e w ⟨rfl, hH⟩
  refine ⟨_, rfl, ?_⟩; clear S a; intro a S
  clear H; have H := hH; clear hH
  refine l_pure S (p_assign rfl) rfl rfl rfl ?_; clear S a; intro a S
  refine l_nil ?_
  refine e_then ?_
  refine wp_seq ?_
  refine wp_seq ?_
  refine c_region ?_
  refine l_pure S (p_move rfl) rfl rfl rfl ?_; clear S a; intro a S
  refine l_pure S (p_eql rfl rfl) rfl rfl rfl ?_; clear S a; intro a S
  refine l_pure S (p_move rfl) rfl rfl rfl ?_; clear S a; intro a S
  refine l_on S rfl rfl rfl rfl rfl ?_
  refine l_pure S (p_move rfl) rfl rfl rfl ?_; clear S a; intro a S
  refine l_on S rfl rfl rfl rfl rfl ?_
  refine l_pure S (p_nilCheck rfl) rfl rfl rfl ?_; clear S a; intro a S
  refine l_on S rfl rfl rfl rfl rfl ?_
  refine l_pure S (p_fieldAddr rfl (fun w => fa43_1 w _ _)) rfl rfl rfl ?_; clear S a; intro a S
  refine l_on S rfl rfl rfl rfl rfl ?_
  refine l_read S H (r_load rfl List.mem_cons_self rfl (fun w hc => ld1 ag3 hc)) rfl rfl rfl ?_; clear S a; intro a S
  refine l_on S rfl rfl rfl rfl rfl ?_
  refine l_pure S (p_neq rfl rfl) rfl rfl rfl ?_; clear S a; intro a S
  refine l_pure S (p_pick_t rfl rfl rfl) rfl rfl rfl ?_; clear S a; intro a S
  refine l_nil ?_
  refine e_then ?_
  refine c_cond (b := false) S rfl (fun h => by cases h) (fun _ => ?_)
  refine wp_skip ?_
  refine e_then ?_
  refine wp_seq ?_
  refine wp_seq ?_
  refine c_region ?_
  refine l_pure S (p_move rfl) rfl rfl rfl ?_; clear S a; intro a S
  refine l_pure S (p_move rfl) rfl rfl rfl ?_; clear S a; intro a S
  refine l_call S rfl rfl Tryz.func149 rfl rfl (tg_nil wb _ B _ b n H hn0) rfl rfl rfl ?_
  rintro e w ⟨rfl, hH⟩
  refine ⟨_, rfl, ?_⟩; clear S a; intro a S
  clear H; have H := hH; clear hH
  refine l_pure S (p_move rfl) rfl rfl rfl ?_; clear S a; intro a S
  refine l_pure S (p_extract rfl rfl) rfl rfl rfl ?_; clear S a; intro a S
  refine l_pure S (p_extract rfl rfl) rfl rfl rfl ?_; clear S a; intro a S
  refine l_pure S (p_assign rfl) rfl rfl rfl ?_; clear S a; intro a S
  refine l_pure S (p_assign rfl) rfl rfl rfl ?_; clear S a; intro a S
  refine l_nil ?_
  refine e_then ?_
  refine wp_seq ?_
  refine c_region ?_
  refine l_pure S (p_move rfl) rfl rfl rfl ?_; clear S a; intro a S
  refine l_nil ?_
  refine e_then ?_
  refine c_cond (b := false) S rfl (fun h => by cases h) (fun _ => ?_)
  refine wp_skip ?_
  refine e_then ?_
  refine wp_seq ?_
  refine wp_seq ?_
  refine c_region ?_
  refine l_pure S (p_move rfl) rfl rfl rfl ?_; clear S a; intro a S
  refine l_pure S (p_nilCheck rfl) rfl rfl rfl ?_; clear S a; intro a S
  refine l_pure S (p_fieldAddr rfl (fun w => fa43_0 w _ _)) rfl rfl rfl ?_; clear S a; intro a S
  refine l_read S H (r_load rfl List.mem_cons_self rfl (fun w hc => ld1 ag39 hc)) rfl rfl rfl ?_; clear S a; intro a S
  refine l_pure S (p_slnil Tryz.underlying39 rfl rfl) rfl rfl rfl ?_; clear S a; intro a S
  refine l_pure S (p_move rfl) rfl rfl rfl ?_; clear S a; intro a S
  refine l_on S rfl rfl rfl rfl rfl ?_
  refine l_pure S (p_move rfl) rfl rfl rfl ?_; clear S a; intro a S
  refine l_on S rfl rfl rfl rfl rfl ?_
  refine l_pure S (p_leq rfl rfl) rfl rfl rfl ?_; clear S a; intro a S
  refine l_pure S (p_pick_t rfl rfl rfl) rfl rfl rfl ?_; clear S a; intro a S
  refine l_nil ?_
  refine e_then ?_
  refine c_cond S rfl (fun bc8 => ?_) (fun bc8 => ?_)
  · skip
    have c8 := bc8
    have c8 := of_decide_eq_true c8
    refine wp_seq ?_
    refine c_region ?_
    refine l_pure S (p_move rfl) rfl rfl rfl ?_; clear S a; intro a S
    refine l_pure S (p_move rfl) rfl rfl rfl ?_; clear S a; intro a S
    refine l_make (l := n) (c := 64) S H rfl rfl rfl Tryz.underlying39 in5 (by omega) (by omega) (by omega) rfl rfl rfl ?_; clear S a H; intro gm cm w a hcm H S
    refine l_pure S (p_nilCheck rfl) rfl rfl rfl ?_; clear S a; intro a S
    refine l_pure S (p_fieldAddr rfl (fun w => fa43_0 w _ _)) rfl rfl rfl ?_; clear S a; intro a S
    refine l_store S H rfl rfl rfl (.there .here) (by first | decide | simp [Value.cells]) (fun w u hc hz => st1 sz39 rfl hc hz) rfl rfl ?_; clear S a H; intro w a H S
    refine l_nil ?_
    refine e_then ?_
    refine wp_seq ?_
    refine c_region ?_
    refine l_pure S (p_assign rfl) rfl rfl rfl ?_; clear S a; intro a S
    refine l_nil ?_
    refine e_then ?_
    refine wp_ret ?_
    refine e_then_ret ?_
    exact r_ret1 S rfl rfl ⟨gm, 64, cm, rfl, H.pull1, hcm, by omega, by omega, (fun i v h => by simp at h)⟩
  · skip
    have c8 := bc8
    have c8 := of_decide_eq_false c8
    refine wp_skip ?_
    refine e_then ?_
    refine wp_seq ?_
    refine c_region ?_
    refine l_pure S (p_move rfl) rfl rfl rfl ?_; clear S a; intro a S
    refine l_pure S (p_nilCheck rfl) rfl rfl rfl ?_; clear S a; intro a S
    refine l_pure S (p_fieldAddr rfl (fun w => fa43_0 w _ _)) rfl rfl rfl ?_; clear S a; intro a S
    refine l_read S H (r_load rfl List.mem_cons_self rfl (fun w hc => ld1 ag39 hc)) rfl rfl rfl ?_; clear S a; intro a S
    refine l_pure S (p_cap Tryz.underlying39 rfl) rfl rfl rfl ?_; clear S a; intro a S
    refine l_pure S (p_assign rfl) rfl rfl rfl ?_; clear S a; intro a S
    refine l_nil ?_
    refine e_then ?_
    refine wp_seq ?_
    refine wp_seq ?_
    refine c_region ?_
    refine l_pure S (p_move rfl) rfl rfl rfl ?_; clear S a; intro a S
    refine l_pure S (p_move rfl) rfl rfl rfl ?_; clear S a; intro a S
    refine l_pure S (p_quo (r := ((0 / 2 : Nat) : Int)) rfl rfl (by decide) (by first | decide | exact nat_quo c 2 (by omega))) rfl rfl rfl ?_; clear S a; intro a S
    refine l_pure S (p_move rfl) rfl rfl rfl ?_; clear S a; intro a S
    refine l_pure S (p_sub (r := ((0 / 2 : Nat) : Int) - (0 : Int)) rfl rfl (IntWalk.i64_in _ (by omega))) rfl rfl rfl ?_; clear S a; intro a S
    refine l_pure S (p_leq rfl rfl) rfl rfl rfl ?_; clear S a; intro a S
    refine l_nil ?_
    refine e_then ?_
    refine c_cond S rfl (fun h => by rw [(decide_eq_false (by omega))] at h; cases h) (fun _ => ?_)
    refine wp_seq ?_
    refine c_region ?_
    refine l_pure S (p_move rfl) rfl rfl rfl ?_; clear S a; intro a S
    refine l_pure S (p_move rfl) rfl rfl rfl ?_; clear S a; intro a S
    refine l_pure S (p_sub (r := 9223372036854775807 - (0 : Int)) rfl rfl (IntWalk.i64_in _ (by omega))) rfl rfl rfl ?_; clear S a; intro a S
    refine l_pure S (p_move rfl) rfl rfl rfl ?_; clear S a; intro a S
    refine l_pure S (p_sub (r := 9223372036854775807 - (0 : Int) - (n : Int)) rfl rfl (IntWalk.i64_in _ (by omega))) rfl rfl rfl ?_; clear S a; intro a S
    refine l_pure S (p_gtr rfl rfl) rfl rfl rfl ?_; clear S a; intro a S
    refine l_nil ?_
    refine e_then ?_
    refine c_cond S rfl (fun h => by rw [(decide_eq_false (by omega))] at h; cases h) (fun _ => ?_)
    refine d_start (id := 15) [16, 19] 20 #[false, false, false, false, false, false, false, false, false, false, false, false, false, false, false, false, false, false, false, false] H rfl rfl rfl (fun w H => ?_)
    refine d_pure (i := 0) #[true, false, false, false, false, false, false, false, false, false, false, false, false, false, false, false, false, false, false, false] S rfl (p_move rfl) (wanted_none rfl) rfl rfl (by kernel_rfl) (fun _ _ _ h => h) ?_; clear S a; intro a S
    refine d_pure (i := 1) #[true, true, false, false, false, false, false, false, false, false, false, false, false, false, false, false, false, false, false, false] S rfl (p_move rfl) (wanted_none rfl) rfl rfl (by kernel_rfl) (fun _ _ _ h => h) ?_; clear S a; intro a S
    refine d_pure (i := 2) #[true, true, true, false, false, false, false, false, false, false, false, false, false, false, false, false, false, false, false, false] S rfl (p_nilCheck rfl) (wanted_none rfl) rfl rfl (by kernel_rfl) (fun _ _ _ h => h) ?_; clear S a; intro a S
    refine d_pure (i := 3) #[true, true, true, true, false, false, false, false, false, false, false, false, false, false, false, false, false, false, false, false] S rfl (p_fieldAddr rfl (fun w => fa43_0 w _ _)) (wanted_none rfl) rfl rfl (by kernel_rfl) (fun _ _ _ h => h) ?_; clear S a; intro a S
    refine d_read (i := 4) #[true, true, true, true, true, false, false, false, false, false, false, false, false, false, false, false, false, false, false, false] S H rfl (r_load rfl List.mem_cons_self rfl (fun w hc => ld1 ag39 hc)) (wanted_none rfl) rfl rfl (by kernel_rfl) (fun _ _ _ h => h) ?_; clear S a; intro a S
    refine d_pure (i := 5) #[true, true, true, true, true, true, false, false, false, false, false, false, false, false, false, false, false, false, false, false] S rfl (p_move rfl) (wanted_none rfl) rfl rfl (by kernel_rfl) (fun _ _ _ h => h) ?_; clear S a; intro a S
    refine d_pure (i := 6) #[true, true, true, true, true, true, true, false, false, false, false, false, false, false, false, false, false, false, false, false] S rfl (p_nilCheck rfl) (wanted_none rfl) rfl rfl (by kernel_rfl) (fun _ _ _ h => h) ?_; clear S a; intro a S
    refine d_pure (i := 7) #[true, true, true, true, true, true, true, true, false, false, false, false, false, false, false, false, false, false, false, false] S rfl (p_fieldAddr rfl (fun w => fa43_1 w _ _)) (wanted_none rfl) rfl rfl (by kernel_rfl) (fun _ _ _ h => h) ?_; clear S a; intro a S
    refine d_read (i := 8) #[true, true, true, true, true, true, true, true, true, false, false, false, false, false, false, false, false, false, false, false] S H rfl (r_load rfl List.mem_cons_self rfl (fun w hc => ld1 ag3 hc)) (wanted_none rfl) rfl rfl (by kernel_rfl) (fun _ _ _ h => h) ?_; clear S a; intro a S
    refine d_pure (i := 9) #[true, true, true, true, true, true, true, true, true, true, false, false, false, false, false, false, false, false, false, false] S rfl (p_slice rfl (o_some rfl) (fun _ _ => o_none) (fun _ _ => o_none) (fun w => sl_lo (m := 0) Tryz.underlying39 sz5 rfl (Nat.zero_le _))) (wanted_none rfl) rfl rfl (by kernel_rfl) (fun _ _ _ h => h) ?_; clear S a; intro a S
    rw [show cutAt none 0 0 1 = none from rfl] at S
    refine d_pure (i := 10) #[true, true, true, true, true, true, true, true, true, true, true, false, false, false, false, false, false, false, false, false] S rfl (p_move rfl) (wanted_none rfl) rfl rfl (by kernel_rfl) (fun _ _ _ h => h) ?_; clear S a; intro a S
    refine d_pure (i := 11) #[true, true, true, true, true, true, true, true, true, true, true, true, false, false, false, false, false, false, false, false] S rfl (p_nilCheck rfl) (wanted_none rfl) rfl rfl (by kernel_rfl) (fun _ _ _ h => h) ?_; clear S a; intro a S
    refine d_pure (i := 12) #[true, true, true, true, true, true, true, true, true, true, true, true, true, false, false, false, false, false, false, false] S rfl (p_fieldAddr rfl (fun w => fa43_1 w _ _)) (wanted_none rfl) rfl rfl (by kernel_rfl) (fun _ _ _ h => h) ?_; clear S a; intro a S
    refine d_read (i := 13) #[true, true, true, true, true, true, true, true, true, true, true, true, true, true, false, false, false, false, false, false] S H rfl (r_load rfl List.mem_cons_self rfl (fun w hc => ld1 ag3 hc)) (wanted_none rfl) rfl rfl (by kernel_rfl) (fun _ _ _ h => h) ?_; clear S a; intro a S
    refine d_pure (i := 14) #[true, true, true, true, true, true, true, true, true, true, true, true, true, true, true, false, false, false, false, false] S rfl (p_move rfl) (wanted_none rfl) rfl rfl (by kernel_rfl) (fun _ _ _ h => h) ?_; clear S a; intro a S
    refine d_pure (i := 15) #[true, true, true, true, true, true, true, true, true, true, true, true, true, true, true, true, false, false, false, false] S rfl (p_add (r := (n : Int)) rfl rfl (by rw [Int.zero_add]; exact IntWalk.i64_in _ (by omega))) (wanted_none rfl) rfl rfl (by kernel_rfl) (fun _ _ _ h => h) ?_; clear S a; intro a S
    have hcon := li.grow_nil H (n := n) hn0 (by omega)
    refine d_call_last (i := 16) #[true, true, true, true, true, true, true, true, true, true, true, true, true, true, true, true, true, false, false, false] S rfl rfl rfl Tryz.func152 rfl rfl hcon (wanted_none rfl) rfl rfl (by kernel_rfl) rfl ?_
    rintro e w ⟨gm, c2, cm, rfl, hH, hcm, hc2, hc3⟩
    refine ⟨_, rfl, ?_⟩; clear S a; intro a S; clear H hcon; have H := hH; clear hH
    refine d_pure (i := 17) #[true, true, true, true, true, true, true, true, true, true, true, true, true, true, true, true, true, true, false, false] S rfl (p_nilCheck rfl) (wanted_none rfl) rfl rfl (by kernel_rfl) (fun _ _ _ h => h) ?_; clear S a; intro a S
    refine d_pure (i := 18) #[true, true, true, true, true, true, true, true, true, true, true, true, true, true, true, true, true, true, true, false] S rfl (p_fieldAddr rfl (fun w => fa43_0 w _ _)) (wanted_none rfl) rfl rfl (by kernel_rfl) (fun _ _ _ h => h) ?_; clear S a; intro a S
    refine d_store (i := 19) #[true, true, true, true, true, true, true, true, true, true, true, true, true, true, true, true, true, true, true, true] S H rfl rfl rfl rfl (.there .here) (by first | decide | simp [Value.cells]) (fun w u hc hz => st1 sz39 rfl hc hz) (wanted_none rfl) rfl (by kernel_rfl) rfl ?_; clear S a H; intro w a H S
    refine d_done (by kernel_rfl) ?_
    refine e_then ?_
    refine wp_seq ?_
    refine c_region ?_
    refine l_pure S (p_move rfl) rfl rfl rfl ?_; clear S a; intro a S
    refine l_pure S (p_nilCheck rfl) rfl rfl rfl ?_; clear S a; intro a S
    refine l_pure S (p_fieldAddr rfl (fun w => fa43_1 w _ _)) rfl rfl rfl ?_; clear S a; intro a S
    refine l_store S H rfl rfl rfl (.there .here) (by first | decide | simp [Value.cells]) (fun w u hc hz => st1 sz3 rfl hc hz) rfl rfl ?_; clear S a H; intro w a H S
    refine l_nil ?_
    refine e_then ?_
    refine wp_seq ?_
    refine c_region ?_
    refine l_pure S (p_move rfl) rfl rfl rfl ?_; clear S a; intro a S
    refine l_pure S (p_move rfl) rfl rfl rfl ?_; clear S a; intro a S
    refine l_pure S (p_nilCheck rfl) rfl rfl rfl ?_; clear S a; intro a S
    refine l_pure S (p_fieldAddr rfl (fun w => fa43_0 w _ _)) rfl rfl rfl ?_; clear S a; intro a S
    refine l_read S H (r_load rfl (List.mem_cons_of_mem _ List.mem_cons_self) rfl (fun w hc => ld1 ag39 hc)) rfl rfl rfl ?_; clear S a; intro a S
    refine l_pure S (p_move rfl) rfl rfl rfl ?_; clear S a; intro a S
    refine l_pure S (p_move rfl) rfl rfl rfl ?_; clear S a; intro a S
    refine l_pure S (p_add (r := (n : Int)) rfl rfl (by rw [Int.zero_add]; exact IntWalk.i64_in _ (by omega))) rfl rfl rfl ?_; clear S a; intro a S
    refine l_pure S (p_slice rfl (fun _ _ => o_none) (o_some rfl) (fun _ _ => o_none) (fun w => sl_hi (m := n) Tryz.underlying39 sz5 rfl (by omega))) rfl rfl rfl ?_; clear S a; intro a S
    refine l_pure S (p_nilCheck rfl) rfl rfl rfl ?_; clear S a; intro a S
    refine l_pure S (p_fieldAddr rfl (fun w => fa43_0 w _ _)) rfl rfl rfl ?_; clear S a; intro a S
    refine l_store S H rfl rfl rfl (.there .here) (by first | decide | simp [Value.cells]) (fun w u hc hz => st1 sz39 rfl hc hz) rfl rfl ?_; clear S a H; intro w a H S
    refine l_nil ?_
    refine e_then ?_
    refine wp_seq ?_
    refine c_region ?_
    refine l_pure S (p_move rfl) rfl rfl rfl ?_; clear S a; intro a S
    refine l_pure S (p_assign rfl) rfl rfl rfl ?_; clear S a; intro a S
    refine l_nil ?_
    refine e_then ?_
    refine wp_ret ?_
    exact r_ret1 S rfl rfl ⟨gm, c2, cm, rfl, H.pull1, hcm, by omega, by omega, (fun i v h => by simp at h)⟩
set_option maxHeartbeats 1000000 in
theorem grow_row (wb w0 : World) (B : Nat) (L0 : dc.Bk) (b gr n c : Nat) (cs : Array Value) (l : List Int) (H : HH B wb w0 ((b, .cells #[(.slice (some ⟨gr, 0, none⟩) l.length c), .int .i64 0, .int .i8 0] 43 (0, 0)) :: (gr, .cells cs 5 (0, 0)) :: L0)) (hn0 : 0 < n) (hc : cs.size = c) (hlc : l.length ≤ c) (hrow : bf.Row cs 0 l) (hno : c - l.length < n) (hlim : l.length + n ≤ 140737488355328) : Calls Tryz.prog 150 #[.pointer (some ⟨b, 0, none⟩), .int .i64 (n : Int)] w0 fun e w' => ∃ (g' c' : Nat) (cs' : Array Value), e = .returned (.int .i64 (l.length : Int)) ∧ HH B wb w' ((b, .cells #[(.slice (some ⟨g', 0, none⟩) (l.length + n) c'), .int .i64 0, .int .i8 0] 43 (0, 0)) :: (g', .cells cs' 5 (0, 0)) :: L0) ∧ cs'.size = c' ∧ l.length + n ≤ c' ∧ c' ≤ 9223372036854775807 ∧ bf.Row cs' 0 l := by
  refine c_enter (args := [.pointer (some ⟨b, 0, none⟩), .int .i64 (n : Int)]) (k := 108) Tryz.func150 rfl rfl rfl (fun a S => ?_)
  refine wp_seq ?_
  refine c_region ?_
  refine l_pure S (p_assign rfl) rfl rfl rfl ?_; clear S a; intro a S
  refine l_nil ?_
  refine e_then ?_
  refine wp_seq ?_
  refine c_region ?_
  refine l_pure S (p_move rfl) rfl rfl rfl ?_; clear S a; intro a S
  refine l_call S rfl rfl Tryz.func151 rfl rfl (len_row wb _ B _ b gr c l H (by omega)) rfl rfl rfl ?_
  rintro e w ⟨rfl, hH⟩
  refine ⟨_, rfl, ?_⟩; clear S a; intro a S
  clear H; have H := hH; clear hH
  refine l_pure S (p_assign rfl) rfl rfl rfl ?_; clear S a; intro a S
  refine l_nil ?_
  refine e_then ?_
  refine wp_seq ?_
  refine wp_seq ?_
  refine c_region ?_
  refine l_pure S (p_move rfl) rfl rfl rfl ?_; clear S a; intro a S
  refine l_pure S (p_eql rfl rfl) rfl rfl rfl ?_; clear S a; intro a S
  refine l_pure S (p_move rfl) rfl rfl rfl ?_; clear S a; intro a S
  refine l_split (S.of 13 rfl) (fun bc2 => ?_) (fun bc2 => ?_)
  · skip
    have c2 := bc2
    have c2 := eq_of_beq c2
    refine l_on S rfl rfl rfl rfl bc2 ?_
    refine l_pure S (p_move rfl) rfl rfl rfl ?_; clear S a; intro a S
    refine l_on S rfl rfl rfl rfl bc2 ?_
    refine l_pure S (p_nilCheck rfl) rfl rfl rfl ?_; clear S a; intro a S
    refine l_on S rfl rfl rfl rfl bc2 ?_
    refine l_pure S (p_fieldAddr rfl (fun w => fa43_1 w _ _)) rfl rfl rfl ?_; clear S a; intro a S
    refine l_on S rfl rfl rfl rfl bc2 ?_
    refine l_read S H (r_load rfl List.mem_cons_self rfl (fun w hc => ld1 ag3 hc)) rfl rfl rfl ?_; clear S a; intro a S
    refine l_on S rfl rfl rfl rfl bc2 ?_
    refine l_pure S (p_neq rfl rfl) rfl rfl rfl ?_; clear S a; intro a S
    refine l_pure S (p_pick_t rfl bc2 rfl) rfl rfl rfl ?_; clear S a; intro a S
    refine l_nil ?_
    refine e_then ?_
    refine c_cond (b := false) S rfl (fun h => by cases h) (fun _ => ?_)
    refine wp_skip ?_
    refine e_then ?_
    refine wp_seq ?_
    refine wp_seq ?_
    refine c_region ?_
    refine l_pure S (p_move rfl) rfl rfl rfl ?_; clear S a; intro a S
    refine l_pure S (p_move rfl) rfl rfl rfl ?_; clear S a; intro a S
    refine l_call S rfl rfl Tryz.func149 rfl rfl (tg_full wb _ B _ b gr n c l H hn0 hlc hno (by omega)) rfl rfl rfl ?_
    rintro e w ⟨rfl, hH⟩
    refine ⟨_, rfl, ?_⟩; clear S a; intro a S
    clear H; have H := hH; clear hH
    refine l_pure S (p_move rfl) rfl rfl rfl ?_; clear S a; intro a S
    refine l_pure S (p_extract rfl rfl) rfl rfl rfl ?_; clear S a; intro a S
    refine l_pure S (p_extract rfl rfl) rfl rfl rfl ?_; clear S a; intro a S
    refine l_pure S (p_assign rfl) rfl rfl rfl ?_; clear S a; intro a S
    refine l_pure S (p_assign rfl) rfl rfl rfl ?_; clear S a; intro a S
    refine l_nil ?_
    refine e_then ?_
    refine wp_seq ?_
    refine c_region ?_
    refine l_pure S (p_move rfl) rfl rfl rfl ?_; clear S a; intro a S
    refine l_nil ?_
    refine e_then ?_
    refine c_cond (b := false) S rfl (fun h => by cases h) (fun _ => ?_)
    refine wp_skip ?_
    refine e_then ?_
    refine wp_seq ?_
    refine wp_seq ?_
    refine c_region ?_
    refine l_pure S (p_move rfl) rfl rfl rfl ?_; clear S a; intro a S
    refine l_pure S (p_nilCheck rfl) rfl rfl rfl ?_; clear S a; intro a S
    refine l_pure S (p_fieldAddr rfl (fun w => fa43_0 w _ _)) rfl rfl rfl ?_; clear S a; intro a S
    refine l_read S H (r_load rfl List.mem_cons_self rfl (fun w hc => ld1 ag39 hc)) rfl rfl rfl ?_; clear S a; intro a S
    refine l_pure S (p_slnil Tryz.underlying39 rfl rfl) rfl rfl rfl ?_; clear S a; intro a S
    refine l_pure S (p_move rfl) rfl rfl rfl ?_; clear S a; intro a S
    refine l_off S rfl rfl rfl rfl rfl rfl rfl ?_; clear S a; intro a S
    refine l_off S rfl rfl rfl rfl rfl rfl rfl ?_; clear S a; intro a S
    refine l_pure S (p_pick_f rfl rfl rfl) rfl rfl rfl ?_; clear S a; intro a S
    refine l_nil ?_
    refine e_then ?_
    refine c_cond (b := false) S rfl (fun h => by cases h) (fun _ => ?_)
    refine wp_skip ?_
    refine e_then ?_
    refine wp_seq ?_
    refine c_region ?_
    refine l_pure S (p_move rfl) rfl rfl rfl ?_; clear S a; intro a S
    refine l_pure S (p_nilCheck rfl) rfl rfl rfl ?_; clear S a; intro a S
    refine l_pure S (p_fieldAddr rfl (fun w => fa43_0 w _ _)) rfl rfl rfl ?_; clear S a; intro a S
    refine l_read S H (r_load rfl List.mem_cons_self rfl (fun w hc => ld1 ag39 hc)) rfl rfl rfl ?_; clear S a; intro a S
    refine l_pure S (p_cap Tryz.underlying39 rfl) rfl rfl rfl ?_; clear S a; intro a S
    refine l_pure S (p_assign rfl) rfl rfl rfl ?_; clear S a; intro a S
    refine l_nil ?_
    refine e_then ?_
    refine wp_seq ?_
    refine wp_seq ?_
    refine c_region ?_
    refine l_pure S (p_move rfl) rfl rfl rfl ?_; clear S a; intro a S
    refine l_pure S (p_move rfl) rfl rfl rfl ?_; clear S a; intro a S
    refine l_pure S (p_quo (r := ((c / 2 : Nat) : Int)) rfl rfl (by decide) (by first | decide | exact nat_quo c 2 (by omega))) rfl rfl rfl ?_; clear S a; intro a S
    refine l_pure S (p_move rfl) rfl rfl rfl ?_; clear S a; intro a S
    refine l_pure S (p_sub (r := ((c / 2 : Nat) : Int) - (l.length : Int)) rfl rfl (IntWalk.i64_in _ (by omega))) rfl rfl rfl ?_; clear S a; intro a S
    refine l_pure S (p_leq rfl rfl) rfl rfl rfl ?_; clear S a; intro a S
    refine l_nil ?_
    refine e_then ?_
    refine c_cond S rfl (fun h => by rw [(decide_eq_false (by omega))] at h; cases h) (fun _ => ?_)
    refine wp_seq ?_
    refine c_region ?_
    refine l_pure S (p_move rfl) rfl rfl rfl ?_; clear S a; intro a S
    refine l_pure S (p_move rfl) rfl rfl rfl ?_; clear S a; intro a S
    refine l_pure S (p_sub (r := 9223372036854775807 - (c : Int)) rfl rfl (IntWalk.i64_in _ (by omega))) rfl rfl rfl ?_; clear S a; intro a S
    refine l_pure S (p_move rfl) rfl rfl rfl ?_; clear S a; intro a S
    refine l_pure S (p_sub (r := 9223372036854775807 - (c : Int) - (n : Int)) rfl rfl (IntWalk.i64_in _ (by omega))) rfl rfl rfl ?_; clear S a; intro a S
    refine l_pure S (p_gtr rfl rfl) rfl rfl rfl ?_; clear S a; intro a S
    refine l_nil ?_
    refine e_then ?_
    refine c_cond S rfl (fun h => by rw [(decide_eq_false (by omega))] at h; cases h) (fun _ => ?_)
    refine d_start (id := 15) [16, 19] 20 #[false, false, false, false, false, false, false, false, false, false, false, false, false, false, false, false, false, false, false, false] H rfl rfl rfl (fun w H => ?_)
    refine d_pure (i := 0) #[true, false, false, false, false, false, false, false, false, false, false, false, false, false, false, false, false, false, false, false] S rfl (p_move rfl) (wanted_none rfl) rfl rfl (by kernel_rfl) (fun _ _ _ h => h) ?_; clear S a; intro a S
    refine d_pure (i := 1) #[true, true, false, false, false, false, false, false, false, false, false, false, false, false, false, false, false, false, false, false] S rfl (p_move rfl) (wanted_none rfl) rfl rfl (by kernel_rfl) (fun _ _ _ h => h) ?_; clear S a; intro a S
    refine d_pure (i := 2) #[true, true, true, false, false, false, false, false, false, false, false, false, false, false, false, false, false, false, false, false] S rfl (p_nilCheck rfl) (wanted_none rfl) rfl rfl (by kernel_rfl) (fun _ _ _ h => h) ?_; clear S a; intro a S
    refine d_pure (i := 3) #[true, true, true, true, false, false, false, false, false, false, false, false, false, false, false, false, false, false, false, false] S rfl (p_fieldAddr rfl (fun w => fa43_0 w _ _)) (wanted_none rfl) rfl rfl (by kernel_rfl) (fun _ _ _ h => h) ?_; clear S a; intro a S
    refine d_read (i := 4) #[true, true, true, true, true, false, false, false, false, false, false, false, false, false, false, false, false, false, false, false] S H rfl (r_load rfl List.mem_cons_self rfl (fun w hc => ld1 ag39 hc)) (wanted_none rfl) rfl rfl (by kernel_rfl) (fun _ _ _ h => h) ?_; clear S a; intro a S
    refine d_pure (i := 5) #[true, true, true, true, true, true, false, false, false, false, false, false, false, false, false, false, false, false, false, false] S rfl (p_move rfl) (wanted_none rfl) rfl rfl (by kernel_rfl) (fun _ _ _ h => h) ?_; clear S a; intro a S
    refine d_pure (i := 6) #[true, true, true, true, true, true, true, false, false, false, false, false, false, false, false, false, false, false, false, false] S rfl (p_nilCheck rfl) (wanted_none rfl) rfl rfl (by kernel_rfl) (fun _ _ _ h => h) ?_; clear S a; intro a S
    refine d_pure (i := 7) #[true, true, true, true, true, true, true, true, false, false, false, false, false, false, false, false, false, false, false, false] S rfl (p_fieldAddr rfl (fun w => fa43_1 w _ _)) (wanted_none rfl) rfl rfl (by kernel_rfl) (fun _ _ _ h => h) ?_; clear S a; intro a S
    refine d_read (i := 8) #[true, true, true, true, true, true, true, true, true, false, false, false, false, false, false, false, false, false, false, false] S H rfl (r_load rfl List.mem_cons_self rfl (fun w hc => ld1 ag3 hc)) (wanted_none rfl) rfl rfl (by kernel_rfl) (fun _ _ _ h => h) ?_; clear S a; intro a S
    refine d_pure (i := 9) #[true, true, true, true, true, true, true, true, true, true, false, false, false, false, false, false, false, false, false, false] S rfl (p_slice rfl (o_some rfl) (fun _ _ => o_none) (fun _ _ => o_none) (fun w => sl_lo (m := 0) Tryz.underlying39 sz5 rfl (Nat.zero_le _))) (wanted_none rfl) rfl rfl (by kernel_rfl) (fun _ _ _ h => h) ?_; clear S a; intro a S
    rw [cutAt_off, show offAt 0 c 0 = 0 by unfold offAt; split <;> rfl, Nat.sub_zero, Nat.sub_zero] at S
    refine d_pure (i := 10) #[true, true, true, true, true, true, true, true, true, true, true, false, false, false, false, false, false, false, false, false] S rfl (p_move rfl) (wanted_none rfl) rfl rfl (by kernel_rfl) (fun _ _ _ h => h) ?_; clear S a; intro a S
    refine d_pure (i := 11) #[true, true, true, true, true, true, true, true, true, true, true, true, false, false, false, false, false, false, false, false] S rfl (p_nilCheck rfl) (wanted_none rfl) rfl rfl (by kernel_rfl) (fun _ _ _ h => h) ?_; clear S a; intro a S
    refine d_pure (i := 12) #[true, true, true, true, true, true, true, true, true, true, true, true, true, false, false, false, false, false, false, false] S rfl (p_fieldAddr rfl (fun w => fa43_1 w _ _)) (wanted_none rfl) rfl rfl (by kernel_rfl) (fun _ _ _ h => h) ?_; clear S a; intro a S
    refine d_read (i := 13) #[true, true, true, true, true, true, true, true, true, true, true, true, true, true, false, false, false, false, false, false] S H rfl (r_load rfl List.mem_cons_self rfl (fun w hc => ld1 ag3 hc)) (wanted_none rfl) rfl rfl (by kernel_rfl) (fun _ _ _ h => h) ?_; clear S a; intro a S
    refine d_pure (i := 14) #[true, true, true, true, true, true, true, true, true, true, true, true, true, true, true, false, false, false, false, false] S rfl (p_move rfl) (wanted_none rfl) rfl rfl (by kernel_rfl) (fun _ _ _ h => h) ?_; clear S a; intro a S
    refine d_pure (i := 15) #[true, true, true, true, true, true, true, true, true, true, true, true, true, true, true, true, false, false, false, false] S rfl (p_add (r := (n : Int)) rfl rfl (by rw [Int.zero_add]; exact IntWalk.i64_in _ (by omega))) (wanted_none rfl) rfl rfl (by kernel_rfl) (fun _ _ _ h => h) ?_; clear S a; intro a S
    have hcon := li.grow_row H (List.mem_cons_of_mem _ List.mem_cons_self) hc hlc hrow hn0 hlim (by omega)
    refine d_call_last (i := 16) #[true, true, true, true, true, true, true, true, true, true, true, true, true, true, true, true, true, false, false, false] S rfl rfl rfl Tryz.func152 rfl rfl hcon (wanted_none rfl) rfl rfl (by kernel_rfl) rfl ?_
    rintro e w ⟨gm, c2, cm, rfl, hH, hcm, hr2, hc2, hc3⟩
    refine ⟨_, rfl, ?_⟩; clear S a; intro a S; clear H hcon; have H := hH; clear hH
    refine d_pure (i := 17) #[true, true, true, true, true, true, true, true, true, true, true, true, true, true, true, true, true, true, false, false] S rfl (p_nilCheck rfl) (wanted_none rfl) rfl rfl (by kernel_rfl) (fun _ _ _ h => h) ?_; clear S a; intro a S
    refine d_pure (i := 18) #[true, true, true, true, true, true, true, true, true, true, true, true, true, true, true, true, true, true, true, false] S rfl (p_fieldAddr rfl (fun w => fa43_0 w _ _)) (wanted_none rfl) rfl rfl (by kernel_rfl) (fun _ _ _ h => h) ?_; clear S a; intro a S
    refine d_store (i := 19) #[true, true, true, true, true, true, true, true, true, true, true, true, true, true, true, true, true, true, true, true] S H rfl rfl rfl rfl (.there .here) (by first | decide | simp [Value.cells]) (fun w u hc hz => st1 sz39 rfl hc hz) (wanted_none rfl) rfl (by kernel_rfl) rfl ?_; clear S a H; intro w a H S
    refine d_done (by kernel_rfl) ?_
    refine e_then ?_
    refine wp_seq ?_
    refine c_region ?_
    refine l_pure S (p_move rfl) rfl rfl rfl ?_; clear S a; intro a S
    refine l_pure S (p_nilCheck rfl) rfl rfl rfl ?_; clear S a; intro a S
    refine l_pure S (p_fieldAddr rfl (fun w => fa43_1 w _ _)) rfl rfl rfl ?_; clear S a; intro a S
    refine l_store S H rfl rfl rfl (.there .here) (by first | decide | simp [Value.cells]) (fun w u hc hz => st1 sz3 rfl hc hz) rfl rfl ?_; clear S a H; intro w a H S
    refine l_nil ?_
    refine e_then ?_
    refine wp_seq ?_
    refine c_region ?_
    refine l_pure S (p_move rfl) rfl rfl rfl ?_; clear S a; intro a S
    refine l_pure S (p_move rfl) rfl rfl rfl ?_; clear S a; intro a S
    refine l_pure S (p_nilCheck rfl) rfl rfl rfl ?_; clear S a; intro a S
    refine l_pure S (p_fieldAddr rfl (fun w => fa43_0 w _ _)) rfl rfl rfl ?_; clear S a; intro a S
    refine l_read S H (r_load rfl (List.mem_cons_of_mem _ List.mem_cons_self) rfl (fun w hc => ld1 ag39 hc)) rfl rfl rfl ?_; clear S a; intro a S
    refine l_pure S (p_move rfl) rfl rfl rfl ?_; clear S a; intro a S
    refine l_pure S (p_move rfl) rfl rfl rfl ?_; clear S a; intro a S
    refine l_pure S (p_add rfl rfl (nat_add (x := l.length) (y := n) (by omega))) rfl rfl rfl ?_; clear S a; intro a S
    refine l_pure S (p_slice rfl (fun _ _ => o_none) (o_some rfl) (fun _ _ => o_none) (fun w => sl_hi (m := l.length + n) Tryz.underlying39 sz5 rfl (by omega))) rfl rfl rfl ?_; clear S a; intro a S
    refine l_pure S (p_nilCheck rfl) rfl rfl rfl ?_; clear S a; intro a S
    refine l_pure S (p_fieldAddr rfl (fun w => fa43_0 w _ _)) rfl rfl rfl ?_; clear S a; intro a S
    refine l_store S H rfl rfl rfl (.there .here) (by first | decide | simp [Value.cells]) (fun w u hc hz => st1 sz39 rfl hc hz) rfl rfl ?_; clear S a H; intro w a H S
    refine l_nil ?_
    refine e_then ?_
    refine wp_seq ?_
    refine c_region ?_
    refine l_pure S (p_move rfl) rfl rfl rfl ?_; clear S a; intro a S
    refine l_pure S (p_assign rfl) rfl rfl rfl ?_; clear S a; intro a S
    refine l_nil ?_
    refine e_then ?_
    refine wp_ret ?_
    exact r_ret1 S rfl rfl ⟨gm, c2, cm, rfl, H.pull1.drop3, hcm, by omega, by omega, hr2⟩
  · skip
    have c2 := bc2
    have c2 := ne_of_beq_false c2
    refine l_off S rfl rfl rfl rfl bc2 rfl rfl ?_; clear S a; intro a S
    refine l_off S rfl rfl rfl rfl bc2 rfl rfl ?_; clear S a; intro a S
    refine l_off S rfl rfl rfl rfl bc2 rfl rfl ?_; clear S a; intro a S
    refine l_off S rfl rfl rfl rfl bc2 rfl rfl ?_; clear S a; intro a S
    refine l_off S rfl rfl rfl rfl bc2 rfl rfl ?_; clear S a; intro a S
    refine l_pure S (p_pick_f rfl bc2 rfl) rfl rfl rfl ?_; clear S a; intro a S
    refine l_nil ?_
    refine e_then ?_
    refine c_cond (b := false) S rfl (fun h => by cases h) (fun _ => ?_)
    refine wp_skip ?_
    refine e_then ?_
    refine wp_seq ?_
    refine wp_seq ?_
    refine c_region ?_
    refine l_pure S (p_move rfl) rfl rfl rfl ?_; clear S a; intro a S
    refine l_pure S (p_move rfl) rfl rfl rfl ?_; clear S a; intro a S
    refine l_call S rfl rfl Tryz.func149 rfl rfl (tg_full wb _ B _ b gr n c l H hn0 hlc hno (by omega)) rfl rfl rfl ?_
    rintro e w ⟨rfl, hH⟩
    refine ⟨_, rfl, ?_⟩; clear S a; intro a S
    clear H; have H := hH; clear hH
    refine l_pure S (p_move rfl) rfl rfl rfl ?_; clear S a; intro a S
    refine l_pure S (p_extract rfl rfl) rfl rfl rfl ?_; clear S a; intro a S
    refine l_pure S (p_extract rfl rfl) rfl rfl rfl ?_; clear S a; intro a S
    refine l_pure S (p_assign rfl) rfl rfl rfl ?_; clear S a; intro a S
    refine l_pure S (p_assign rfl) rfl rfl rfl ?_; clear S a; intro a S
    refine l_nil ?_
    refine e_then ?_
    refine wp_seq ?_
    refine c_region ?_
    refine l_pure S (p_move rfl) rfl rfl rfl ?_; clear S a; intro a S
    refine l_nil ?_
    refine e_then ?_
    refine c_cond (b := false) S rfl (fun h => by cases h) (fun _ => ?_)
    refine wp_skip ?_
    refine e_then ?_
    refine wp_seq ?_
    refine wp_seq ?_
    refine c_region ?_
    refine l_pure S (p_move rfl) rfl rfl rfl ?_; clear S a; intro a S
    refine l_pure S (p_nilCheck rfl) rfl rfl rfl ?_; clear S a; intro a S
    refine l_pure S (p_fieldAddr rfl (fun w => fa43_0 w _ _)) rfl rfl rfl ?_; clear S a; intro a S
    refine l_read S H (r_load rfl List.mem_cons_self rfl (fun w hc => ld1 ag39 hc)) rfl rfl rfl ?_; clear S a; intro a S
    refine l_pure S (p_slnil Tryz.underlying39 rfl rfl) rfl rfl rfl ?_; clear S a; intro a S
    refine l_pure S (p_move rfl) rfl rfl rfl ?_; clear S a; intro a S
    refine l_off S rfl rfl rfl rfl rfl rfl rfl ?_; clear S a; intro a S
    refine l_off S rfl rfl rfl rfl rfl rfl rfl ?_; clear S a; intro a S
    refine l_pure S (p_pick_f rfl rfl rfl) rfl rfl rfl ?_; clear S a; intro a S
    refine l_nil ?_
    refine e_then ?_
    refine c_cond (b := false) S rfl (fun h => by cases h) (fun _ => ?_)
    refine wp_skip ?_
    refine e_then ?_
    refine wp_seq ?_
    refine c_region ?_
    refine l_pure S (p_move rfl) rfl rfl rfl ?_; clear S a; intro a S
    refine l_pure S (p_nilCheck rfl) rfl rfl rfl ?_; clear S a; intro a S
    refine l_pure S (p_fieldAddr rfl (fun w => fa43_0 w _ _)) rfl rfl rfl ?_; clear S a; intro a S
    refine l_read S H (r_load rfl List.mem_cons_self rfl (fun w hc => ld1 ag39 hc)) rfl rfl rfl ?_; clear S a; intro a S
    refine l_pure S (p_cap Tryz.underlying39 rfl) rfl rfl rfl ?_; clear S a; intro a S
    refine l_pure S (p_assign rfl) rfl rfl rfl ?_; clear S a; intro a S
    refine l_nil ?_
    refine e_then ?_
    refine wp_seq ?_
    refine wp_seq ?_
    refine c_region ?_
    refine l_pure S (p_move rfl) rfl rfl rfl ?_; clear S a; intro a S
    refine l_pure S (p_move rfl) rfl rfl rfl ?_; clear S a; intro a S
    refine l_pure S (p_quo (r := ((c / 2 : Nat) : Int)) rfl rfl (by decide) (by first | decide | exact nat_quo c 2 (by omega))) rfl rfl rfl ?_; clear S a; intro a S
    refine l_pure S (p_move rfl) rfl rfl rfl ?_; clear S a; intro a S
    refine l_pure S (p_sub (r := ((c / 2 : Nat) : Int) - (l.length : Int)) rfl rfl (IntWalk.i64_in _ (by omega))) rfl rfl rfl ?_; clear S a; intro a S
    refine l_pure S (p_leq rfl rfl) rfl rfl rfl ?_; clear S a; intro a S
    refine l_nil ?_
    refine e_then ?_
    refine c_cond S rfl (fun h => by rw [(decide_eq_false (by omega))] at h; cases h) (fun _ => ?_)
    refine wp_seq ?_
    refine c_region ?_
    refine l_pure S (p_move rfl) rfl rfl rfl ?_; clear S a; intro a S
    refine l_pure S (p_move rfl) rfl rfl rfl ?_; clear S a; intro a S
    refine l_pure S (p_sub (r := 9223372036854775807 - (c : Int)) rfl rfl (IntWalk.i64_in _ (by omega))) rfl rfl rfl ?_; clear S a; intro a S
    refine l_pure S (p_move rfl) rfl rfl rfl ?_; clear S a; intro a S
    refine l_pure S (p_sub (r := 9223372036854775807 - (c : Int) - (n : Int)) rfl rfl (IntWalk.i64_in _ (by omega))) rfl rfl rfl ?_; clear S a; intro a S
    refine l_pure S (p_gtr rfl rfl) rfl rfl rfl ?_; clear S a; intro a S
    refine l_nil ?_
    refine e_then ?_
    refine c_cond S rfl (fun h => by rw [(decide_eq_false (by omega))] at h; cases h) (fun _ => ?_)
    refine d_start (id := 15) [16, 19] 20 #[false, false, false, false, false, false, false, false, false, false, false, false, false, false, false, false, false, false, false, false] H rfl rfl rfl (fun w H => ?_)
    refine d_pure (i := 0) #[true, false, false, false, false, false, false, false, false, false, false, false, false, false, false, false, false, false, false, false] S rfl (p_move rfl) (wanted_none rfl) rfl rfl (by kernel_rfl) (fun _ _ _ h => h) ?_; clear S a; intro a S
    refine d_pure (i := 1) #[true, true, false, false, false, false, false, false, false, false, false, false, false, false, false, false, false, false, false, false] S rfl (p_move rfl) (wanted_none rfl) rfl rfl (by kernel_rfl) (fun _ _ _ h => h) ?_; clear S a; intro a S
    refine d_pure (i := 2) #[true, true, true, false, false, false, false, false, false, false, false, false, false, false, false, false, false, false, false, false] S rfl (p_nilCheck rfl) (wanted_none rfl) rfl rfl (by kernel_rfl) (fun _ _ _ h => h) ?_; clear S a; intro a S
    refine d_pure (i := 3) #[true, true, true, true, false, false, false, false, false, false, false, false, false, false, false, false, false, false, false, false] S rfl (p_fieldAddr rfl (fun w => fa43_0 w _ _)) (wanted_none rfl) rfl rfl (by kernel_rfl) (fun _ _ _ h => h) ?_; clear S a; intro a S
    refine d_read (i := 4) #[true, true, true, true, true, false, false, false, false, false, false, false, false, false, false, false, false, false, false, false] S H rfl (r_load rfl List.mem_cons_self rfl (fun w hc => ld1 ag39 hc)) (wanted_none rfl) rfl rfl (by kernel_rfl) (fun _ _ _ h => h) ?_; clear S a; intro a S
    refine d_pure (i := 5) #[true, true, true, true, true, true, false, false, false, false, false, false, false, false, false, false, false, false, false, false] S rfl (p_move rfl) (wanted_none rfl) rfl rfl (by kernel_rfl) (fun _ _ _ h => h) ?_; clear S a; intro a S
    refine d_pure (i := 6) #[true, true, true, true, true, true, true, false, false, false, false, false, false, false, false, false, false, false, false, false] S rfl (p_nilCheck rfl) (wanted_none rfl) rfl rfl (by kernel_rfl) (fun _ _ _ h => h) ?_; clear S a; intro a S
    refine d_pure (i := 7) #[true, true, true, true, true, true, true, true, false, false, false, false, false, false, false, false, false, false, false, false] S rfl (p_fieldAddr rfl (fun w => fa43_1 w _ _)) (wanted_none rfl) rfl rfl (by kernel_rfl) (fun _ _ _ h => h) ?_; clear S a; intro a S
    refine d_read (i := 8) #[true, true, true, true, true, true, true, true, true, false, false, false, false, false, false, false, false, false, false, false] S H rfl (r_load rfl List.mem_cons_self rfl (fun w hc => ld1 ag3 hc)) (wanted_none rfl) rfl rfl (by kernel_rfl) (fun _ _ _ h => h) ?_; clear S a; intro a S
    refine d_pure (i := 9) #[true, true, true, true, true, true, true, true, true, true, false, false, false, false, false, false, false, false, false, false] S rfl (p_slice rfl (o_some rfl) (fun _ _ => o_none) (fun _ _ => o_none) (fun w => sl_lo (m := 0) Tryz.underlying39 sz5 rfl (Nat.zero_le _))) (wanted_none rfl) rfl rfl (by kernel_rfl) (fun _ _ _ h => h) ?_; clear S a; intro a S
    rw [cutAt_off, show offAt 0 c 0 = 0 by unfold offAt; split <;> rfl, Nat.sub_zero, Nat.sub_zero] at S
    refine d_pure (i := 10) #[true, true, true, true, true, true, true, true, true, true, true, false, false, false, false, false, false, false, false, false] S rfl (p_move rfl) (wanted_none rfl) rfl rfl (by kernel_rfl) (fun _ _ _ h => h) ?_; clear S a; intro a S
    refine d_pure (i := 11) #[true, true, true, true, true, true, true, true, true, true, true, true, false, false, false, false, false, false, false, false] S rfl (p_nilCheck rfl) (wanted_none rfl) rfl rfl (by kernel_rfl) (fun _ _ _ h => h) ?_; clear S a; intro a S
    refine d_pure (i := 12) #[true, true, true, true, true, true, true, true, true, true, true, true, true, false, false, false, false, false, false, false] S rfl (p_fieldAddr rfl (fun w => fa43_1 w _ _)) (wanted_none rfl) rfl rfl (by kernel_rfl) (fun _ _ _ h => h) ?_; clear S a; intro a S
    refine d_read (i := 13) #[true, true, true, true, true, true, true, true, true, true, true, true, true, true, false, false, false, false, false, false] S H rfl (r_load rfl List.mem_cons_self rfl (fun w hc => ld1 ag3 hc)) (wanted_none rfl) rfl rfl (by kernel_rfl) (fun _ _ _ h => h) ?_; clear S a; intro a S
    refine d_pure (i := 14) #[true, true, true, true, true, true, true, true, true, true, true, true, true, true, true, false, false, false, false, false] S rfl (p_move rfl) (wanted_none rfl) rfl rfl (by kernel_rfl) (fun _ _ _ h => h) ?_; clear S a; intro a S
    refine d_pure (i := 15) #[true, true, true, true, true, true, true, true, true, true, true, true, true, true, true, true, false, false, false, false] S rfl (p_add (r := (n : Int)) rfl rfl (by rw [Int.zero_add]; exact IntWalk.i64_in _ (by omega))) (wanted_none rfl) rfl rfl (by kernel_rfl) (fun _ _ _ h => h) ?_; clear S a; intro a S
    have hcon := li.grow_row H (List.mem_cons_of_mem _ List.mem_cons_self) hc hlc hrow hn0 hlim (by omega)
    refine d_call_last (i := 16) #[true, true, true, true, true, true, true, true, true, true, true, true, true, true, true, true, true, false, false, false] S rfl rfl rfl Tryz.func152 rfl rfl hcon (wanted_none rfl) rfl rfl (by kernel_rfl) rfl ?_
    rintro e w ⟨gm, c2, cm, rfl, hH, hcm, hr2, hc2, hc3⟩
    refine ⟨_, rfl, ?_⟩; clear S a; intro a S; clear H hcon; have H := hH; clear hH
    refine d_pure (i := 17) #[true, true, true, true, true, true, true, true, true, true, true, true, true, true, true, true, true, true, false, false] S rfl (p_nilCheck rfl) (wanted_none rfl) rfl rfl (by kernel_rfl) (fun _ _ _ h => h) ?_; clear S a; intro a S
    refine d_pure (i := 18) #[true, true, true, true, true, true, true, true, true, true, true, true, true, true, true, true, true, true, true, false] S rfl (p_fieldAddr rfl (fun w => fa43_0 w _ _)) (wanted_none rfl) rfl rfl (by kernel_rfl) (fun _ _ _ h => h) ?_; clear S a; intro a S
    refine d_store (i := 19) #[true, true, true, true, true, true, true, true, true, true, true, true, true, true, true, true, true, true, true, true] S H rfl rfl rfl rfl (.there .here) (by first | decide | simp [Value.cells]) (fun w u hc hz => st1 sz39 rfl hc hz) (wanted_none rfl) rfl (by kernel_rfl) rfl ?_; clear S a H; intro w a H S
    refine d_done (by kernel_rfl) ?_
    refine e_then ?_
    refine wp_seq ?_
    refine c_region ?_
    refine l_pure S (p_move rfl) rfl rfl rfl ?_; clear S a; intro a S
    refine l_pure S (p_nilCheck rfl) rfl rfl rfl ?_; clear S a; intro a S
    refine l_pure S (p_fieldAddr rfl (fun w => fa43_1 w _ _)) rfl rfl rfl ?_; clear S a; intro a S
    refine l_store S H rfl rfl rfl (.there .here) (by first | decide | simp [Value.cells]) (fun w u hc hz => st1 sz3 rfl hc hz) rfl rfl ?_; clear S a H; intro w a H S
    refine l_nil ?_
    refine e_then ?_
    refine wp_seq ?_
    refine c_region ?_
    refine l_pure S (p_move rfl) rfl rfl rfl ?_; clear S a; intro a S
    refine l_pure S (p_move rfl) rfl rfl rfl ?_; clear S a; intro a S
    refine l_pure S (p_nilCheck rfl) rfl rfl rfl ?_; clear S a; intro a S
    refine l_pure S (p_fieldAddr rfl (fun w => fa43_0 w _ _)) rfl rfl rfl ?_; clear S a; intro a S
    refine l_read S H (r_load rfl (List.mem_cons_of_mem _ List.mem_cons_self) rfl (fun w hc => ld1 ag39 hc)) rfl rfl rfl ?_; clear S a; intro a S
    refine l_pure S (p_move rfl) rfl rfl rfl ?_; clear S a; intro a S
    refine l_pure S (p_move rfl) rfl rfl rfl ?_; clear S a; intro a S
    refine l_pure S (p_add rfl rfl (nat_add (x := l.length) (y := n) (by omega))) rfl rfl rfl ?_; clear S a; intro a S
    refine l_pure S (p_slice rfl (fun _ _ => o_none) (o_some rfl) (fun _ _ => o_none) (fun w => sl_hi (m := l.length + n) Tryz.underlying39 sz5 rfl (by omega))) rfl rfl rfl ?_; clear S a; intro a S
    refine l_pure S (p_nilCheck rfl) rfl rfl rfl ?_; clear S a; intro a S
    refine l_pure S (p_fieldAddr rfl (fun w => fa43_0 w _ _)) rfl rfl rfl ?_; clear S a; intro a S
    refine l_store S H rfl rfl rfl (.there .here) (by first | decide | simp [Value.cells]) (fun w u hc hz => st1 sz39 rfl hc hz) rfl rfl ?_; clear S a H; intro w a H S
    refine l_nil ?_
    refine e_then ?_
    refine wp_seq ?_
    refine c_region ?_
    refine l_pure S (p_move rfl) rfl rfl rfl ?_; clear S a; intro a S
    refine l_pure S (p_assign rfl) rfl rfl rfl ?_; clear S a; intro a S
    refine l_nil ?_
    refine e_then ?_
    refine wp_ret ?_
    exact r_ret1 S rfl rfl ⟨gm, c2, cm, rfl, H.pull1.drop3, hcm, by omega, by omega, hr2⟩
set_option maxHeartbeats 1000000 in
theorem write_nil (wb w0 : World) (B : Nat) (L0 : dc.Bk) (b : Nat) (gs os cp : Nat) (css : Array Value) (fs : Nat × Nat) (r : List Int) (hm : (gs, Obj.cells css 5 fs) ∈ L0) (hsr : bf.Row css os r) (hn0 : 0 < r.length) (H : HH B wb w0 ((b, .cells #[(.slice none 0 0), .int .i64 0, .int .i8 0] 43 (0, 0)) :: L0)) (hlim : 0 + r.length ≤ 140737488355328) : Calls Tryz.prog 148 #[.pointer (some ⟨b, 0, none⟩), .slice (some ⟨gs, os, none⟩) r.length cp] w0 fun e w' => e = .returned (.tuple #[.int .i64 (r.length : Int), .nilIface]) ∧ ∃ (g' c' : Nat) (cs' : Array Value), HH B wb w' ((b, .cells #[(.slice (some ⟨g', 0, none⟩) ([] ++ r).length c'), .int .i64 0, .int .i8 0] 43 (0, 0)) :: (g', .cells cs' 5 (0, 0)) :: L0) ∧ cs'.size = c' ∧ ([] ++ r).length ≤ c' ∧ c' ≤ 9223372036854775807 ∧ bf.Row cs' 0 ([] ++ r) := by
  refine c_enter (args := [.pointer (some ⟨b, 0, none⟩), .slice (some ⟨gs, os, none⟩) r.length cp]) (k := 30) Tryz.func148 rfl rfl rfl (fun a S => ?_)
  refine wp_seq ?_
  refine c_region ?_
  refine l_pure S (p_assign rfl) rfl rfl rfl ?_; clear S a; intro a S
  refine l_pure S (p_assign rfl) rfl rfl rfl ?_; clear S a; intro a S
  refine l_nil ?_
  refine e_then ?_
  refine wp_seq ?_
  refine c_region ?_
  refine l_pure S (p_move rfl) rfl rfl rfl ?_; clear S a; intro a S
  refine l_pure S (p_nilCheck rfl) rfl rfl rfl ?_; clear S a; intro a S
  refine l_pure S (p_fieldAddr rfl (fun w => fa43_2 w _ _)) rfl rfl rfl ?_; clear S a; intro a S
  refine l_store S H rfl rfl rfl .here (by first | decide | simp [Value.cells]) (fun w u hc hz => st1 sz41 rfl hc hz) rfl rfl ?_; clear S a H; intro w a H S
  refine l_nil ?_
  refine e_then ?_
  refine wp_seq ?_
  refine c_region ?_
  refine l_pure S (p_move rfl) rfl rfl rfl ?_; clear S a; intro a S
  refine l_pure S (p_move rfl) rfl rfl rfl ?_; clear S a; intro a S
  refine l_pure S (p_len Tryz.underlying39 rfl) rfl rfl rfl ?_; clear S a; intro a S
  refine l_call S rfl rfl Tryz.func149 rfl rfl (tg_nil wb _ B _ b r.length H hn0) rfl rfl rfl ?_
  rintro e w ⟨rfl, hH⟩
  refine ⟨_, rfl, ?_⟩; clear S a; intro a S
  clear H; have H := hH; clear hH
  refine l_pure S (p_move rfl) rfl rfl rfl ?_; clear S a; intro a S
  refine l_pure S (p_extract rfl rfl) rfl rfl rfl ?_; clear S a; intro a S
  refine l_pure S (p_extract rfl rfl) rfl rfl rfl ?_; clear S a; intro a S
  refine l_pure S (p_assign rfl) rfl rfl rfl ?_; clear S a; intro a S
  refine l_pure S (p_assign rfl) rfl rfl rfl ?_; clear S a; intro a S
  refine l_nil ?_
  refine e_then ?_
  refine wp_seq ?_
  refine wp_seq ?_
  refine c_region ?_
  refine l_pure S (p_move rfl) rfl rfl rfl ?_; clear S a; intro a S
  refine l_pure S (p_not rfl) rfl rfl rfl ?_; clear S a; intro a S
  refine l_nil ?_
  refine e_then ?_
  refine c_cond (b := true) S rfl (fun _ => ?_) (fun h => by cases h)
  refine c_region ?_
  refine l_pure S (p_move rfl) rfl rfl rfl ?_; clear S a; intro a S
  refine l_pure S (p_move rfl) rfl rfl rfl ?_; clear S a; intro a S
  refine l_pure S (p_len Tryz.underlying39 rfl) rfl rfl rfl ?_; clear S a; intro a S
  refine l_call S rfl rfl Tryz.func150 rfl rfl (grow_nil wb _ B _ b r.length H hn0 (by omega)) rfl rfl rfl ?_
  rintro e w ⟨gm, c2, cm, rfl, hH, hcm, hc2, hc3, hr2⟩
  refine ⟨_, rfl, ?_⟩; clear S a; intro a S
  clear H; have H := hH; clear hH
  refine l_pure S (p_assign rfl) rfl rfl rfl ?_; clear S a; intro a S
  refine l_nil ?_
  refine e_then ?_
  refine wp_seq ?_
  refine c_region ?_
  refine l_pure S (p_move rfl) rfl rfl rfl ?_; clear S a; intro a S
  refine l_pure S (p_nilCheck rfl) rfl rfl rfl ?_; clear S a; intro a S
  refine l_pure S (p_fieldAddr rfl (fun w => fa43_0 w _ _)) rfl rfl rfl ?_; clear S a; intro a S
  refine l_read S H (r_load rfl List.mem_cons_self rfl (fun w hc => ld1 ag39 hc)) rfl rfl rfl ?_; clear S a; intro a S
  refine l_pure S (p_move rfl) rfl rfl rfl ?_; clear S a; intro a S
  refine l_pure S (p_slice rfl (o_some rfl) (fun _ _ => o_none) (fun _ _ => o_none) (fun w => sl_lo (m := 0) Tryz.underlying39 sz5 rfl (by omega))) rfl rfl rfl ?_; clear S a; intro a S
  rw [cutAt_off, show offAt 0 c2 0 = 0 by unfold offAt; rw [if_neg (by omega), Nat.zero_add], Nat.sub_zero] at S
  refine l_pure S (p_move rfl) rfl rfl rfl ?_; clear S a; intro a S
  refine l_copy (k := r.length) S H rfl rfl rfl Tryz.underlying39 sz5 (rp.row_first H (List.mem_cons_of_mem _ (List.mem_cons_of_mem _ hm)) hsr) (by omega) (Nat.min_self _) (.there .here) rfl rfl rfl ?_; clear S a H; intro w a H S
  rw [List.take_of_length_le (by rw [List.length_map]; exact Nat.le_refl _)] at H
  refine l_pure S (p_assign rfl) rfl rfl rfl ?_; clear S a; intro a S
  refine l_pure S (p_assign rfl) rfl rfl rfl ?_; clear S a; intro a S
  refine l_nil ?_
  refine e_then ?_
  refine wp_ret ?_
  exact r_ret2 S rfl rfl rfl ⟨rfl, gm, c2, _, H, by rw [spl_size]; omega, by simp only [List.nil_append]; omega, by omega, by have := rp.row_add hr2 (t := r) (by simp only [List.length_nil]; omega); exact this⟩
set_option maxHeartbeats 1000000 in
theorem write_room (wb w0 : World) (B : Nat) (L0 : dc.Bk) (b gr c : Nat) (cs : Array Value) (l : List Int) (gs os cp : Nat) (css : Array Value) (fs : Nat × Nat) (r : List Int) (hm : (gs, Obj.cells css 5 fs) ∈ L0) (hsr : bf.Row css os r) (hn0 : 0 < r.length) (H : HH B wb w0 ((b, .cells #[(.slice (some ⟨gr, 0, none⟩) l.length c), .int .i64 0, .int .i8 0] 43 (0, 0)) :: (gr, .cells cs 5 (0, 0)) :: L0)) (hc : cs.size = c) (hlc : l.length ≤ c) (hrow : bf.Row cs 0 l) (hcb : c ≤ 9223372036854775807) (hno : r.length ≤ c - l.length) (hlim : l.length + r.length ≤ 140737488355328) : Calls Tryz.prog 148 #[.pointer (some ⟨b, 0, none⟩), .slice (some ⟨gs, os, none⟩) r.length cp] w0 fun e w' => e = .returned (.tuple #[.int .i64 (r.length : Int), .nilIface]) ∧ ∃ (g' c' : Nat) (cs' : Array Value), HH B wb w' ((b, .cells #[(.slice (some ⟨g', 0, none⟩) (l ++ r).length c'), .int .i64 0, .int .i8 0] 43 (0, 0)) :: (g', .cells cs' 5 (0, 0)) :: L0) ∧ cs'.size = c' ∧ (l ++ r).length ≤ c' ∧ c' ≤ 9223372036854775807 ∧ bf.Row cs' 0 (l ++ r) := by
  refine c_enter (args := [.pointer (some ⟨b, 0, none⟩), .slice (some ⟨gs, os, none⟩) r.length cp]) (k := 30) Tryz.func148 rfl rfl rfl (fun a S => ?_)
  refine wp_seq ?_
  refine c_region ?_
  refine l_pure S (p_assign rfl) rfl rfl rfl ?_; clear S a; intro a S
  refine l_pure S (p_assign rfl) rfl rfl rfl ?_; clear S a; intro a S
  refine l_nil ?_
  refine e_then ?_
  refine wp_seq ?_
  refine c_region ?_
  refine l_pure S (p_move rfl) rfl rfl rfl ?_; clear S a; intro a S
  refine l_pure S (p_nilCheck rfl) rfl rfl rfl ?_; clear S a; intro a S
  refine l_pure S (p_fieldAddr rfl (fun w => fa43_2 w _ _)) rfl rfl rfl ?_; clear S a; intro a S
  refine l_store S H rfl rfl rfl .here (by first | decide | simp [Value.cells]) (fun w u hc hz => st1 sz41 rfl hc hz) rfl rfl ?_; clear S a H; intro w a H S
  refine l_nil ?_
  refine e_then ?_
  refine wp_seq ?_
  refine c_region ?_
  refine l_pure S (p_move rfl) rfl rfl rfl ?_; clear S a; intro a S
  refine l_pure S (p_move rfl) rfl rfl rfl ?_; clear S a; intro a S
  refine l_pure S (p_len Tryz.underlying39 rfl) rfl rfl rfl ?_; clear S a; intro a S
  refine l_call S rfl rfl Tryz.func149 rfl rfl (tg_room wb _ B _ b gr r.length c l H hn0 hlc hno hcb) rfl rfl rfl ?_
  rintro e w ⟨rfl, hH⟩
  refine ⟨_, rfl, ?_⟩; clear S a; intro a S
  clear H; have H := hH; clear hH
  refine l_pure S (p_move rfl) rfl rfl rfl ?_; clear S a; intro a S
  refine l_pure S (p_extract rfl rfl) rfl rfl rfl ?_; clear S a; intro a S
  refine l_pure S (p_extract rfl rfl) rfl rfl rfl ?_; clear S a; intro a S
  refine l_pure S (p_assign rfl) rfl rfl rfl ?_; clear S a; intro a S
  refine l_pure S (p_assign rfl) rfl rfl rfl ?_; clear S a; intro a S
  refine l_nil ?_
  refine e_then ?_
  refine wp_seq ?_
  refine wp_seq ?_
  refine c_region ?_
  refine l_pure S (p_move rfl) rfl rfl rfl ?_; clear S a; intro a S
  refine l_pure S (p_not rfl) rfl rfl rfl ?_; clear S a; intro a S
  refine l_nil ?_
  refine e_then ?_
  refine c_cond (b := false) S rfl (fun h => by cases h) (fun _ => ?_)
  refine wp_skip ?_
  refine e_then ?_
  refine wp_seq ?_
  refine c_region ?_
  refine l_pure S (p_move rfl) rfl rfl rfl ?_; clear S a; intro a S
  refine l_pure S (p_nilCheck rfl) rfl rfl rfl ?_; clear S a; intro a S
  refine l_pure S (p_fieldAddr rfl (fun w => fa43_0 w _ _)) rfl rfl rfl ?_; clear S a; intro a S
  refine l_read S H (r_load rfl List.mem_cons_self rfl (fun w hc => ld1 ag39 hc)) rfl rfl rfl ?_; clear S a; intro a S
  refine l_pure S (p_move rfl) rfl rfl rfl ?_; clear S a; intro a S
  refine l_pure S (p_slice rfl (o_some rfl) (fun _ _ => o_none) (fun _ _ => o_none) (fun w => sl_lo (m := l.length) Tryz.underlying39 sz5 rfl (by omega))) rfl rfl rfl ?_; clear S a; intro a S
  rw [cutAt_off, show offAt 0 c l.length = l.length by unfold offAt; rw [if_neg (by omega), Nat.zero_add], show l.length + r.length - l.length = r.length by omega] at S
  refine l_pure S (p_move rfl) rfl rfl rfl ?_; clear S a; intro a S
  refine l_copy (k := r.length) S H rfl rfl rfl Tryz.underlying39 sz5 (rp.row_first H (List.mem_cons_of_mem _ (List.mem_cons_of_mem _ hm)) hsr) (by omega) (Nat.min_self _) (.there .here) rfl rfl rfl ?_; clear S a H; intro w a H S
  rw [List.take_of_length_le (by rw [List.length_map]; exact Nat.le_refl _)] at H
  refine l_pure S (p_assign rfl) rfl rfl rfl ?_; clear S a; intro a S
  refine l_pure S (p_assign rfl) rfl rfl rfl ?_; clear S a; intro a S
  refine l_nil ?_
  refine e_then ?_
  refine wp_ret ?_
  rw [← List.length_append] at H
  exact r_ret2 S rfl rfl rfl ⟨rfl, gr, c, _, H, by rw [spl_size]; omega, by rw [List.length_append]; omega, by omega, rp.row_add hrow (by omega)⟩
set_option maxHeartbeats 1000000 in
theorem write_full (wb w0 : World) (B : Nat) (L0 : dc.Bk) (b gr c : Nat) (cs : Array Value) (l : List Int) (gs os cp : Nat) (css : Array Value) (fs : Nat × Nat) (r : List Int) (hm : (gs, Obj.cells css 5 fs) ∈ L0) (hsr : bf.Row css os r) (hn0 : 0 < r.length) (H : HH B wb w0 ((b, .cells #[(.slice (some ⟨gr, 0, none⟩) l.length c), .int .i64 0, .int .i8 0] 43 (0, 0)) :: (gr, .cells cs 5 (0, 0)) :: L0)) (hc : cs.size = c) (hlc : l.length ≤ c) (hrow : bf.Row cs 0 l) (hcb : c ≤ 9223372036854775807) (hno : c - l.length < r.length) (hlim : l.length + r.length ≤ 140737488355328) : Calls Tryz.prog 148 #[.pointer (some ⟨b, 0, none⟩), .slice (some ⟨gs, os, none⟩) r.length cp] w0 fun e w' => e = .returned (.tuple #[.int .i64 (r.length : Int), .nilIface]) ∧ ∃ (g' c' : Nat) (cs' : Array Value), HH B wb w' ((b, .cells #[(.slice (some ⟨g', 0, none⟩) (l ++ r).length c'), .int .i64 0, .int .i8 0] 43 (0, 0)) :: (g', .cells cs' 5 (0, 0)) :: L0) ∧ cs'.size = c' ∧ (l ++ r).length ≤ c' ∧ c' ≤ 9223372036854775807 ∧ bf.Row cs' 0 (l ++ r) := by
  refine c_enter (args := [.pointer (some ⟨b, 0, none⟩), .slice (some ⟨gs, os, none⟩) r.length cp]) (k := 30) Tryz.func148 rfl rfl rfl (fun a S => ?_)
  refine wp_seq ?_
  refine c_region ?_
  refine l_pure S (p_assign rfl) rfl rfl rfl ?_; clear S a; intro a S
  refine l_pure S (p_assign rfl) rfl rfl rfl ?_; clear S a; intro a S
  refine l_nil ?_
  refine e_then ?_
  refine wp_seq ?_
  refine c_region ?_
  refine l_pure S (p_move rfl) rfl rfl rfl ?_; clear S a; intro a S
  refine l_pure S (p_nilCheck rfl) rfl rfl rfl ?_; clear S a; intro a S
  refine l_pure S (p_fieldAddr rfl (fun w => fa43_2 w _ _)) rfl rfl rfl ?_; clear S a; intro a S
  refine l_store S H rfl rfl rfl .here (by first | decide | simp [Value.cells]) (fun w u hc hz => st1 sz41 rfl hc hz) rfl rfl ?_; clear S a H; intro w a H S
  refine l_nil ?_
  refine e_then ?_
  refine wp_seq ?_
  refine c_region ?_
  refine l_pure S (p_move rfl) rfl rfl rfl ?_; clear S a; intro a S
  refine l_pure S (p_move rfl) rfl rfl rfl ?_; clear S a; intro a S
  refine l_pure S (p_len Tryz.underlying39 rfl) rfl rfl rfl ?_; clear S a; intro a S
  refine l_call S rfl rfl Tryz.func149 rfl rfl (tg_full wb _ B _ b gr r.length c l H hn0 hlc hno hcb) rfl rfl rfl ?_
  rintro e w ⟨rfl, hH⟩
  refine ⟨_, rfl, ?_⟩; clear S a; intro a S
  clear H; have H := hH; clear hH
  refine l_pure S (p_move rfl) rfl rfl rfl ?_; clear S a; intro a S
  refine l_pure S (p_extract rfl rfl) rfl rfl rfl ?_; clear S a; intro a S
  refine l_pure S (p_extract rfl rfl) rfl rfl rfl ?_; clear S a; intro a S
  refine l_pure S (p_assign rfl) rfl rfl rfl ?_; clear S a; intro a S
  refine l_pure S (p_assign rfl) rfl rfl rfl ?_; clear S a; intro a S
  refine l_nil ?_
  refine e_then ?_
  refine wp_seq ?_
  refine wp_seq ?_
  refine c_region ?_
  refine l_pure S (p_move rfl) rfl rfl rfl ?_; clear S a; intro a S
  refine l_pure S (p_not rfl) rfl rfl rfl ?_; clear S a; intro a S
  refine l_nil ?_
  refine e_then ?_
  refine c_cond (b := true) S rfl (fun _ => ?_) (fun h => by cases h)
  refine c_region ?_
  refine l_pure S (p_move rfl) rfl rfl rfl ?_; clear S a; intro a S
  refine l_pure S (p_move rfl) rfl rfl rfl ?_; clear S a; intro a S
  refine l_pure S (p_len Tryz.underlying39 rfl) rfl rfl rfl ?_; clear S a; intro a S
  refine l_call S rfl rfl Tryz.func150 rfl rfl (grow_row wb _ B _ b gr r.length c cs l H hn0 hc hlc hrow hno (by omega)) rfl rfl rfl ?_
  rintro e w ⟨gm, c2, cm, rfl, hH, hcm, hc2, hc3, hr2⟩
  refine ⟨_, rfl, ?_⟩; clear S a; intro a S
  clear H; have H := hH; clear hH
  refine l_pure S (p_assign rfl) rfl rfl rfl ?_; clear S a; intro a S
  refine l_nil ?_
  refine e_then ?_
  refine wp_seq ?_
  refine c_region ?_
  refine l_pure S (p_move rfl) rfl rfl rfl ?_; clear S a; intro a S
  refine l_pure S (p_nilCheck rfl) rfl rfl rfl ?_; clear S a; intro a S
  refine l_pure S (p_fieldAddr rfl (fun w => fa43_0 w _ _)) rfl rfl rfl ?_; clear S a; intro a S
  refine l_read S H (r_load rfl List.mem_cons_self rfl (fun w hc => ld1 ag39 hc)) rfl rfl rfl ?_; clear S a; intro a S
  refine l_pure S (p_move rfl) rfl rfl rfl ?_; clear S a; intro a S
  refine l_pure S (p_slice rfl (o_some rfl) (fun _ _ => o_none) (fun _ _ => o_none) (fun w => sl_lo (m := l.length) Tryz.underlying39 sz5 rfl (by omega))) rfl rfl rfl ?_; clear S a; intro a S
  rw [cutAt_off, show offAt 0 c2 l.length = l.length by unfold offAt; rw [if_neg (by omega), Nat.zero_add], show l.length + r.length - l.length = r.length by omega] at S
  refine l_pure S (p_move rfl) rfl rfl rfl ?_; clear S a; intro a S
  refine l_copy (k := r.length) S H rfl rfl rfl Tryz.underlying39 sz5 (rp.row_first H (List.mem_cons_of_mem _ (List.mem_cons_of_mem _ hm)) hsr) (by omega) (Nat.min_self _) (.there .here) rfl rfl rfl ?_; clear S a H; intro w a H S
  rw [List.take_of_length_le (by rw [List.length_map]; exact Nat.le_refl _)] at H
  refine l_pure S (p_assign rfl) rfl rfl rfl ?_; clear S a; intro a S
  refine l_pure S (p_assign rfl) rfl rfl rfl ?_; clear S a; intro a S
  refine l_nil ?_
  refine e_then ?_
  refine wp_ret ?_
  rw [← List.length_append] at H
  exact r_ret2 S rfl rfl rfl ⟨rfl, gm, c2, _, H, by rw [spl_size]; omega, by rw [List.length_append]; omega, by omega, rp.row_add hr2 (by omega)⟩
/-- What a buffer holds. -/
def BufZ (b : Nat) (l : List Int) (ls : dc.Bk) : Prop := (l = [] ∧ ls = [(b, .cells #[(.slice none 0 0), .int .i64 0, .int .i8 0] 43 (0, 0))]) ∨ ∃ (gr c : Nat) (cs : Array Value), ls = [(b, .cells #[(.slice (some ⟨gr, 0, none⟩) l.length c), .int .i64 0, .int .i8 0] 43 (0, 0)), (gr, .cells cs 5 (0, 0))] ∧ cs.size = c ∧ l.length ≤ c ∧ c ≤ 9223372036854775807 ∧ bf.Row cs 0 l
theorem write_ (wb w0 : World) (B : Nat) (L0 : dc.Bk) (b : Nat) (l : List Int) (ls : dc.Bk) (hz : BufZ b l ls) (gs os cp : Nat) (css : Array Value) (fs : Nat × Nat) (r : List Int) (hm : (gs, Obj.cells css 5 fs) ∈ L0) (hsr : bf.Row css os r) (hn0 : 0 < r.length) (H : HH B wb w0 (ls ++ L0)) (hlim : l.length + r.length ≤ 140737488355328) : Calls Tryz.prog 148 #[.pointer (some ⟨b, 0, none⟩), .slice (some ⟨gs, os, none⟩) r.length cp] w0 fun e w' => e = .returned (.tuple #[.int .i64 (r.length : Int), .nilIface]) ∧ ∃ ls', BufZ b (l ++ r) ls' ∧ HH B wb w' (ls' ++ L0) := by
  rcases hz with ⟨rfl, rfl⟩ | ⟨gr, c, cs, rfl, hc, hlc, hcb, hrow⟩
  · refine (write_nil wb w0 B L0 b gs os cp css fs r hm hsr hn0 H (by simpa using hlim)).mono ?_
    rintro e w' ⟨rfl, g', c', cs', hH, h1, h2, h3, h4⟩
    exact ⟨rfl, _, .inr ⟨g', c', cs', rfl, h1, h2, h3, h4⟩, hH⟩
  · rcases Nat.lt_or_ge (c - l.length) r.length with hno | hno
    · refine (write_full wb w0 B L0 b gr c cs l gs os cp css fs r hm hsr hn0 H hc hlc hrow hcb hno hlim).mono ?_
      rintro e w' ⟨rfl, g', c', cs', hH, h1, h2, h3, h4⟩
      exact ⟨rfl, _, .inr ⟨g', c', cs', rfl, h1, h2, h3, h4⟩, hH⟩
    · refine (write_room wb w0 B L0 b gr c cs l gs os cp css fs r hm hsr hn0 H hc hlc hrow hcb hno hlim).mono ?_
      rintro e w' ⟨rfl, g', c', cs', hH, h1, h2, h3, h4⟩
      exact ⟨rfl, _, .inr ⟨g', c', cs', rfl, h1, h2, h3, h4⟩, hH⟩
theorem str_row (wb w0 : World) (B : Nat) (L0 : dc.Bk) (b gr c : Nat) (cs : Array Value) (l : List Int) (H : HH B wb w0 ((b, .cells #[(.slice (some ⟨gr, 0, none⟩) l.length c), .int .i64 0, .int .i8 0] 43 (0, 0)) :: (gr, .cells cs 5 (0, 0)) :: L0)) (hlc : l.length ≤ c) (hrow : bf.Row cs 0 l) (hll : l.length ≤ 9223372036854775807) : Calls Tryz.prog 18 #[.pointer (some ⟨b, 0, none⟩)] w0 fun e w' => e = .returned (.string (strOfNums l)) ∧ HH B wb w' ((b, .cells #[(.slice (some ⟨gr, 0, none⟩) l.length c), .int .i64 0, .int .i8 0] 43 (0, 0)) :: (gr, .cells cs 5 (0, 0)) :: L0) := by
  refine c_enter (args := [.pointer (some ⟨b, 0, none⟩)]) (k := 14) Tryz.func18 rfl rfl rfl (fun a S => ?_)
  refine wp_seq ?_
  refine c_region ?_
  refine l_pure S (p_assign rfl) rfl rfl rfl ?_; clear S a; intro a S
  refine l_nil ?_
  refine e_then ?_
  refine wp_seq ?_
  refine wp_seq ?_
  refine c_region ?_
  refine l_pure S (p_move rfl) rfl rfl rfl ?_; clear S a; intro a S
  refine l_pure S (p_ptrnil Tryz.underlying47 rfl rfl) rfl rfl rfl ?_; clear S a; intro a S
  refine l_nil ?_
  refine e_then ?_
  refine c_cond (b := false) S rfl (fun h => by cases h) (fun _ => ?_)
  refine wp_skip ?_
  refine e_then ?_
  refine wp_seq ?_
  refine d_start (id := 3) [] 11 #[false, false, false, false, false, false, false, false, false, false, false] H rfl rfl rfl (fun w H => ?_)
  refine d_pure (i := 0) #[true, false, false, false, false, false, false, false, false, false, false] S rfl (p_move rfl) (wanted_none rfl) rfl rfl (by kernel_rfl) (fun _ _ _ h => h) ?_; clear S a; intro a S
  refine d_pure (i := 1) #[true, true, false, false, false, false, false, false, false, false, false] S rfl (p_nilCheck rfl) (wanted_none rfl) rfl rfl (by kernel_rfl) (fun _ _ _ h => h) ?_; clear S a; intro a S
  refine d_pure (i := 2) #[true, true, true, false, false, false, false, false, false, false, false] S rfl (p_fieldAddr rfl (fun w => fa43_0 w _ _)) (wanted_none rfl) rfl rfl (by kernel_rfl) (fun _ _ _ h => h) ?_; clear S a; intro a S
  refine d_read (i := 3) #[true, true, true, true, false, false, false, false, false, false, false] S H rfl (r_load rfl List.mem_cons_self rfl (fun w hc => ld1 ag39 hc)) (wanted_none rfl) rfl rfl (by kernel_rfl) (fun _ _ _ h => h) ?_; clear S a; intro a S
  refine d_pure (i := 4) #[true, true, true, true, true, false, false, false, false, false, false] S rfl (p_move rfl) (wanted_none rfl) rfl rfl (by kernel_rfl) (fun _ _ _ h => h) ?_; clear S a; intro a S
  refine d_pure (i := 5) #[true, true, true, true, true, true, false, false, false, false, false] S rfl (p_nilCheck rfl) (wanted_none rfl) rfl rfl (by kernel_rfl) (fun _ _ _ h => h) ?_; clear S a; intro a S
  refine d_pure (i := 6) #[true, true, true, true, true, true, true, false, false, false, false] S rfl (p_fieldAddr rfl (fun w => fa43_1 w _ _)) (wanted_none rfl) rfl rfl (by kernel_rfl) (fun _ _ _ h => h) ?_; clear S a; intro a S
  refine d_read (i := 7) #[true, true, true, true, true, true, true, true, false, false, false] S H rfl (r_load rfl List.mem_cons_self rfl (fun w hc => ld1 ag3 hc)) (wanted_none rfl) rfl rfl (by kernel_rfl) (fun _ _ _ h => h) ?_; clear S a; intro a S
  refine d_pure (i := 8) #[true, true, true, true, true, true, true, true, true, false, false] S rfl (p_slice rfl (o_some rfl) (fun _ _ => o_none) (fun _ _ => o_none) (fun w => sl_lo (m := 0) Tryz.underlying39 sz5 rfl (Nat.zero_le _))) (wanted_none rfl) rfl rfl (by kernel_rfl) (fun _ _ _ h => h) ?_; clear S a; intro a S
  rw [cutAt_off, show offAt 0 c 0 = 0 by unfold offAt; split <;> rfl, Nat.sub_zero, Nat.sub_zero] at S
  refine d_read (i := 9) #[true, true, true, true, true, true, true, true, true, true, false] S H rfl (r_strH rfl Tryz.underlying39 Tryz.underlying5 Tryz.underlying9 (fun w H => RB.C (rp.row_rb H (List.mem_cons_of_mem _ List.mem_cons_self) hrow) (by omega))) (wanted_none rfl) rfl rfl (by kernel_rfl) (fun _ _ _ h => h) ?_; clear S a; intro a S
  refine d_pure (i := 10) #[true, true, true, true, true, true, true, true, true, true, true] S rfl (p_assign rfl) (wanted_none rfl) rfl rfl (by kernel_rfl) (fun _ _ _ h => h) ?_; clear S a; intro a S
  refine d_done (by kernel_rfl) ?_
  refine e_then ?_
  refine wp_ret ?_
  exact r_ret1 S rfl rfl ⟨rfl, H⟩
theorem str_ (wb w0 : World) (B : Nat) (L0 : dc.Bk) (b : Nat) (l : List Int) (ls : dc.Bk) (hz : BufZ b l ls) (hl : 0 < l.length) (H : HH B wb w0 (ls ++ L0)) : Calls Tryz.prog 18 #[.pointer (some ⟨b, 0, none⟩)] w0 fun e w' => e = .returned (.string (strOfNums l)) ∧ HH B wb w' (ls ++ L0) := by
  rcases hz with ⟨rfl, rfl⟩ | ⟨gr, c, cs, rfl, hc, hlc, hcb, hrow⟩
  · simp at hl
  · exact str_row wb w0 B L0 b gr c cs l H hlc hrow (by omega)
end bb
end Go.Proofs.YtnmelglnkefjfaaGreatDoor.wr
