/- the wire of a message -/
import Derived.Test.YtfbfmcjjohiikaaGreatDoorQ02
import Derived.Test.YtfbfmcjjohiikaaGreatDoorQ01
set_option linter.unusedVariables false
set_option linter.unusedSimpArgs false
section
namespace Go.Proofs.YtfbfmcjjohiikaaGreatDoor.wr
open Go.Proofs.YtfbfmcjjohiikaaGreatDoor.fx
open Go.RowKit Go.Proofs.HHW Go.Proofs.YtfbfmcjjohiikaaGreatDoorW.PrintWords
namespace bb
theorem fa38_2 (w : World) (g o : Nat) : (Instr.fieldAt 38 (.pointer (some ⟨g, o, none⟩)) 2).run Tryz.prog w = .ok (.pointer (some ⟨g, o + 2, none⟩)) w := by kernel_rfl
theorem sz36 : szB Tryz.prog 36 = some 1 := by kernel_rfl
theorem tg_nil (wb w0 : World) (B : Nat) (L0 : dc.Bk) (b n : Nat) (H : HH B wb w0 ((b, .cells #[(.slice none 0 0), .int .i64 0, .int .i8 0] 38 (0, 0)) :: L0)) (hn0 : 0 < n)  : Calls Tryz.prog 158 #[.pointer (some ⟨b, 0, none⟩), .int .i64 (n : Int)] w0 fun e w' => e = .returned (.tuple #[.int .i64 0, .bool false]) ∧ HH B wb w' ((b, .cells #[(.slice none 0 0), .int .i64 0, .int .i8 0] 38 (0, 0)) :: L0) := by
 refine c_enter (args := [.pointer (some ⟨b, 0, none⟩), .int .i64 (n : Int)]) (k := 31) Tryz.func158 rfl rfl rfl (fun a S => ?_)
 refine wp_seq ?_
 refine c_region ?_
 refine l_mv 2 S rfl ?_; clear S a; intro a S
 refine l_nil ?_
 refine e_then ?_
 refine wp_seq ?_
 refine wp_seq ?_
 refine c_region ?_
 refine l_mv 2 S rfl ?_; clear S a; intro a S
 refine l_pure S (p_fieldAddr rfl (fun w => fa38_0 w _ _)) rfl rfl rfl ?_; clear S a; intro a S
 refine l_read S H (r_load rfl List.mem_cons_self rfl (fun w hc => ld1 ag34 hc)) rfl rfl rfl ?_; clear S a; intro a S
 refine l_pure S (p_len Tryz.underlying34 rfl) rfl rfl rfl ?_; clear S a; intro a S
 refine l_mv 1 S rfl ?_; clear S a; intro a S
 refine l_nil ?_
 refine e_then ?_
 refine wp_seq ?_
 refine c_region ?_
 refine l_mv 3 S rfl ?_; clear S a; intro a S
 refine l_pure S (p_fieldAddr rfl (fun w => fa38_0 w _ _)) rfl rfl rfl ?_; clear S a; intro a S
 refine l_read S H (r_load rfl List.mem_cons_self rfl (fun w hc => ld1 ag34 hc)) rfl rfl rfl ?_; clear S a; intro a S
 refine l_pure S (p_cap Tryz.underlying34 rfl) rfl rfl rfl ?_; clear S a; intro a S
 refine l_mv 1 S rfl ?_; clear S a; intro a S
 refine l_pure S (p_sub rfl rfl (nat_sub (x := 0) (y := 0) (by omega) (by omega))) rfl rfl rfl ?_; clear S a; intro a S
 refine l_pure S (p_leq rfl rfl) rfl rfl rfl ?_; clear S a; intro a S
 refine l_nil ?_
 refine e_then ?_
 refine c_cond S rfl (fun c3 => by have c3 := of_decide_eq_true c3; exfalso; omega) (fun c3 => ?_)
 have c3 := of_decide_eq_false c3
 refine wp_skip ?_
 refine e_then ?_
 refine wp_seq ?_
 refine c_region ?_
 refine l_mv 2 S rfl ?_; clear S a; intro a S
 refine l_nil ?_
 refine e_then ?_
 refine wp_ret ?_
 exact r_ret2 S rfl rfl rfl ⟨rfl, H⟩
theorem tg_room (wb w0 : World) (B : Nat) (L0 : dc.Bk) (b gr n c : Nat) (l : List Int) (H : HH B wb w0 ((b, .cells #[(.slice (some ⟨gr, 0, none⟩) l.length c), .int .i64 0, .int .i8 0] 38 (0, 0)) :: L0)) (hn0 : 0 < n) (hlc : l.length ≤ c) (hn : n ≤ c - l.length) (hb : c ≤ 9223372036854775807) : Calls Tryz.prog 158 #[.pointer (some ⟨b, 0, none⟩), .int .i64 (n : Int)] w0 fun e w' => e = .returned (.tuple #[.int .i64 (l.length : Int), .bool true]) ∧ HH B wb w' ((b, .cells #[(.slice (some ⟨gr, 0, none⟩) (l.length + n) c), .int .i64 0, .int .i8 0] 38 (0, 0)) :: L0) := by
 refine c_enter (args := [.pointer (some ⟨b, 0, none⟩), .int .i64 (n : Int)]) (k := 31) Tryz.func158 rfl rfl rfl (fun a S => ?_)
 refine wp_seq ?_
 refine c_region ?_
 refine l_mv 2 S rfl ?_; clear S a; intro a S
 refine l_nil ?_
 refine e_then ?_
 refine wp_seq ?_
 refine wp_seq ?_
 refine c_region ?_
 refine l_mv 2 S rfl ?_; clear S a; intro a S
 refine l_pure S (p_fieldAddr rfl (fun w => fa38_0 w _ _)) rfl rfl rfl ?_; clear S a; intro a S
 refine l_read S H (r_load rfl List.mem_cons_self rfl (fun w hc => ld1 ag34 hc)) rfl rfl rfl ?_; clear S a; intro a S
 refine l_pure S (p_len Tryz.underlying34 rfl) rfl rfl rfl ?_; clear S a; intro a S
 refine l_mv 1 S rfl ?_; clear S a; intro a S
 refine l_nil ?_
 refine e_then ?_
 refine wp_seq ?_
 refine c_region ?_
 refine l_mv 3 S rfl ?_; clear S a; intro a S
 refine l_pure S (p_fieldAddr rfl (fun w => fa38_0 w _ _)) rfl rfl rfl ?_; clear S a; intro a S
 refine l_read S H (r_load rfl List.mem_cons_self rfl (fun w hc => ld1 ag34 hc)) rfl rfl rfl ?_; clear S a; intro a S
 refine l_pure S (p_cap Tryz.underlying34 rfl) rfl rfl rfl ?_; clear S a; intro a S
 refine l_mv 1 S rfl ?_; clear S a; intro a S
 refine l_pure S (p_sub rfl rfl (nat_sub (x := c) (y := l.length) (by omega) (by omega))) rfl rfl rfl ?_; clear S a; intro a S
 refine l_pure S (p_leq rfl rfl) rfl rfl rfl ?_; clear S a; intro a S
 refine l_nil ?_
 refine e_then ?_
 refine c_cond S rfl (fun c3 => ?_) (fun c3 => by have c3 := of_decide_eq_false c3; exfalso; omega)
 have c3 := of_decide_eq_true c3
 refine wp_seq ?_
 refine c_region ?_
 refine l_mv 3 S rfl ?_; clear S a; intro a S
 refine l_pure S (p_fieldAddr rfl (fun w => fa38_0 w _ _)) rfl rfl rfl ?_; clear S a; intro a S
 refine l_read S H (r_load rfl List.mem_cons_self rfl (fun w hc => ld1 ag34 hc)) rfl rfl rfl ?_; clear S a; intro a S
 refine l_mv 2 S rfl ?_; clear S a; intro a S
 refine l_pure S (p_add rfl rfl (nat_add (x := l.length) (y := n) (by omega))) rfl rfl rfl ?_; clear S a; intro a S
 refine l_pure S (p_slice rfl (fun _ _ => o_none) (o_some rfl) (fun _ _ => o_none) (fun w => sl_hi (m := l.length + n) Tryz.underlying34 sz5 rfl (by omega))) rfl rfl rfl ?_; clear S a; intro a S
 refine l_mv 1 S rfl ?_; clear S a; intro a S
 refine l_pure S (p_fieldAddr rfl (fun w => fa38_0 w _ _)) rfl rfl rfl ?_; clear S a; intro a S
 refine l_store S H rfl rfl rfl .here (by first | decide | simp [Value.cells]) (fun w u hc hz => st1 sz34 rfl hc hz) rfl rfl ?_; clear S a H; intro w a H S
 refine l_nil ?_
 refine e_then ?_
 refine wp_seq ?_
 refine c_region ?_
 refine l_mv 3 S rfl ?_; clear S a; intro a S
 refine l_nil ?_
 refine e_then ?_
 refine wp_ret ?_
 refine e_then_ret ?_
 exact r_ret2 S rfl rfl rfl ⟨rfl, H⟩
theorem tg_full (wb w0 : World) (B : Nat) (L0 : dc.Bk) (b gr n c : Nat) (l : List Int) (H : HH B wb w0 ((b, .cells #[(.slice (some ⟨gr, 0, none⟩) l.length c), .int .i64 0, .int .i8 0] 38 (0, 0)) :: L0)) (hn0 : 0 < n) (hlc : l.length ≤ c) (hn : c - l.length < n) (hb : c ≤ 9223372036854775807) : Calls Tryz.prog 158 #[.pointer (some ⟨b, 0, none⟩), .int .i64 (n : Int)] w0 fun e w' => e = .returned (.tuple #[.int .i64 0, .bool false]) ∧ HH B wb w' ((b, .cells #[(.slice (some ⟨gr, 0, none⟩) l.length c), .int .i64 0, .int .i8 0] 38 (0, 0)) :: L0) := by
 refine c_enter (args := [.pointer (some ⟨b, 0, none⟩), .int .i64 (n : Int)]) (k := 31) Tryz.func158 rfl rfl rfl (fun a S => ?_)
 refine wp_seq ?_
 refine c_region ?_
 refine l_mv 2 S rfl ?_; clear S a; intro a S
 refine l_nil ?_
 refine e_then ?_
 refine wp_seq ?_
 refine wp_seq ?_
 refine c_region ?_
 refine l_mv 2 S rfl ?_; clear S a; intro a S
 refine l_pure S (p_fieldAddr rfl (fun w => fa38_0 w _ _)) rfl rfl rfl ?_; clear S a; intro a S
 refine l_read S H (r_load rfl List.mem_cons_self rfl (fun w hc => ld1 ag34 hc)) rfl rfl rfl ?_; clear S a; intro a S
 refine l_pure S (p_len Tryz.underlying34 rfl) rfl rfl rfl ?_; clear S a; intro a S
 refine l_mv 1 S rfl ?_; clear S a; intro a S
 refine l_nil ?_
 refine e_then ?_
 refine wp_seq ?_
 refine c_region ?_
 refine l_mv 3 S rfl ?_; clear S a; intro a S
 refine l_pure S (p_fieldAddr rfl (fun w => fa38_0 w _ _)) rfl rfl rfl ?_; clear S a; intro a S
 refine l_read S H (r_load rfl List.mem_cons_self rfl (fun w hc => ld1 ag34 hc)) rfl rfl rfl ?_; clear S a; intro a S
 refine l_pure S (p_cap Tryz.underlying34 rfl) rfl rfl rfl ?_; clear S a; intro a S
 refine l_mv 1 S rfl ?_; clear S a; intro a S
 refine l_pure S (p_sub rfl rfl (nat_sub (x := c) (y := l.length) (by omega) (by omega))) rfl rfl rfl ?_; clear S a; intro a S
 refine l_pure S (p_leq rfl rfl) rfl rfl rfl ?_; clear S a; intro a S
 refine l_nil ?_
 refine e_then ?_
 refine c_cond S rfl (fun c3 => by have c3 := of_decide_eq_true c3; exfalso; omega) (fun c3 => ?_)
 have c3 := of_decide_eq_false c3
 refine wp_skip ?_
 refine e_then ?_
 refine wp_seq ?_
 refine c_region ?_
 refine l_mv 2 S rfl ?_; clear S a; intro a S
 refine l_nil ?_
 refine e_then ?_
 refine wp_ret ?_
 exact r_ret2 S rfl rfl rfl ⟨rfl, H⟩
theorem len_nil (wb w0 : World) (B : Nat) (L0 : dc.Bk) (b : Nat) (H : HH B wb w0 ((b, .cells #[(.slice none 0 0), .int .i64 0, .int .i8 0] 38 (0, 0)) :: L0))  : Calls Tryz.prog 160 #[.pointer (some ⟨b, 0, none⟩)] w0 fun e w' => e = .returned (.int .i64 0) ∧ HH B wb w' ((b, .cells #[(.slice none 0 0), .int .i64 0, .int .i8 0] 38 (0, 0)) :: L0) := by
 refine c_enter (args := [.pointer (some ⟨b, 0, none⟩)]) (k := 12) Tryz.func160 rfl rfl rfl (fun a S => ?_)
 refine wp_seq ?_
 refine c_region ?_
 refine l_mv 1 S rfl ?_; clear S a; intro a S
 refine l_nil ?_
 refine e_then ?_
 refine wp_seq ?_
 refine d_start (id := 1) [] 11 #[false, false, false, false, false, false, false, false, false, false, false] H rfl rfl rfl (fun w H => ?_)
 refine d_mv [0, 1, 5, 6] #[true, true, false, false, false, true, true, false, false, false, false] S rfl (by kernel_rfl) (fun _ _ _ _ _ h => h) ?_; clear S a; intro a S
 refine d_pure (i := 2) #[true, true, true, false, false, true, true, false, false, false, false] S rfl (p_fieldAddr rfl (fun w => fa38_0 w _ _)) (wanted_none rfl) rfl rfl (by kernel_rfl) (fun _ _ _ h => h) ?_; clear S a; intro a S
 refine d_read (i := 3) #[true, true, true, true, false, true, true, false, false, false, false] S H rfl (r_load rfl List.mem_cons_self rfl (fun w hc => ld1 ag34 hc)) (wanted_none rfl) rfl rfl (by kernel_rfl) (fun _ _ _ h => h) ?_; clear S a; intro a S
 refine d_pure (i := 4) #[true, true, true, true, true, true, true, false, false, false, false] S rfl (p_len Tryz.underlying34 rfl) (wanted_none rfl) rfl rfl (by kernel_rfl) (fun _ _ _ h => h) ?_; clear S a; intro a S
 refine d_pure (i := 7) #[true, true, true, true, true, true, true, true, false, false, false] S rfl (p_fieldAddr rfl (fun w => fa38_1 w _ _)) (wanted_none rfl) rfl rfl (by kernel_rfl) (fun _ _ _ h => h) ?_; clear S a; intro a S
 refine d_read (i := 8) #[true, true, true, true, true, true, true, true, true, false, false] S H rfl (r_load rfl List.mem_cons_self rfl (fun w hc => ld1 ag3 hc)) (wanted_none rfl) rfl rfl (by kernel_rfl) (fun _ _ _ h => h) ?_; clear S a; intro a S
 refine d_pure (i := 9) #[true, true, true, true, true, true, true, true, true, true, false] S rfl (p_sub (r := (0 : Int)) rfl rfl (by rw [Int.sub_zero]; exact IntWalk.i64_in _ (by omega))) (wanted_none rfl) rfl rfl (by kernel_rfl) (fun _ _ _ h => h) ?_; clear S a; intro a S
 refine d_mv [10] #[true, true, true, true, true, true, true, true, true, true, true] S rfl (by kernel_rfl) (fun _ _ _ _ _ h => h) ?_; clear S a; intro a S
 refine d_done (by kernel_rfl) ?_
 refine e_then ?_
 refine wp_ret ?_
 exact r_ret1 S rfl rfl ⟨rfl, H⟩
theorem len_row (wb w0 : World) (B : Nat) (L0 : dc.Bk) (b gr c : Nat) (l : List Int) (H : HH B wb w0 ((b, .cells #[(.slice (some ⟨gr, 0, none⟩) l.length c), .int .i64 0, .int .i8 0] 38 (0, 0)) :: L0)) (hl : l.length ≤ 9223372036854775807) : Calls Tryz.prog 160 #[.pointer (some ⟨b, 0, none⟩)] w0 fun e w' => e = .returned (.int .i64 (l.length : Int)) ∧ HH B wb w' ((b, .cells #[(.slice (some ⟨gr, 0, none⟩) l.length c), .int .i64 0, .int .i8 0] 38 (0, 0)) :: L0) := by
 refine c_enter (args := [.pointer (some ⟨b, 0, none⟩)]) (k := 12) Tryz.func160 rfl rfl rfl (fun a S => ?_)
 refine wp_seq ?_
 refine c_region ?_
 refine l_mv 1 S rfl ?_; clear S a; intro a S
 refine l_nil ?_
 refine e_then ?_
 refine wp_seq ?_
 refine d_start (id := 1) [] 11 #[false, false, false, false, false, false, false, false, false, false, false] H rfl rfl rfl (fun w H => ?_)
 refine d_mv [0, 1, 5, 6] #[true, true, false, false, false, true, true, false, false, false, false] S rfl (by kernel_rfl) (fun _ _ _ _ _ h => h) ?_; clear S a; intro a S
 refine d_pure (i := 2) #[true, true, true, false, false, true, true, false, false, false, false] S rfl (p_fieldAddr rfl (fun w => fa38_0 w _ _)) (wanted_none rfl) rfl rfl (by kernel_rfl) (fun _ _ _ h => h) ?_; clear S a; intro a S
 refine d_read (i := 3) #[true, true, true, true, false, true, true, false, false, false, false] S H rfl (r_load rfl List.mem_cons_self rfl (fun w hc => ld1 ag34 hc)) (wanted_none rfl) rfl rfl (by kernel_rfl) (fun _ _ _ h => h) ?_; clear S a; intro a S
 refine d_pure (i := 4) #[true, true, true, true, true, true, true, false, false, false, false] S rfl (p_len Tryz.underlying34 rfl) (wanted_none rfl) rfl rfl (by kernel_rfl) (fun _ _ _ h => h) ?_; clear S a; intro a S
 refine d_pure (i := 7) #[true, true, true, true, true, true, true, true, false, false, false] S rfl (p_fieldAddr rfl (fun w => fa38_1 w _ _)) (wanted_none rfl) rfl rfl (by kernel_rfl) (fun _ _ _ h => h) ?_; clear S a; intro a S
 refine d_read (i := 8) #[true, true, true, true, true, true, true, true, true, false, false] S H rfl (r_load rfl List.mem_cons_self rfl (fun w hc => ld1 ag3 hc)) (wanted_none rfl) rfl rfl (by kernel_rfl) (fun _ _ _ h => h) ?_; clear S a; intro a S
 refine d_pure (i := 9) #[true, true, true, true, true, true, true, true, true, true, false] S rfl (p_sub (r := (l.length : Int)) rfl rfl (by rw [Int.sub_zero]; exact IntWalk.i64_in _ (by omega))) (wanted_none rfl) rfl rfl (by kernel_rfl) (fun _ _ _ h => h) ?_; clear S a; intro a S
 refine d_mv [10] #[true, true, true, true, true, true, true, true, true, true, true] S rfl (by kernel_rfl) (fun _ _ _ _ _ h => h) ?_; clear S a; intro a S
 refine d_done (by kernel_rfl) ?_
 refine e_then ?_
 refine wp_ret ?_
 exact r_ret1 S rfl rfl ⟨rfl, H⟩
set_option maxHeartbeats 1000000 in
theorem grow_nil (wb w0 : World) (B : Nat) (L0 : dc.Bk) (b n : Nat) (H : HH B wb w0 ((b, .cells #[(.slice none 0 0), .int .i64 0, .int .i8 0] 38 (0, 0)) :: L0)) (hn0 : 0 < n) (hlim : 0 + n ≤ 140737488355328) : Calls Tryz.prog 159 #[.pointer (some ⟨b, 0, none⟩), .int .i64 (n : Int)] w0 fun e w' => ∃ (g' c' : Nat) (cs' : Array Value), e = .returned (.int .i64 0) ∧ HH B wb w' ((b, .cells #[(.slice (some ⟨g', 0, none⟩) (n) c'), .int .i64 0, .int .i8 0] 38 (0, 0)) :: (g', .cells cs' 5 (0, 0)) :: L0) ∧ cs'.size = c' ∧ 0 + n ≤ c' ∧ c' ≤ 9223372036854775807 ∧ bf.Row cs' 0 [] := by
 refine c_enter (args := [.pointer (some ⟨b, 0, none⟩), .int .i64 (n : Int)]) (k := 108) Tryz.func159 rfl rfl rfl (fun a S => ?_)
 refine wp_seq ?_
 refine c_region ?_
 refine l_mv 1 S rfl ?_; clear S a; intro a S
 refine l_nil ?_
 refine e_then ?_
 refine wp_seq ?_
 refine c_region ?_
 refine l_mv 1 S rfl ?_; clear S a; intro a S
 refine l_call S rfl rfl Tryz.func160 rfl rfl (len_nil wb _ B _ b H ) rfl rfl rfl ?_
 rintro e w ⟨rfl, hH⟩
 refine ⟨_, rfl, ?_⟩; clear S a; intro a S
 clear H; have H := hH; clear hH
 refine l_mv 1 S rfl ?_; clear S a; intro a S
 refine l_nil ?_
 refine e_then ?_
 refine wp_seq ?_
 refine wp_seq ?_
 refine c_region ?_
 refine l_mv 1 S rfl ?_; clear S a; intro a S
 refine l_pure S (p_eql rfl rfl) rfl rfl rfl ?_; clear S a; intro a S
 refine l_mv 1 S rfl ?_; clear S a; intro a S
 refine l_on S rfl rfl rfl rfl rfl ?_
 refine l_pure S (p_move rfl) rfl rfl rfl ?_; clear S a; intro a S
 refine l_on S rfl rfl rfl rfl rfl ?_
 refine l_pure S (p_nilCheck rfl) rfl rfl rfl ?_; clear S a; intro a S
 refine l_on S rfl rfl rfl rfl rfl ?_
 refine l_pure S (p_fieldAddr rfl (fun w => fa38_1 w _ _)) rfl rfl rfl ?_; clear S a; intro a S
 refine l_on S rfl rfl rfl rfl rfl ?_
 refine l_read S H (r_load rfl List.mem_cons_self rfl (fun w hc => ld1 ag3 hc)) rfl rfl rfl ?_; clear S a; intro a S
 refine l_on S rfl rfl rfl rfl rfl ?_
 refine l_pure S (p_neq rfl rfl) rfl rfl rfl ?_; clear S a; intro a S
 refine l_pure S (p_pick_t rfl rfl rfl) rfl rfl rfl ?_; clear S a; intro a S
 refine l_nil ?_
 refine e_then ?_
 refine c_cond (b := false) S rfl (fun h => by cases h) (fun _ => ?_)
 refine wp_skip ?_
 refine e_then ?_
 refine wp_seq ?_
 refine wp_seq ?_
 refine c_region ?_
 refine l_mv 2 S rfl ?_; clear S a; intro a S
 refine l_call S rfl rfl Tryz.func158 rfl rfl (tg_nil wb _ B _ b n H hn0) rfl rfl rfl ?_
 rintro e w ⟨rfl, hH⟩
 refine ⟨_, rfl, ?_⟩; clear S a; intro a S
 clear H; have H := hH; clear hH
 refine l_mv 5 S rfl ?_; clear S a; intro a S
 refine l_nil ?_
 refine e_then ?_
 refine wp_seq ?_
 refine c_region ?_
 refine l_mv 1 S rfl ?_; clear S a; intro a S
 refine l_nil ?_
 refine e_then ?_
 refine c_cond (b := false) S rfl (fun h => by cases h) (fun _ => ?_)
 refine wp_skip ?_
 refine e_then ?_
 refine wp_seq ?_
 refine wp_seq ?_
 refine c_region ?_
 refine l_mv 2 S rfl ?_; clear S a; intro a S
 refine l_pure S (p_fieldAddr rfl (fun w => fa38_0 w _ _)) rfl rfl rfl ?_; clear S a; intro a S
 refine l_read S H (r_load rfl List.mem_cons_self rfl (fun w hc => ld1 ag34 hc)) rfl rfl rfl ?_; clear S a; intro a S
 refine l_pure S (p_slnil Tryz.underlying34 rfl rfl) rfl rfl rfl ?_; clear S a; intro a S
 refine l_mv 1 S rfl ?_; clear S a; intro a S
 refine l_on S rfl rfl rfl rfl rfl ?_
 refine l_pure S (p_move rfl) rfl rfl rfl ?_; clear S a; intro a S
 refine l_on S rfl rfl rfl rfl rfl ?_
 refine l_pure S (p_leq rfl rfl) rfl rfl rfl ?_; clear S a; intro a S
 refine l_pure S (p_pick_t rfl rfl rfl) rfl rfl rfl ?_; clear S a; intro a S
 refine l_nil ?_
 refine e_then ?_
 refine c_cond S rfl (fun bc8 => ?_) (fun bc8 => ?_)
 ·
  have c8 := bc8
  have c8 := of_decide_eq_true c8
  refine wp_seq ?_
  refine c_region ?_
  refine l_mv 2 S rfl ?_; clear S a; intro a S
  refine l_make (l := n) (c := 64) S H rfl rfl rfl Tryz.underlying34 in5 (by omega) (by omega) (by omega) rfl rfl rfl ?_; clear S a H; intro gm cm w a hcm H S
  refine l_mv 1 S rfl ?_; clear S a; intro a S
  refine l_pure S (p_fieldAddr rfl (fun w => fa38_0 w _ _)) rfl rfl rfl ?_; clear S a; intro a S
  refine l_store S H rfl rfl rfl (.there .here) (by first | decide | simp [Value.cells]) (fun w u hc hz => st1 sz34 rfl hc hz) rfl rfl ?_; clear S a H; intro w a H S
  refine l_nil ?_
  refine e_then ?_
  refine wp_seq ?_
  refine c_region ?_
  refine l_mv 1 S rfl ?_; clear S a; intro a S
  refine l_nil ?_
  refine e_then ?_
  refine wp_ret ?_
  refine e_then_ret ?_
  exact r_ret1 S rfl rfl ⟨gm, 64, cm, rfl, H.pull1, hcm, by omega, by omega, (fun i v h => by simp at h)⟩
 ·
  have c8 := bc8
  have c8 := of_decide_eq_false c8
  refine wp_skip ?_
  refine e_then ?_
  refine wp_seq ?_
  refine c_region ?_
  refine l_mv 2 S rfl ?_; clear S a; intro a S
  refine l_pure S (p_fieldAddr rfl (fun w => fa38_0 w _ _)) rfl rfl rfl ?_; clear S a; intro a S
  refine l_read S H (r_load rfl List.mem_cons_self rfl (fun w hc => ld1 ag34 hc)) rfl rfl rfl ?_; clear S a; intro a S
  refine l_pure S (p_cap Tryz.underlying34 rfl) rfl rfl rfl ?_; clear S a; intro a S
  refine l_mv 1 S rfl ?_; clear S a; intro a S
  refine l_nil ?_
  refine e_then ?_
  refine wp_seq ?_
  refine wp_seq ?_
  refine c_region ?_
  refine l_mv 2 S rfl ?_; clear S a; intro a S
  refine l_pure S (p_quo (r := ((0 / 2 : Nat) : Int)) rfl rfl (by decide) (by first | decide | exact nat_quo c 2 (by omega))) rfl rfl rfl ?_; clear S a; intro a S
  refine l_mv 1 S rfl ?_; clear S a; intro a S
  refine l_pure S (p_sub (r := ((0 / 2 : Nat) : Int) - (0 : Int)) rfl rfl (IntWalk.i64_in _ (by omega))) rfl rfl rfl ?_; clear S a; intro a S
  refine l_pure S (p_leq rfl rfl) rfl rfl rfl ?_; clear S a; intro a S
  refine l_nil ?_
  refine e_then ?_
  refine c_cond S rfl (fun h => by rw [(decide_eq_false (by omega))] at h; cases h) (fun _ => ?_)
  refine wp_seq ?_
  refine c_region ?_
  refine l_mv 2 S rfl ?_; clear S a; intro a S
  refine l_pure S (p_sub (r := 9223372036854775807 - (0 : Int)) rfl rfl (IntWalk.i64_in _ (by omega))) rfl rfl rfl ?_; clear S a; intro a S
  refine l_mv 1 S rfl ?_; clear S a; intro a S
  refine l_pure S (p_sub (r := 9223372036854775807 - (0 : Int) - (n : Int)) rfl rfl (IntWalk.i64_in _ (by omega))) rfl rfl rfl ?_; clear S a; intro a S
  refine l_pure S (p_gtr rfl rfl) rfl rfl rfl ?_; clear S a; intro a S
  refine l_nil ?_
  refine e_then ?_
  refine c_cond S rfl (fun h => by rw [(decide_eq_false (by omega))] at h; cases h) (fun _ => ?_)
  refine d_start (id := 15) [16, 19] 20 #[false, false, false, false, false, false, false, false, false, false, false, false, false, false, false, false, false, false, false, false] H rfl rfl rfl (fun w H => ?_)
  refine d_mv [0, 1, 2, 5, 6, 10, 11, 14] #[true, true, true, false, false, true, true, false, false, false, true, true, false, false, true, false, false, false, false, false] S rfl (by kernel_rfl) (fun _ _ _ _ _ h => h) ?_; clear S a; intro a S
  refine d_pure (i := 3) #[true, true, true, true, false, true, true, false, false, false, true, true, false, false, true, false, false, false, false, false] S rfl (p_fieldAddr rfl (fun w => fa38_0 w _ _)) (wanted_none rfl) rfl rfl (by kernel_rfl) (fun _ _ _ h => h) ?_; clear S a; intro a S
  refine d_read (i := 4) #[true, true, true, true, true, true, true, false, false, false, true, true, false, false, true, false, false, false, false, false] S H rfl (r_load rfl List.mem_cons_self rfl (fun w hc => ld1 ag34 hc)) (wanted_none rfl) rfl rfl (by kernel_rfl) (fun _ _ _ h => h) ?_; clear S a; intro a S
  refine d_pure (i := 7) #[true, true, true, true, true, true, true, true, false, false, true, true, false, false, true, false, false, false, false, false] S rfl (p_fieldAddr rfl (fun w => fa38_1 w _ _)) (wanted_none rfl) rfl rfl (by kernel_rfl) (fun _ _ _ h => h) ?_; clear S a; intro a S
  refine d_read (i := 8) #[true, true, true, true, true, true, true, true, true, false, true, true, false, false, true, false, false, false, false, false] S H rfl (r_load rfl List.mem_cons_self rfl (fun w hc => ld1 ag3 hc)) (wanted_none rfl) rfl rfl (by kernel_rfl) (fun _ _ _ h => h) ?_; clear S a; intro a S
  refine d_pure (i := 9) #[true, true, true, true, true, true, true, true, true, true, true, true, false, false, true, false, false, false, false, false] S rfl (p_slice rfl (o_some rfl) (fun _ _ => o_none) (fun _ _ => o_none) (fun w => sl_lo (m := 0) Tryz.underlying34 sz5 rfl (Nat.zero_le _))) (wanted_none rfl) rfl rfl (by kernel_rfl) (fun _ _ _ h => h) ?_; clear S a; intro a S
  rw [show cutAt none 0 0 1 = none from rfl] at S
  refine d_pure (i := 12) #[true, true, true, true, true, true, true, true, true, true, true, true, true, false, true, false, false, false, false, false] S rfl (p_fieldAddr rfl (fun w => fa38_1 w _ _)) (wanted_none rfl) rfl rfl (by kernel_rfl) (fun _ _ _ h => h) ?_; clear S a; intro a S
  refine d_read (i := 13) #[true, true, true, true, true, true, true, true, true, true, true, true, true, true, true, false, false, false, false, false] S H rfl (r_load rfl List.mem_cons_self rfl (fun w hc => ld1 ag3 hc)) (wanted_none rfl) rfl rfl (by kernel_rfl) (fun _ _ _ h => h) ?_; clear S a; intro a S
  refine d_pure (i := 15) #[true, true, true, true, true, true, true, true, true, true, true, true, true, true, true, true, false, false, false, false] S rfl (p_add (r := (n : Int)) rfl rfl (by rw [Int.zero_add]; exact IntWalk.i64_in _ (by omega))) (wanted_none rfl) rfl rfl (by kernel_rfl) (fun _ _ _ h => h) ?_; clear S a; intro a S
  have hcon := li.grow_nil H (n := n) hn0 (by omega)
  refine d_call_last (i := 16) #[true, true, true, true, true, true, true, true, true, true, true, true, true, true, true, true, true, false, false, false] S rfl rfl rfl Tryz.func161 rfl rfl hcon (wanted_none rfl) rfl rfl (by kernel_rfl) rfl ?_
  rintro e w ⟨gm, c2, cm, rfl, hH, hcm, hc2, hc3⟩
  refine ⟨_, rfl, ?_⟩; clear S a; intro a S; clear H hcon; have H := hH; clear hH
  refine d_mv [17] #[true, true, true, true, true, true, true, true, true, true, true, true, true, true, true, true, true, true, false, false] S rfl (by kernel_rfl) (fun _ _ _ _ _ h => h) ?_; clear S a; intro a S
  refine d_pure (i := 18) #[true, true, true, true, true, true, true, true, true, true, true, true, true, true, true, true, true, true, true, false] S rfl (p_fieldAddr rfl (fun w => fa38_0 w _ _)) (wanted_none rfl) rfl rfl (by kernel_rfl) (fun _ _ _ h => h) ?_; clear S a; intro a S
  refine d_store (i := 19) #[true, true, true, true, true, true, true, true, true, true, true, true, true, true, true, true, true, true, true, true] S H rfl rfl rfl rfl (.there .here) (by first | decide | simp [Value.cells]) (fun w u hc hz => st1 sz34 rfl hc hz) (wanted_none rfl) rfl (by kernel_rfl) rfl ?_; clear S a H; intro w a H S
  refine d_done (by kernel_rfl) ?_
  refine e_then ?_
  refine wp_seq ?_
  refine c_region ?_
  refine l_mv 2 S rfl ?_; clear S a; intro a S
  refine l_pure S (p_fieldAddr rfl (fun w => fa38_1 w _ _)) rfl rfl rfl ?_; clear S a; intro a S
  refine l_store S H rfl rfl rfl (.there .here) (by first | decide | simp [Value.cells]) (fun w u hc hz => st1 sz3 rfl hc hz) rfl rfl ?_; clear S a H; intro w a H S
  refine l_nil ?_
  refine e_then ?_
  refine wp_seq ?_
  refine c_region ?_
  refine l_mv 3 S rfl ?_; clear S a; intro a S
  refine l_pure S (p_fieldAddr rfl (fun w => fa38_0 w _ _)) rfl rfl rfl ?_; clear S a; intro a S
  refine l_read S H (r_load rfl (List.mem_cons_of_mem _ List.mem_cons_self) rfl (fun w hc => ld1 ag34 hc)) rfl rfl rfl ?_; clear S a; intro a S
  refine l_mv 2 S rfl ?_; clear S a; intro a S
  refine l_pure S (p_add (r := (n : Int)) rfl rfl (by rw [Int.zero_add]; exact IntWalk.i64_in _ (by omega))) rfl rfl rfl ?_; clear S a; intro a S
  refine l_pure S (p_slice rfl (fun _ _ => o_none) (o_some rfl) (fun _ _ => o_none) (fun w => sl_hi (m := n) Tryz.underlying34 sz5 rfl (by omega))) rfl rfl rfl ?_; clear S a; intro a S
  refine l_mv 1 S rfl ?_; clear S a; intro a S
  refine l_pure S (p_fieldAddr rfl (fun w => fa38_0 w _ _)) rfl rfl rfl ?_; clear S a; intro a S
  refine l_store S H rfl rfl rfl (.there .here) (by first | decide | simp [Value.cells]) (fun w u hc hz => st1 sz34 rfl hc hz) rfl rfl ?_; clear S a H; intro w a H S
  refine l_nil ?_
  refine e_then ?_
  refine wp_seq ?_
  refine c_region ?_
  refine l_mv 2 S rfl ?_; clear S a; intro a S
  refine l_nil ?_
  refine e_then ?_
  refine wp_ret ?_
  exact r_ret1 S rfl rfl ⟨gm, c2, cm, rfl, H.pull1, hcm, by omega, by omega, (fun i v h => by simp at h)⟩
set_option maxHeartbeats 1000000 in
theorem grow_row (wb w0 : World) (B : Nat) (L0 : dc.Bk) (b gr n c : Nat) (cs : Array Value) (l : List Int) (H : HH B wb w0 ((b, .cells #[(.slice (some ⟨gr, 0, none⟩) l.length c), .int .i64 0, .int .i8 0] 38 (0, 0)) :: (gr, .cells cs 5 (0, 0)) :: L0)) (hn0 : 0 < n) (hc : cs.size = c) (hlc : l.length ≤ c) (hrow : bf.Row cs 0 l) (hno : c - l.length < n) (hlim : l.length + n ≤ 140737488355328) : Calls Tryz.prog 159 #[.pointer (some ⟨b, 0, none⟩), .int .i64 (n : Int)] w0 fun e w' => ∃ (g' c' : Nat) (cs' : Array Value), e = .returned (.int .i64 (l.length : Int)) ∧ HH B wb w' ((b, .cells #[(.slice (some ⟨g', 0, none⟩) (l.length + n) c'), .int .i64 0, .int .i8 0] 38 (0, 0)) :: (g', .cells cs' 5 (0, 0)) :: L0) ∧ cs'.size = c' ∧ l.length + n ≤ c' ∧ c' ≤ 9223372036854775807 ∧ bf.Row cs' 0 l := by
 refine c_enter (args := [.pointer (some ⟨b, 0, none⟩), .int .i64 (n : Int)]) (k := 108) Tryz.func159 rfl rfl rfl (fun a S => ?_)
 refine wp_seq ?_
 refine c_region ?_
 refine l_mv 1 S rfl ?_; clear S a; intro a S
 refine l_nil ?_
 refine e_then ?_
 refine wp_seq ?_
 refine c_region ?_
 refine l_mv 1 S rfl ?_; clear S a; intro a S
 refine l_call S rfl rfl Tryz.func160 rfl rfl (len_row wb _ B _ b gr c l H (by omega)) rfl rfl rfl ?_
 rintro e w ⟨rfl, hH⟩
 refine ⟨_, rfl, ?_⟩; clear S a; intro a S
 clear H; have H := hH; clear hH
 refine l_mv 1 S rfl ?_; clear S a; intro a S
 refine l_nil ?_
 refine e_then ?_
 refine wp_seq ?_
 refine wp_seq ?_
 refine c_region ?_
 refine l_mv 1 S rfl ?_; clear S a; intro a S
 refine l_pure S (p_eql rfl rfl) rfl rfl rfl ?_; clear S a; intro a S
 refine l_mv 1 S rfl ?_; clear S a; intro a S
 refine l_split (S.of 13 rfl) (fun bc2 => ?_) (fun bc2 => ?_)
 ·
  have c2 := bc2
  have c2 := eq_of_beq c2
  refine l_on S rfl rfl rfl rfl bc2 ?_
  refine l_pure S (p_move rfl) rfl rfl rfl ?_; clear S a; intro a S
  refine l_on S rfl rfl rfl rfl bc2 ?_
  refine l_pure S (p_nilCheck rfl) rfl rfl rfl ?_; clear S a; intro a S
  refine l_on S rfl rfl rfl rfl bc2 ?_
  refine l_pure S (p_fieldAddr rfl (fun w => fa38_1 w _ _)) rfl rfl rfl ?_; clear S a; intro a S
  refine l_on S rfl rfl rfl rfl bc2 ?_
  refine l_read S H (r_load rfl List.mem_cons_self rfl (fun w hc => ld1 ag3 hc)) rfl rfl rfl ?_; clear S a; intro a S
  refine l_on S rfl rfl rfl rfl bc2 ?_
  refine l_pure S (p_neq rfl rfl) rfl rfl rfl ?_; clear S a; intro a S
  refine l_pure S (p_pick_t rfl bc2 rfl) rfl rfl rfl ?_; clear S a; intro a S
  refine l_nil ?_
  refine e_then ?_
  refine c_cond (b := false) S rfl (fun h => by cases h) (fun _ => ?_)
  refine wp_skip ?_
  refine e_then ?_
  refine wp_seq ?_
  refine wp_seq ?_
  refine c_region ?_
  refine l_mv 2 S rfl ?_; clear S a; intro a S
  refine l_call S rfl rfl Tryz.func158 rfl rfl (tg_full wb _ B _ b gr n c l H hn0 hlc hno (by omega)) rfl rfl rfl ?_
  rintro e w ⟨rfl, hH⟩
  refine ⟨_, rfl, ?_⟩; clear S a; intro a S
  clear H; have H := hH; clear hH
  refine l_mv 5 S rfl ?_; clear S a; intro a S
  refine l_nil ?_
  refine e_then ?_
  refine wp_seq ?_
  refine c_region ?_
  refine l_mv 1 S rfl ?_; clear S a; intro a S
  refine l_nil ?_
  refine e_then ?_
  refine c_cond (b := false) S rfl (fun h => by cases h) (fun _ => ?_)
  refine wp_skip ?_
  refine e_then ?_
  refine wp_seq ?_
  refine wp_seq ?_
  refine c_region ?_
  refine l_mv 2 S rfl ?_; clear S a; intro a S
  refine l_pure S (p_fieldAddr rfl (fun w => fa38_0 w _ _)) rfl rfl rfl ?_; clear S a; intro a S
  refine l_read S H (r_load rfl List.mem_cons_self rfl (fun w hc => ld1 ag34 hc)) rfl rfl rfl ?_; clear S a; intro a S
  refine l_pure S (p_slnil Tryz.underlying34 rfl rfl) rfl rfl rfl ?_; clear S a; intro a S
  refine l_mv 1 S rfl ?_; clear S a; intro a S
  refine l_off S rfl rfl rfl rfl rfl rfl rfl ?_; clear S a; intro a S
  refine l_off S rfl rfl rfl rfl rfl rfl rfl ?_; clear S a; intro a S
  refine l_pure S (p_pick_f rfl rfl rfl) rfl rfl rfl ?_; clear S a; intro a S
  refine l_nil ?_
  refine e_then ?_
  refine c_cond (b := false) S rfl (fun h => by cases h) (fun _ => ?_)
  refine wp_skip ?_
  refine e_then ?_
  refine wp_seq ?_
  refine c_region ?_
  refine l_mv 2 S rfl ?_; clear S a; intro a S
  refine l_pure S (p_fieldAddr rfl (fun w => fa38_0 w _ _)) rfl rfl rfl ?_; clear S a; intro a S
  refine l_read S H (r_load rfl List.mem_cons_self rfl (fun w hc => ld1 ag34 hc)) rfl rfl rfl ?_; clear S a; intro a S
  refine l_pure S (p_cap Tryz.underlying34 rfl) rfl rfl rfl ?_; clear S a; intro a S
  refine l_mv 1 S rfl ?_; clear S a; intro a S
  refine l_nil ?_
  refine e_then ?_
  refine wp_seq ?_
  refine wp_seq ?_
  refine c_region ?_
  refine l_mv 2 S rfl ?_; clear S a; intro a S
  refine l_pure S (p_quo (r := ((c / 2 : Nat) : Int)) rfl rfl (by decide) (by first | decide | exact nat_quo c 2 (by omega))) rfl rfl rfl ?_; clear S a; intro a S
  refine l_mv 1 S rfl ?_; clear S a; intro a S
  refine l_pure S (p_sub (r := ((c / 2 : Nat) : Int) - (l.length : Int)) rfl rfl (IntWalk.i64_in _ (by omega))) rfl rfl rfl ?_; clear S a; intro a S
  refine l_pure S (p_leq rfl rfl) rfl rfl rfl ?_; clear S a; intro a S
  refine l_nil ?_
  refine e_then ?_
  refine c_cond S rfl (fun h => by rw [(decide_eq_false (by omega))] at h; cases h) (fun _ => ?_)
  refine wp_seq ?_
  refine c_region ?_
  refine l_mv 2 S rfl ?_; clear S a; intro a S
  refine l_pure S (p_sub (r := 9223372036854775807 - (c : Int)) rfl rfl (IntWalk.i64_in _ (by omega))) rfl rfl rfl ?_; clear S a; intro a S
  refine l_mv 1 S rfl ?_; clear S a; intro a S
  refine l_pure S (p_sub (r := 9223372036854775807 - (c : Int) - (n : Int)) rfl rfl (IntWalk.i64_in _ (by omega))) rfl rfl rfl ?_; clear S a; intro a S
  refine l_pure S (p_gtr rfl rfl) rfl rfl rfl ?_; clear S a; intro a S
  refine l_nil ?_
  refine e_then ?_
  refine c_cond S rfl (fun h => by rw [(decide_eq_false (by omega))] at h; cases h) (fun _ => ?_)
  refine d_start (id := 15) [16, 19] 20 #[false, false, false, false, false, false, false, false, false, false, false, false, false, false, false, false, false, false, false, false] H rfl rfl rfl (fun w H => ?_)
  refine d_mv [0, 1, 2, 5, 6, 10, 11, 14] #[true, true, true, false, false, true, true, false, false, false, true, true, false, false, true, false, false, false, false, false] S rfl (by kernel_rfl) (fun _ _ _ _ _ h => h) ?_; clear S a; intro a S
  refine d_pure (i := 3) #[true, true, true, true, false, true, true, false, false, false, true, true, false, false, true, false, false, false, false, false] S rfl (p_fieldAddr rfl (fun w => fa38_0 w _ _)) (wanted_none rfl) rfl rfl (by kernel_rfl) (fun _ _ _ h => h) ?_; clear S a; intro a S
  refine d_read (i := 4) #[true, true, true, true, true, true, true, false, false, false, true, true, false, false, true, false, false, false, false, false] S H rfl (r_load rfl List.mem_cons_self rfl (fun w hc => ld1 ag34 hc)) (wanted_none rfl) rfl rfl (by kernel_rfl) (fun _ _ _ h => h) ?_; clear S a; intro a S
  refine d_pure (i := 7) #[true, true, true, true, true, true, true, true, false, false, true, true, false, false, true, false, false, false, false, false] S rfl (p_fieldAddr rfl (fun w => fa38_1 w _ _)) (wanted_none rfl) rfl rfl (by kernel_rfl) (fun _ _ _ h => h) ?_; clear S a; intro a S
  refine d_read (i := 8) #[true, true, true, true, true, true, true, true, true, false, true, true, false, false, true, false, false, false, false, false] S H rfl (r_load rfl List.mem_cons_self rfl (fun w hc => ld1 ag3 hc)) (wanted_none rfl) rfl rfl (by kernel_rfl) (fun _ _ _ h => h) ?_; clear S a; intro a S
  refine d_pure (i := 9) #[true, true, true, true, true, true, true, true, true, true, true, true, false, false, true, false, false, false, false, false] S rfl (p_slice rfl (o_some rfl) (fun _ _ => o_none) (fun _ _ => o_none) (fun w => sl_lo (m := 0) Tryz.underlying34 sz5 rfl (Nat.zero_le _))) (wanted_none rfl) rfl rfl (by kernel_rfl) (fun _ _ _ h => h) ?_; clear S a; intro a S
  rw [cutAt_off, show offAt 0 c 0 = 0 by unfold offAt; split <;> rfl, Nat.sub_zero, Nat.sub_zero] at S
  refine d_pure (i := 12) #[true, true, true, true, true, true, true, true, true, true, true, true, true, false, true, false, false, false, false, false] S rfl (p_fieldAddr rfl (fun w => fa38_1 w _ _)) (wanted_none rfl) rfl rfl (by kernel_rfl) (fun _ _ _ h => h) ?_; clear S a; intro a S
  refine d_read (i := 13) #[true, true, true, true, true, true, true, true, true, true, true, true, true, true, true, false, false, false, false, false] S H rfl (r_load rfl List.mem_cons_self rfl (fun w hc => ld1 ag3 hc)) (wanted_none rfl) rfl rfl (by kernel_rfl) (fun _ _ _ h => h) ?_; clear S a; intro a S
  refine d_pure (i := 15) #[true, true, true, true, true, true, true, true, true, true, true, true, true, true, true, true, false, false, false, false] S rfl (p_add (r := (n : Int)) rfl rfl (by rw [Int.zero_add]; exact IntWalk.i64_in _ (by omega))) (wanted_none rfl) rfl rfl (by kernel_rfl) (fun _ _ _ h => h) ?_; clear S a; intro a S
  have hcon := li.grow_row H (List.mem_cons_of_mem _ List.mem_cons_self) hc hlc hrow hn0 hlim (by omega)
  refine d_call_last (i := 16) #[true, true, true, true, true, true, true, true, true, true, true, true, true, true, true, true, true, false, false, false] S rfl rfl rfl Tryz.func161 rfl rfl hcon (wanted_none rfl) rfl rfl (by kernel_rfl) rfl ?_
  rintro e w ⟨gm, c2, cm, rfl, hH, hcm, hr2, hc2, hc3⟩
  refine ⟨_, rfl, ?_⟩; clear S a; intro a S; clear H hcon; have H := hH; clear hH
  refine d_mv [17] #[true, true, true, true, true, true, true, true, true, true, true, true, true, true, true, true, true, true, false, false] S rfl (by kernel_rfl) (fun _ _ _ _ _ h => h) ?_; clear S a; intro a S
  refine d_pure (i := 18) #[true, true, true, true, true, true, true, true, true, true, true, true, true, true, true, true, true, true, true, false] S rfl (p_fieldAddr rfl (fun w => fa38_0 w _ _)) (wanted_none rfl) rfl rfl (by kernel_rfl) (fun _ _ _ h => h) ?_; clear S a; intro a S
  refine d_store (i := 19) #[true, true, true, true, true, true, true, true, true, true, true, true, true, true, true, true, true, true, true, true] S H rfl rfl rfl rfl (.there .here) (by first | decide | simp [Value.cells]) (fun w u hc hz => st1 sz34 rfl hc hz) (wanted_none rfl) rfl (by kernel_rfl) rfl ?_; clear S a H; intro w a H S
  refine d_done (by kernel_rfl) ?_
  refine e_then ?_
  refine wp_seq ?_
  refine c_region ?_
  refine l_mv 2 S rfl ?_; clear S a; intro a S
  refine l_pure S (p_fieldAddr rfl (fun w => fa38_1 w _ _)) rfl rfl rfl ?_; clear S a; intro a S
  refine l_store S H rfl rfl rfl (.there .here) (by first | decide | simp [Value.cells]) (fun w u hc hz => st1 sz3 rfl hc hz) rfl rfl ?_; clear S a H; intro w a H S
  refine l_nil ?_
  refine e_then ?_
  refine wp_seq ?_
  refine c_region ?_
  refine l_mv 3 S rfl ?_; clear S a; intro a S
  refine l_pure S (p_fieldAddr rfl (fun w => fa38_0 w _ _)) rfl rfl rfl ?_; clear S a; intro a S
  refine l_read S H (r_load rfl (List.mem_cons_of_mem _ List.mem_cons_self) rfl (fun w hc => ld1 ag34 hc)) rfl rfl rfl ?_; clear S a; intro a S
  refine l_mv 2 S rfl ?_; clear S a; intro a S
  refine l_pure S (p_add rfl rfl (nat_add (x := l.length) (y := n) (by omega))) rfl rfl rfl ?_; clear S a; intro a S
  refine l_pure S (p_slice rfl (fun _ _ => o_none) (o_some rfl) (fun _ _ => o_none) (fun w => sl_hi (m := l.length + n) Tryz.underlying34 sz5 rfl (by omega))) rfl rfl rfl ?_; clear S a; intro a S
  refine l_mv 1 S rfl ?_; clear S a; intro a S
  refine l_pure S (p_fieldAddr rfl (fun w => fa38_0 w _ _)) rfl rfl rfl ?_; clear S a; intro a S
  refine l_store S H rfl rfl rfl (.there .here) (by first | decide | simp [Value.cells]) (fun w u hc hz => st1 sz34 rfl hc hz) rfl rfl ?_; clear S a H; intro w a H S
  refine l_nil ?_
  refine e_then ?_
  refine wp_seq ?_
  refine c_region ?_
  refine l_mv 2 S rfl ?_; clear S a; intro a S
  refine l_nil ?_
  refine e_then ?_
  refine wp_ret ?_
  exact r_ret1 S rfl rfl ⟨gm, c2, cm, rfl, H.pull1.drop3, hcm, by omega, by omega, hr2⟩
 ·
  have c2 := bc2
  have c2 := ne_of_beq_false c2
  refine l_off S rfl rfl rfl rfl bc2 rfl rfl ?_; clear S a; intro a S
  refine l_off S rfl rfl rfl rfl bc2 rfl rfl ?_; clear S a; intro a S
  refine l_off S rfl rfl rfl rfl bc2 rfl rfl ?_; clear S a; intro a S
  refine l_off S rfl rfl rfl rfl bc2 rfl rfl ?_; clear S a; intro a S
  refine l_off S rfl rfl rfl rfl bc2 rfl rfl ?_; clear S a; intro a S
  refine l_pure S (p_pick_f rfl bc2 rfl) rfl rfl rfl ?_; clear S a; intro a S
  refine l_nil ?_
  refine e_then ?_
  refine c_cond (b := false) S rfl (fun h => by cases h) (fun _ => ?_)
  refine wp_skip ?_
  refine e_then ?_
  refine wp_seq ?_
  refine wp_seq ?_
  refine c_region ?_
  refine l_mv 2 S rfl ?_; clear S a; intro a S
  refine l_call S rfl rfl Tryz.func158 rfl rfl (tg_full wb _ B _ b gr n c l H hn0 hlc hno (by omega)) rfl rfl rfl ?_
  rintro e w ⟨rfl, hH⟩
  refine ⟨_, rfl, ?_⟩; clear S a; intro a S
  clear H; have H := hH; clear hH
  refine l_mv 5 S rfl ?_; clear S a; intro a S
  refine l_nil ?_
  refine e_then ?_
  refine wp_seq ?_
  refine c_region ?_
  refine l_mv 1 S rfl ?_; clear S a; intro a S
  refine l_nil ?_
  refine e_then ?_
  refine c_cond (b := false) S rfl (fun h => by cases h) (fun _ => ?_)
  refine wp_skip ?_
  refine e_then ?_
  refine wp_seq ?_
  refine wp_seq ?_
  refine c_region ?_
  refine l_mv 2 S rfl ?_; clear S a; intro a S
  refine l_pure S (p_fieldAddr rfl (fun w => fa38_0 w _ _)) rfl rfl rfl ?_; clear S a; intro a S
  refine l_read S H (r_load rfl List.mem_cons_self rfl (fun w hc => ld1 ag34 hc)) rfl rfl rfl ?_; clear S a; intro a S
  refine l_pure S (p_slnil Tryz.underlying34 rfl rfl) rfl rfl rfl ?_; clear S a; intro a S
  refine l_mv 1 S rfl ?_; clear S a; intro a S
  refine l_off S rfl rfl rfl rfl rfl rfl rfl ?_; clear S a; intro a S
  refine l_off S rfl rfl rfl rfl rfl rfl rfl ?_; clear S a; intro a S
  refine l_pure S (p_pick_f rfl rfl rfl) rfl rfl rfl ?_; clear S a; intro a S
  refine l_nil ?_
  refine e_then ?_
  refine c_cond (b := false) S rfl (fun h => by cases h) (fun _ => ?_)
  refine wp_skip ?_
  refine e_then ?_
  refine wp_seq ?_
  refine c_region ?_
  refine l_mv 2 S rfl ?_; clear S a; intro a S
  refine l_pure S (p_fieldAddr rfl (fun w => fa38_0 w _ _)) rfl rfl rfl ?_; clear S a; intro a S
  refine l_read S H (r_load rfl List.mem_cons_self rfl (fun w hc => ld1 ag34 hc)) rfl rfl rfl ?_; clear S a; intro a S
  refine l_pure S (p_cap Tryz.underlying34 rfl) rfl rfl rfl ?_; clear S a; intro a S
  refine l_mv 1 S rfl ?_; clear S a; intro a S
  refine l_nil ?_
  refine e_then ?_
  refine wp_seq ?_
  refine wp_seq ?_
  refine c_region ?_
  refine l_mv 2 S rfl ?_; clear S a; intro a S
  refine l_pure S (p_quo (r := ((c / 2 : Nat) : Int)) rfl rfl (by decide) (by first | decide | exact nat_quo c 2 (by omega))) rfl rfl rfl ?_; clear S a; intro a S
  refine l_mv 1 S rfl ?_; clear S a; intro a S
  refine l_pure S (p_sub (r := ((c / 2 : Nat) : Int) - (l.length : Int)) rfl rfl (IntWalk.i64_in _ (by omega))) rfl rfl rfl ?_; clear S a; intro a S
  refine l_pure S (p_leq rfl rfl) rfl rfl rfl ?_; clear S a; intro a S
  refine l_nil ?_
  refine e_then ?_
  refine c_cond S rfl (fun h => by rw [(decide_eq_false (by omega))] at h; cases h) (fun _ => ?_)
  refine wp_seq ?_
  refine c_region ?_
  refine l_mv 2 S rfl ?_; clear S a; intro a S
  refine l_pure S (p_sub (r := 9223372036854775807 - (c : Int)) rfl rfl (IntWalk.i64_in _ (by omega))) rfl rfl rfl ?_; clear S a; intro a S
  refine l_mv 1 S rfl ?_; clear S a; intro a S
  refine l_pure S (p_sub (r := 9223372036854775807 - (c : Int) - (n : Int)) rfl rfl (IntWalk.i64_in _ (by omega))) rfl rfl rfl ?_; clear S a; intro a S
  refine l_pure S (p_gtr rfl rfl) rfl rfl rfl ?_; clear S a; intro a S
  refine l_nil ?_
  refine e_then ?_
  refine c_cond S rfl (fun h => by rw [(decide_eq_false (by omega))] at h; cases h) (fun _ => ?_)
  refine d_start (id := 15) [16, 19] 20 #[false, false, false, false, false, false, false, false, false, false, false, false, false, false, false, false, false, false, false, false] H rfl rfl rfl (fun w H => ?_)
  refine d_mv [0, 1, 2, 5, 6, 10, 11, 14] #[true, true, true, false, false, true, true, false, false, false, true, true, false, false, true, false, false, false, false, false] S rfl (by kernel_rfl) (fun _ _ _ _ _ h => h) ?_; clear S a; intro a S
  refine d_pure (i := 3) #[true, true, true, true, false, true, true, false, false, false, true, true, false, false, true, false, false, false, false, false] S rfl (p_fieldAddr rfl (fun w => fa38_0 w _ _)) (wanted_none rfl) rfl rfl (by kernel_rfl) (fun _ _ _ h => h) ?_; clear S a; intro a S
  refine d_read (i := 4) #[true, true, true, true, true, true, true, false, false, false, true, true, false, false, true, false, false, false, false, false] S H rfl (r_load rfl List.mem_cons_self rfl (fun w hc => ld1 ag34 hc)) (wanted_none rfl) rfl rfl (by kernel_rfl) (fun _ _ _ h => h) ?_; clear S a; intro a S
  refine d_pure (i := 7) #[true, true, true, true, true, true, true, true, false, false, true, true, false, false, true, false, false, false, false, false] S rfl (p_fieldAddr rfl (fun w => fa38_1 w _ _)) (wanted_none rfl) rfl rfl (by kernel_rfl) (fun _ _ _ h => h) ?_; clear S a; intro a S
  refine d_read (i := 8) #[true, true, true, true, true, true, true, true, true, false, true, true, false, false, true, false, false, false, false, false] S H rfl (r_load rfl List.mem_cons_self rfl (fun w hc => ld1 ag3 hc)) (wanted_none rfl) rfl rfl (by kernel_rfl) (fun _ _ _ h => h) ?_; clear S a; intro a S
  refine d_pure (i := 9) #[true, true, true, true, true, true, true, true, true, true, true, true, false, false, true, false, false, false, false, false] S rfl (p_slice rfl (o_some rfl) (fun _ _ => o_none) (fun _ _ => o_none) (fun w => sl_lo (m := 0) Tryz.underlying34 sz5 rfl (Nat.zero_le _))) (wanted_none rfl) rfl rfl (by kernel_rfl) (fun _ _ _ h => h) ?_; clear S a; intro a S
  rw [cutAt_off, show offAt 0 c 0 = 0 by unfold offAt; split <;> rfl, Nat.sub_zero, Nat.sub_zero] at S
  refine d_pure (i := 12) #[true, true, true, true, true, true, true, true, true, true, true, true, true, false, true, false, false, false, false, false] S rfl (p_fieldAddr rfl (fun w => fa38_1 w _ _)) (wanted_none rfl) rfl rfl (by kernel_rfl) (fun _ _ _ h => h) ?_; clear S a; intro a S
  refine d_read (i := 13) #[true, true, true, true, true, true, true, true, true, true, true, true, true, true, true, false, false, false, false, false] S H rfl (r_load rfl List.mem_cons_self rfl (fun w hc => ld1 ag3 hc)) (wanted_none rfl) rfl rfl (by kernel_rfl) (fun _ _ _ h => h) ?_; clear S a; intro a S
  refine d_pure (i := 15) #[true, true, true, true, true, true, true, true, true, true, true, true, true, true, true, true, false, false, false, false] S rfl (p_add (r := (n : Int)) rfl rfl (by rw [Int.zero_add]; exact IntWalk.i64_in _ (by omega))) (wanted_none rfl) rfl rfl (by kernel_rfl) (fun _ _ _ h => h) ?_; clear S a; intro a S
  have hcon := li.grow_row H (List.mem_cons_of_mem _ List.mem_cons_self) hc hlc hrow hn0 hlim (by omega)
  refine d_call_last (i := 16) #[true, true, true, true, true, true, true, true, true, true, true, true, true, true, true, true, true, false, false, false] S rfl rfl rfl Tryz.func161 rfl rfl hcon (wanted_none rfl) rfl rfl (by kernel_rfl) rfl ?_
  rintro e w ⟨gm, c2, cm, rfl, hH, hcm, hr2, hc2, hc3⟩
  refine ⟨_, rfl, ?_⟩; clear S a; intro a S; clear H hcon; have H := hH; clear hH
  refine d_mv [17] #[true, true, true, true, true, true, true, true, true, true, true, true, true, true, true, true, true, true, false, false] S rfl (by kernel_rfl) (fun _ _ _ _ _ h => h) ?_; clear S a; intro a S
  refine d_pure (i := 18) #[true, true, true, true, true, true, true, true, true, true, true, true, true, true, true, true, true, true, true, false] S rfl (p_fieldAddr rfl (fun w => fa38_0 w _ _)) (wanted_none rfl) rfl rfl (by kernel_rfl) (fun _ _ _ h => h) ?_; clear S a; intro a S
  refine d_store (i := 19) #[true, true, true, true, true, true, true, true, true, true, true, true, true, true, true, true, true, true, true, true] S H rfl rfl rfl rfl (.there .here) (by first | decide | simp [Value.cells]) (fun w u hc hz => st1 sz34 rfl hc hz) (wanted_none rfl) rfl (by kernel_rfl) rfl ?_; clear S a H; intro w a H S
  refine d_done (by kernel_rfl) ?_
  refine e_then ?_
  refine wp_seq ?_
  refine c_region ?_
  refine l_mv 2 S rfl ?_; clear S a; intro a S
  refine l_pure S (p_fieldAddr rfl (fun w => fa38_1 w _ _)) rfl rfl rfl ?_; clear S a; intro a S
  refine l_store S H rfl rfl rfl (.there .here) (by first | decide | simp [Value.cells]) (fun w u hc hz => st1 sz3 rfl hc hz) rfl rfl ?_; clear S a H; intro w a H S
  refine l_nil ?_
  refine e_then ?_
  refine wp_seq ?_
  refine c_region ?_
  refine l_mv 3 S rfl ?_; clear S a; intro a S
  refine l_pure S (p_fieldAddr rfl (fun w => fa38_0 w _ _)) rfl rfl rfl ?_; clear S a; intro a S
  refine l_read S H (r_load rfl (List.mem_cons_of_mem _ List.mem_cons_self) rfl (fun w hc => ld1 ag34 hc)) rfl rfl rfl ?_; clear S a; intro a S
  refine l_mv 2 S rfl ?_; clear S a; intro a S
  refine l_pure S (p_add rfl rfl (nat_add (x := l.length) (y := n) (by omega))) rfl rfl rfl ?_; clear S a; intro a S
  refine l_pure S (p_slice rfl (fun _ _ => o_none) (o_some rfl) (fun _ _ => o_none) (fun w => sl_hi (m := l.length + n) Tryz.underlying34 sz5 rfl (by omega))) rfl rfl rfl ?_; clear S a; intro a S
  refine l_mv 1 S rfl ?_; clear S a; intro a S
  refine l_pure S (p_fieldAddr rfl (fun w => fa38_0 w _ _)) rfl rfl rfl ?_; clear S a; intro a S
  refine l_store S H rfl rfl rfl (.there .here) (by first | decide | simp [Value.cells]) (fun w u hc hz => st1 sz34 rfl hc hz) rfl rfl ?_; clear S a H; intro w a H S
  refine l_nil ?_
  refine e_then ?_
  refine wp_seq ?_
  refine c_region ?_
  refine l_mv 2 S rfl ?_; clear S a; intro a S
  refine l_nil ?_
  refine e_then ?_
  refine wp_ret ?_
  exact r_ret1 S rfl rfl ⟨gm, c2, cm, rfl, H.pull1.drop3, hcm, by omega, by omega, hr2⟩
set_option maxHeartbeats 1000000 in
theorem write_nil (wb w0 : World) (B : Nat) (L0 : dc.Bk) (b : Nat) (gs os cp : Nat) (css : Array Value) (fs : Nat × Nat) (r : List Int) (hm : (gs, Obj.cells css 5 fs) ∈ L0) (hsr : bf.Row css os r) (hn0 : 0 < r.length) (H : HH B wb w0 ((b, .cells #[(.slice none 0 0), .int .i64 0, .int .i8 0] 38 (0, 0)) :: L0)) (hlim : 0 + r.length ≤ 140737488355328) : Calls Tryz.prog 157 #[.pointer (some ⟨b, 0, none⟩), .slice (some ⟨gs, os, none⟩) r.length cp] w0 fun e w' => e = .returned (.tuple #[.int .i64 (r.length : Int), .nilIface]) ∧ ∃ (g' c' : Nat) (cs' : Array Value), HH B wb w' ((b, .cells #[(.slice (some ⟨g', 0, none⟩) ([] ++ r).length c'), .int .i64 0, .int .i8 0] 38 (0, 0)) :: (g', .cells cs' 5 (0, 0)) :: L0) ∧ cs'.size = c' ∧ ([] ++ r).length ≤ c' ∧ c' ≤ 9223372036854775807 ∧ bf.Row cs' 0 ([] ++ r) := by
 refine c_enter (args := [.pointer (some ⟨b, 0, none⟩), .slice (some ⟨gs, os, none⟩) r.length cp]) (k := 30) Tryz.func157 rfl rfl rfl (fun a S => ?_)
 refine wp_seq ?_
 refine c_region ?_
 refine l_mv 2 S rfl ?_; clear S a; intro a S
 refine l_nil ?_
 refine e_then ?_
 refine wp_seq ?_
 refine c_region ?_
 refine l_mv 2 S rfl ?_; clear S a; intro a S
 refine l_pure S (p_fieldAddr rfl (fun w => fa38_2 w _ _)) rfl rfl rfl ?_; clear S a; intro a S
 refine l_store S H rfl rfl rfl .here (by first | decide | simp [Value.cells]) (fun w u hc hz => st1 sz36 rfl hc hz) rfl rfl ?_; clear S a H; intro w a H S
 refine l_nil ?_
 refine e_then ?_
 refine wp_seq ?_
 refine c_region ?_
 refine l_mv 2 S rfl ?_; clear S a; intro a S
 refine l_pure S (p_len Tryz.underlying34 rfl) rfl rfl rfl ?_; clear S a; intro a S
 refine l_call S rfl rfl Tryz.func158 rfl rfl (tg_nil wb _ B _ b r.length H hn0) rfl rfl rfl ?_
 rintro e w ⟨rfl, hH⟩
 refine ⟨_, rfl, ?_⟩; clear S a; intro a S
 clear H; have H := hH; clear hH
 refine l_mv 5 S rfl ?_; clear S a; intro a S
 refine l_nil ?_
 refine e_then ?_
 refine wp_seq ?_
 refine wp_seq ?_
 refine c_region ?_
 refine l_mv 1 S rfl ?_; clear S a; intro a S
 refine l_pure S (p_not rfl) rfl rfl rfl ?_; clear S a; intro a S
 refine l_nil ?_
 refine e_then ?_
 refine c_cond (b := true) S rfl (fun _ => ?_) (fun h => by cases h)
 refine c_region ?_
 refine l_mv 2 S rfl ?_; clear S a; intro a S
 refine l_pure S (p_len Tryz.underlying34 rfl) rfl rfl rfl ?_; clear S a; intro a S
 refine l_call S rfl rfl Tryz.func159 rfl rfl (grow_nil wb _ B _ b r.length H hn0 (by omega)) rfl rfl rfl ?_
 rintro e w ⟨gm, c2, cm, rfl, hH, hcm, hc2, hc3, hr2⟩
 refine ⟨_, rfl, ?_⟩; clear S a; intro a S
 clear H; have H := hH; clear hH
 refine l_mv 1 S rfl ?_; clear S a; intro a S
 refine l_nil ?_
 refine e_then ?_
 refine wp_seq ?_
 refine c_region ?_
 refine l_mv 2 S rfl ?_; clear S a; intro a S
 refine l_pure S (p_fieldAddr rfl (fun w => fa38_0 w _ _)) rfl rfl rfl ?_; clear S a; intro a S
 refine l_read S H (r_load rfl List.mem_cons_self rfl (fun w hc => ld1 ag34 hc)) rfl rfl rfl ?_; clear S a; intro a S
 refine l_mv 1 S rfl ?_; clear S a; intro a S
 refine l_pure S (p_slice rfl (o_some rfl) (fun _ _ => o_none) (fun _ _ => o_none) (fun w => sl_lo (m := 0) Tryz.underlying34 sz5 rfl (by omega))) rfl rfl rfl ?_; clear S a; intro a S
 rw [cutAt_off, show offAt 0 c2 0 = 0 by unfold offAt; rw [if_neg (by omega), Nat.zero_add], Nat.sub_zero] at S
 refine l_mv 1 S rfl ?_; clear S a; intro a S
 refine l_copy (k := r.length) S H rfl rfl rfl Tryz.underlying34 sz5 (rp.row_first H (List.mem_cons_of_mem _ (List.mem_cons_of_mem _ hm)) hsr) (by omega) (Nat.min_self _) (.there .here) rfl rfl rfl ?_; clear S a H; intro w a H S
 rw [List.take_of_length_le (by rw [List.length_map]; exact Nat.le_refl _)] at H
 refine l_mv 2 S rfl ?_; clear S a; intro a S
 refine l_nil ?_
 refine e_then ?_
 refine wp_ret ?_
 exact r_ret2 S rfl rfl rfl ⟨rfl, gm, c2, _, H, by rw [spl_size]; omega, by simp only [List.nil_append]; omega, by omega, by have := rp.row_add hr2 (t := r) (by simp only [List.length_nil]; omega); exact this⟩
set_option maxHeartbeats 1000000 in
theorem write_room (wb w0 : World) (B : Nat) (L0 : dc.Bk) (b gr c : Nat) (cs : Array Value) (l : List Int) (gs os cp : Nat) (css : Array Value) (fs : Nat × Nat) (r : List Int) (hm : (gs, Obj.cells css 5 fs) ∈ L0) (hsr : bf.Row css os r) (hn0 : 0 < r.length) (H : HH B wb w0 ((b, .cells #[(.slice (some ⟨gr, 0, none⟩) l.length c), .int .i64 0, .int .i8 0] 38 (0, 0)) :: (gr, .cells cs 5 (0, 0)) :: L0)) (hc : cs.size = c) (hlc : l.length ≤ c) (hrow : bf.Row cs 0 l) (hcb : c ≤ 9223372036854775807) (hno : r.length ≤ c - l.length) (hlim : l.length + r.length ≤ 140737488355328) : Calls Tryz.prog 157 #[.pointer (some ⟨b, 0, none⟩), .slice (some ⟨gs, os, none⟩) r.length cp] w0 fun e w' => e = .returned (.tuple #[.int .i64 (r.length : Int), .nilIface]) ∧ ∃ (g' c' : Nat) (cs' : Array Value), HH B wb w' ((b, .cells #[(.slice (some ⟨g', 0, none⟩) (l ++ r).length c'), .int .i64 0, .int .i8 0] 38 (0, 0)) :: (g', .cells cs' 5 (0, 0)) :: L0) ∧ cs'.size = c' ∧ (l ++ r).length ≤ c' ∧ c' ≤ 9223372036854775807 ∧ bf.Row cs' 0 (l ++ r) := by
 refine c_enter (args := [.pointer (some ⟨b, 0, none⟩), .slice (some ⟨gs, os, none⟩) r.length cp]) (k := 30) Tryz.func157 rfl rfl rfl (fun a S => ?_)
 refine wp_seq ?_
 refine c_region ?_
 refine l_mv 2 S rfl ?_; clear S a; intro a S
 refine l_nil ?_
 refine e_then ?_
 refine wp_seq ?_
 refine c_region ?_
 refine l_mv 2 S rfl ?_; clear S a; intro a S
 refine l_pure S (p_fieldAddr rfl (fun w => fa38_2 w _ _)) rfl rfl rfl ?_; clear S a; intro a S
 refine l_store S H rfl rfl rfl .here (by first | decide | simp [Value.cells]) (fun w u hc hz => st1 sz36 rfl hc hz) rfl rfl ?_; clear S a H; intro w a H S
 refine l_nil ?_
 refine e_then ?_
 refine wp_seq ?_
 refine c_region ?_
 refine l_mv 2 S rfl ?_; clear S a; intro a S
 refine l_pure S (p_len Tryz.underlying34 rfl) rfl rfl rfl ?_; clear S a; intro a S
 refine l_call S rfl rfl Tryz.func158 rfl rfl (tg_room wb _ B _ b gr r.length c l H hn0 hlc hno hcb) rfl rfl rfl ?_
 rintro e w ⟨rfl, hH⟩
 refine ⟨_, rfl, ?_⟩; clear S a; intro a S
 clear H; have H := hH; clear hH
 refine l_mv 5 S rfl ?_; clear S a; intro a S
 refine l_nil ?_
 refine e_then ?_
 refine wp_seq ?_
 refine wp_seq ?_
 refine c_region ?_
 refine l_mv 1 S rfl ?_; clear S a; intro a S
 refine l_pure S (p_not rfl) rfl rfl rfl ?_; clear S a; intro a S
 refine l_nil ?_
 refine e_then ?_
 refine c_cond (b := false) S rfl (fun h => by cases h) (fun _ => ?_)
 refine wp_skip ?_
 refine e_then ?_
 refine wp_seq ?_
 refine c_region ?_
 refine l_mv 2 S rfl ?_; clear S a; intro a S
 refine l_pure S (p_fieldAddr rfl (fun w => fa38_0 w _ _)) rfl rfl rfl ?_; clear S a; intro a S
 refine l_read S H (r_load rfl List.mem_cons_self rfl (fun w hc => ld1 ag34 hc)) rfl rfl rfl ?_; clear S a; intro a S
 refine l_mv 1 S rfl ?_; clear S a; intro a S
 refine l_pure S (p_slice rfl (o_some rfl) (fun _ _ => o_none) (fun _ _ => o_none) (fun w => sl_lo (m := l.length) Tryz.underlying34 sz5 rfl (by omega))) rfl rfl rfl ?_; clear S a; intro a S
 rw [cutAt_off, show offAt 0 c l.length = l.length by unfold offAt; rw [if_neg (by omega), Nat.zero_add], show l.length + r.length - l.length = r.length by omega] at S
 refine l_mv 1 S rfl ?_; clear S a; intro a S
 refine l_copy (k := r.length) S H rfl rfl rfl Tryz.underlying34 sz5 (rp.row_first H (List.mem_cons_of_mem _ (List.mem_cons_of_mem _ hm)) hsr) (by omega) (Nat.min_self _) (.there .here) rfl rfl rfl ?_; clear S a H; intro w a H S
 rw [List.take_of_length_le (by rw [List.length_map]; exact Nat.le_refl _)] at H
 refine l_mv 2 S rfl ?_; clear S a; intro a S
 refine l_nil ?_
 refine e_then ?_
 refine wp_ret ?_
 rw [← List.length_append] at H
 exact r_ret2 S rfl rfl rfl ⟨rfl, gr, c, _, H, by rw [spl_size]; omega, by rw [List.length_append]; omega, by omega, rp.row_add hrow (by omega)⟩
set_option maxHeartbeats 1000000 in
theorem write_full (wb w0 : World) (B : Nat) (L0 : dc.Bk) (b gr c : Nat) (cs : Array Value) (l : List Int) (gs os cp : Nat) (css : Array Value) (fs : Nat × Nat) (r : List Int) (hm : (gs, Obj.cells css 5 fs) ∈ L0) (hsr : bf.Row css os r) (hn0 : 0 < r.length) (H : HH B wb w0 ((b, .cells #[(.slice (some ⟨gr, 0, none⟩) l.length c), .int .i64 0, .int .i8 0] 38 (0, 0)) :: (gr, .cells cs 5 (0, 0)) :: L0)) (hc : cs.size = c) (hlc : l.length ≤ c) (hrow : bf.Row cs 0 l) (hcb : c ≤ 9223372036854775807) (hno : c - l.length < r.length) (hlim : l.length + r.length ≤ 140737488355328) : Calls Tryz.prog 157 #[.pointer (some ⟨b, 0, none⟩), .slice (some ⟨gs, os, none⟩) r.length cp] w0 fun e w' => e = .returned (.tuple #[.int .i64 (r.length : Int), .nilIface]) ∧ ∃ (g' c' : Nat) (cs' : Array Value), HH B wb w' ((b, .cells #[(.slice (some ⟨g', 0, none⟩) (l ++ r).length c'), .int .i64 0, .int .i8 0] 38 (0, 0)) :: (g', .cells cs' 5 (0, 0)) :: L0) ∧ cs'.size = c' ∧ (l ++ r).length ≤ c' ∧ c' ≤ 9223372036854775807 ∧ bf.Row cs' 0 (l ++ r) := by
 refine c_enter (args := [.pointer (some ⟨b, 0, none⟩), .slice (some ⟨gs, os, none⟩) r.length cp]) (k := 30) Tryz.func157 rfl rfl rfl (fun a S => ?_)
 refine wp_seq ?_
 refine c_region ?_
 refine l_mv 2 S rfl ?_; clear S a; intro a S
 refine l_nil ?_
 refine e_then ?_
 refine wp_seq ?_
 refine c_region ?_
 refine l_mv 2 S rfl ?_; clear S a; intro a S
 refine l_pure S (p_fieldAddr rfl (fun w => fa38_2 w _ _)) rfl rfl rfl ?_; clear S a; intro a S
 refine l_store S H rfl rfl rfl .here (by first | decide | simp [Value.cells]) (fun w u hc hz => st1 sz36 rfl hc hz) rfl rfl ?_; clear S a H; intro w a H S
 refine l_nil ?_
 refine e_then ?_
 refine wp_seq ?_
 refine c_region ?_
 refine l_mv 2 S rfl ?_; clear S a; intro a S
 refine l_pure S (p_len Tryz.underlying34 rfl) rfl rfl rfl ?_; clear S a; intro a S
 refine l_call S rfl rfl Tryz.func158 rfl rfl (tg_full wb _ B _ b gr r.length c l H hn0 hlc hno hcb) rfl rfl rfl ?_
 rintro e w ⟨rfl, hH⟩
 refine ⟨_, rfl, ?_⟩; clear S a; intro a S
 clear H; have H := hH; clear hH
 refine l_mv 5 S rfl ?_; clear S a; intro a S
 refine l_nil ?_
 refine e_then ?_
 refine wp_seq ?_
 refine wp_seq ?_
 refine c_region ?_
 refine l_mv 1 S rfl ?_; clear S a; intro a S
 refine l_pure S (p_not rfl) rfl rfl rfl ?_; clear S a; intro a S
 refine l_nil ?_
 refine e_then ?_
 refine c_cond (b := true) S rfl (fun _ => ?_) (fun h => by cases h)
 refine c_region ?_
 refine l_mv 2 S rfl ?_; clear S a; intro a S
 refine l_pure S (p_len Tryz.underlying34 rfl) rfl rfl rfl ?_; clear S a; intro a S
 refine l_call S rfl rfl Tryz.func159 rfl rfl (grow_row wb _ B _ b gr r.length c cs l H hn0 hc hlc hrow hno (by omega)) rfl rfl rfl ?_
 rintro e w ⟨gm, c2, cm, rfl, hH, hcm, hc2, hc3, hr2⟩
 refine ⟨_, rfl, ?_⟩; clear S a; intro a S
 clear H; have H := hH; clear hH
 refine l_mv 1 S rfl ?_; clear S a; intro a S
 refine l_nil ?_
 refine e_then ?_
 refine wp_seq ?_
 refine c_region ?_
 refine l_mv 2 S rfl ?_; clear S a; intro a S
 refine l_pure S (p_fieldAddr rfl (fun w => fa38_0 w _ _)) rfl rfl rfl ?_; clear S a; intro a S
 refine l_read S H (r_load rfl List.mem_cons_self rfl (fun w hc => ld1 ag34 hc)) rfl rfl rfl ?_; clear S a; intro a S
 refine l_mv 1 S rfl ?_; clear S a; intro a S
 refine l_pure S (p_slice rfl (o_some rfl) (fun _ _ => o_none) (fun _ _ => o_none) (fun w => sl_lo (m := l.length) Tryz.underlying34 sz5 rfl (by omega))) rfl rfl rfl ?_; clear S a; intro a S
 rw [cutAt_off, show offAt 0 c2 l.length = l.length by unfold offAt; rw [if_neg (by omega), Nat.zero_add], show l.length + r.length - l.length = r.length by omega] at S
 refine l_mv 1 S rfl ?_; clear S a; intro a S
 refine l_copy (k := r.length) S H rfl rfl rfl Tryz.underlying34 sz5 (rp.row_first H (List.mem_cons_of_mem _ (List.mem_cons_of_mem _ hm)) hsr) (by omega) (Nat.min_self _) (.there .here) rfl rfl rfl ?_; clear S a H; intro w a H S
 rw [List.take_of_length_le (by rw [List.length_map]; exact Nat.le_refl _)] at H
 refine l_mv 2 S rfl ?_; clear S a; intro a S
 refine l_nil ?_
 refine e_then ?_
 refine wp_ret ?_
 rw [← List.length_append] at H
 exact r_ret2 S rfl rfl rfl ⟨rfl, gm, c2, _, H, by rw [spl_size]; omega, by rw [List.length_append]; omega, by omega, rp.row_add hr2 (by omega)⟩
def BufZ (b : Nat) (l : List Int) (ls : dc.Bk) : Prop := (l = [] ∧ ls = [(b, .cells #[(.slice none 0 0), .int .i64 0, .int .i8 0] 38 (0, 0))]) ∨ ∃ (gr c : Nat) (cs : Array Value), ls = [(b, .cells #[(.slice (some ⟨gr, 0, none⟩) l.length c), .int .i64 0, .int .i8 0] 38 (0, 0)), (gr, .cells cs 5 (0, 0))] ∧ cs.size = c ∧ l.length ≤ c ∧ c ≤ 9223372036854775807 ∧ bf.Row cs 0 l
theorem write_ (wb w0 : World) (B : Nat) (L0 : dc.Bk) (b : Nat) (l : List Int) (ls : dc.Bk) (hz : BufZ b l ls) (gs os cp : Nat) (css : Array Value) (fs : Nat × Nat) (r : List Int) (hm : (gs, Obj.cells css 5 fs) ∈ L0) (hsr : bf.Row css os r) (hn0 : 0 < r.length) (H : HH B wb w0 (ls ++ L0)) (hlim : l.length + r.length ≤ 140737488355328) : Calls Tryz.prog 157 #[.pointer (some ⟨b, 0, none⟩), .slice (some ⟨gs, os, none⟩) r.length cp] w0 fun e w' => e = .returned (.tuple #[.int .i64 (r.length : Int), .nilIface]) ∧ ∃ ls', BufZ b (l ++ r) ls' ∧ HH B wb w' (ls' ++ L0) := by
 rcases hz with ⟨rfl, rfl⟩ | ⟨gr, c, cs, rfl, hc, hlc, hcb, hrow⟩
 ·
  refine (write_nil wb w0 B L0 b gs os cp css fs r hm hsr hn0 H (by simpa using hlim)).mono ?_
  rintro e w' ⟨rfl, g', c', cs', hH, h1, h2, h3, h4⟩
  exact ⟨rfl, _, .inr ⟨g', c', cs', rfl, h1, h2, h3, h4⟩, hH⟩
 ·
  rcases Nat.lt_or_ge (c - l.length) r.length with hno | hno
  ·
   refine (write_full wb w0 B L0 b gr c cs l gs os cp css fs r hm hsr hn0 H hc hlc hrow hcb hno hlim).mono ?_
   rintro e w' ⟨rfl, g', c', cs', hH, h1, h2, h3, h4⟩
   exact ⟨rfl, _, .inr ⟨g', c', cs', rfl, h1, h2, h3, h4⟩, hH⟩
  ·
   refine (write_room wb w0 B L0 b gr c cs l gs os cp css fs r hm hsr hn0 H hc hlc hrow hcb hno hlim).mono ?_
   rintro e w' ⟨rfl, g', c', cs', hH, h1, h2, h3, h4⟩
   exact ⟨rfl, _, .inr ⟨g', c', cs', rfl, h1, h2, h3, h4⟩, hH⟩
theorem str_row (wb w0 : World) (B : Nat) (L0 : dc.Bk) (b gr c : Nat) (cs : Array Value) (l : List Int) (H : HH B wb w0 ((b, .cells #[(.slice (some ⟨gr, 0, none⟩) l.length c), .int .i64 0, .int .i8 0] 38 (0, 0)) :: (gr, .cells cs 5 (0, 0)) :: L0)) (hlc : l.length ≤ c) (hrow : bf.Row cs 0 l) (hll : l.length ≤ 9223372036854775807) : Calls Tryz.prog 14 #[.pointer (some ⟨b, 0, none⟩)] w0 fun e w' => e = .returned (.string (strOfNums l)) ∧ HH B wb w' ((b, .cells #[(.slice (some ⟨gr, 0, none⟩) l.length c), .int .i64 0, .int .i8 0] 38 (0, 0)) :: (gr, .cells cs 5 (0, 0)) :: L0) := by
 refine c_enter (args := [.pointer (some ⟨b, 0, none⟩)]) (k := 14) Tryz.func14 rfl rfl rfl (fun a S => ?_)
 refine wp_seq ?_
 refine c_region ?_
 refine l_mv 1 S rfl ?_; clear S a; intro a S
 refine l_nil ?_
 refine e_then ?_
 refine wp_seq ?_
 refine wp_seq ?_
 refine c_region ?_
 refine l_mv 1 S rfl ?_; clear S a; intro a S
 refine l_pure S (p_ptrnil Tryz.underlying46 rfl rfl) rfl rfl rfl ?_; clear S a; intro a S
 refine l_nil ?_
 refine e_then ?_
 refine c_cond (b := false) S rfl (fun h => by cases h) (fun _ => ?_)
 refine wp_skip ?_
 refine e_then ?_
 refine wp_seq ?_
 refine d_start (id := 3) [] 11 #[false, false, false, false, false, false, false, false, false, false, false] H rfl rfl rfl (fun w H => ?_)
 refine d_mv [0, 1, 4, 5] #[true, true, false, false, true, true, false, false, false, false, false] S rfl (by kernel_rfl) (fun _ _ _ _ _ h => h) ?_; clear S a; intro a S
 refine d_pure (i := 2) #[true, true, true, false, true, true, false, false, false, false, false] S rfl (p_fieldAddr rfl (fun w => fa38_0 w _ _)) (wanted_none rfl) rfl rfl (by kernel_rfl) (fun _ _ _ h => h) ?_; clear S a; intro a S
 refine d_read (i := 3) #[true, true, true, true, true, true, false, false, false, false, false] S H rfl (r_load rfl List.mem_cons_self rfl (fun w hc => ld1 ag34 hc)) (wanted_none rfl) rfl rfl (by kernel_rfl) (fun _ _ _ h => h) ?_; clear S a; intro a S
 refine d_pure (i := 6) #[true, true, true, true, true, true, true, false, false, false, false] S rfl (p_fieldAddr rfl (fun w => fa38_1 w _ _)) (wanted_none rfl) rfl rfl (by kernel_rfl) (fun _ _ _ h => h) ?_; clear S a; intro a S
 refine d_read (i := 7) #[true, true, true, true, true, true, true, true, false, false, false] S H rfl (r_load rfl List.mem_cons_self rfl (fun w hc => ld1 ag3 hc)) (wanted_none rfl) rfl rfl (by kernel_rfl) (fun _ _ _ h => h) ?_; clear S a; intro a S
 refine d_pure (i := 8) #[true, true, true, true, true, true, true, true, true, false, false] S rfl (p_slice rfl (o_some rfl) (fun _ _ => o_none) (fun _ _ => o_none) (fun w => sl_lo (m := 0) Tryz.underlying34 sz5 rfl (Nat.zero_le _))) (wanted_none rfl) rfl rfl (by kernel_rfl) (fun _ _ _ h => h) ?_; clear S a; intro a S
 rw [cutAt_off, show offAt 0 c 0 = 0 by unfold offAt; split <;> rfl, Nat.sub_zero, Nat.sub_zero] at S
 refine d_read (i := 9) #[true, true, true, true, true, true, true, true, true, true, false] S H rfl (r_strH rfl Tryz.underlying34 Tryz.underlying5 Tryz.underlying9 (fun w H => RB.C (rp.row_rb H (List.mem_cons_of_mem _ List.mem_cons_self) hrow) (by omega))) (wanted_none rfl) rfl rfl (by kernel_rfl) (fun _ _ _ h => h) ?_; clear S a; intro a S
 refine d_mv [10] #[true, true, true, true, true, true, true, true, true, true, true] S rfl (by kernel_rfl) (fun _ _ _ _ _ h => h) ?_; clear S a; intro a S
 refine d_done (by kernel_rfl) ?_
 refine e_then ?_
 refine wp_ret ?_
 exact r_ret1 S rfl rfl ⟨rfl, H⟩
theorem str_ (wb w0 : World) (B : Nat) (L0 : dc.Bk) (b : Nat) (l : List Int) (ls : dc.Bk) (hz : BufZ b l ls) (hl : 0 < l.length) (H : HH B wb w0 (ls ++ L0)) : Calls Tryz.prog 14 #[.pointer (some ⟨b, 0, none⟩)] w0 fun e w' => e = .returned (.string (strOfNums l)) ∧ HH B wb w' (ls ++ L0) := by
 rcases hz with ⟨rfl, rfl⟩ | ⟨gr, c, cs, rfl, hc, hlc, hcb, hrow⟩
 ·
  simp at hl
 ·
  exact str_row wb w0 B L0 b gr c cs l H hlc hrow (by omega)
end bb
end Go.Proofs.YtfbfmcjjohiikaaGreatDoor.wr
end
section
namespace Go.Proofs.YtfbfmcjjohiikaaGreatDoor.wr
open Go.Proofs.YtfbfmcjjohiikaaGreatDoor.fx
open Go.RowKit Go.Proofs.HHW Go.Proofs.YtfbfmcjjohiikaaGreatDoorW.PrintWords
namespace pl
theorem ag120 : aggB Tryz.prog 120 = some false := by kernel_rfl
theorem ag126 : aggB Tryz.prog 126 = some false := by kernel_rfl
theorem fa122_0 (w : World) (g o : Nat) : (Instr.fieldAt 122 (.pointer (some ⟨g, o, none⟩)) 0).run Tryz.prog w = .ok (.pointer (some ⟨g, o + 0, none⟩)) w := by kernel_rfl
theorem fa122_1 (w : World) (g o : Nat) : (Instr.fieldAt 122 (.pointer (some ⟨g, o, none⟩)) 1).run Tryz.prog w = .ok (.pointer (some ⟨g, o + 1, none⟩)) w := by kernel_rfl
theorem fa122_2 (w : World) (g o : Nat) : (Instr.fieldAt 122 (.pointer (some ⟨g, o, none⟩)) 2).run Tryz.prog w = .ok (.pointer (some ⟨g, o + 2, none⟩)) w := by kernel_rfl
theorem sz120 : szB Tryz.prog 120 = some 1 := by kernel_rfl
theorem sz126 : szB Tryz.prog 126 = some 1 := by kernel_rfl
theorem zv125 : zvB Tryz.prog 125 = some (.agg #[.slice none 0 0]) := by kernel_rfl
theorem zv126 : zvB Tryz.prog 126 = some (.pointer none) := by kernel_rfl
theorem zv34 : zvB Tryz.prog 34 = some (.slice none 0 0) := by kernel_rfl
theorem in126 : (Tryz.prog.info? 126).map (fun i => (i.zero, i.size, i.bytes)) = some (some (.pointer none), 1, 8) := by kernel_rfl
theorem bld102_0_1_2_3_4 (x0_0f : Fn) (x0_0a x0_0b : Array Value) (x1_0f : Fn) (x1_0a x1_0b : Array Value) (x2_0f : Fn) (x2_0a x2_0b : Array Value) (x3_0f : Fn) (x3_0a x3_0b : Array Value) (x4_0f : Fn) (x4_0a x4_0b : Array Value) : Tryz.prog.built 102 [(0, (.func x0_0f x0_0a x0_0b)), (1, (.func x1_0f x1_0a x1_0b)), (2, (.func x2_0f x2_0a x2_0b)), (3, (.func x3_0f x3_0a x3_0b)), (4, (.func x4_0f x4_0a x4_0b))] = some #[.func x0_0f x0_0a x0_0b, .func x1_0f x1_0a x1_0b, .func x2_0f x2_0a x2_0b, .func x3_0f x3_0a x3_0b, .func x4_0f x4_0a x4_0b, .bool false, .bool false] := by kernel_rfl
theorem bld122_1 (x0_0 : Int) : Tryz.prog.built 122 [(1, (.int .i64 x0_0))] = some #[.int .i64 0, .int .i64 x0_0, .slice none 0 0] := by kernel_rfl
theorem nbp_ (wb w0 : World) (B : Nat) (L0 : dc.Bk) (H : HH B wb w0 L0) : Calls Tryz.prog 21 #[.int .i64 10000000] w0 fun e w' => ∃ bp, e = .returned (.pointer (some ⟨bp, 0, none⟩)) ∧ HH B wb w' ((bp, .cells #[.int .i64 0, .int .i64 10000000, .slice none 0 0] 122 (0, 0)) :: L0) := by
 refine c_enter (args := [.int .i64 10000000]) (k := 5) Tryz.func21 rfl rfl rfl (fun a S => ?_)
 refine wp_seq ?_
 refine c_region ?_
 refine l_mv 1 S rfl ?_; clear S a; intro a S
 refine l_nil ?_
 refine e_then ?_
 refine wp_seq ?_
 refine c_region ?_
 refine l_mv 1 S rfl ?_; clear S a; intro a S
 refine l_pure S (p_bld (ps := [(1, .tmp 3)]) rfl (bld122_1 _)) rfl rfl rfl ?_; clear S a; intro a S
 refine l_box (cs := #[.int .i64 0, .int .i64 10000000, .slice none 0 0]) S H rfl rfl (fun w => bx) rfl rfl rfl ?_; clear S a H; intro g1 w a H S
 refine l_mv 1 S rfl ?_; clear S a; intro a S
 refine l_nil ?_
 refine e_then ?_
 refine wp_ret ?_
 exact r_ret1 S rfl rfl ⟨_, rfl, H⟩
theorem nrp_ (wb w0 : World) (B : Nat) (L0 : dc.Bk) (H : HH B wb w0 L0) : Calls Tryz.prog 22 #[] w0 fun e w' => ∃ br, e = .returned (.pointer (some ⟨br, 0, none⟩)) ∧ HH B wb w' L0 := by
 refine c_enter (args := []) (k := 2) Tryz.func22 rfl rfl rfl (fun a S => ?_)
 refine wp_seq ?_
 refine c_region ?_
 refine l_mv 1 S rfl ?_; clear S a; intro a S
 refine l_nil ?_
 refine e_then ?_
 refine wp_seq ?_
 refine c_region ?_
 refine l_alloc (cs := #[.slice none 0 0]) S H rfl (fun w => al zv125) rfl rfl rfl ?_; clear S a H; intro g1 w a H S
 refine l_mv 1 S rfl ?_; clear S a; intro a S
 refine l_nil ?_
 refine e_then ?_
 refine wp_ret ?_
 exact r_ret1 S rfl rfl ⟨_, rfl, H.tail⟩
theorem opts_ (wb w0 : World) (B : Nat) (L0 : dc.Bk) (H : HH B wb w0 L0) : Calls Tryz.prog 13 #[] w0 fun e w' => ∃ go bp br, e = .returned (.pointer (some ⟨go, 0, none⟩)) ∧ HH B wb w' ((go, .cells #[.func (.func 23) #[.pointer (some ⟨bp, 0, none⟩)] #[], .func (.func 24) #[.pointer (some ⟨bp, 0, none⟩)] #[], .func (.func 25) #[.pointer (some ⟨br, 0, none⟩)] #[], .func (.func 26) #[] #[], .func (.func 28) #[] #[], .bool false, .bool false] 102 (0, 0)) :: (bp, .cells #[.int .i64 0, .int .i64 10000000, .slice none 0 0] 122 (0, 0)) :: L0) := by
 refine c_enter (args := []) (k := 13) Tryz.func13 rfl rfl rfl (fun a S => ?_)
 refine wp_seq ?_
 refine c_region ?_
 refine l_mv 1 S rfl ?_; clear S a; intro a S
 refine l_nil ?_
 refine e_then ?_
 refine wp_seq ?_
 refine c_region ?_
 refine l_call S rfl rfl Tryz.func21 rfl rfl (nbp_ wb _ B _ H) rfl rfl rfl ?_
 rintro e w ⟨bp, rfl, hH⟩
 refine ⟨_, rfl, ?_⟩; clear S a; intro a S
 clear H; have H := hH; clear hH
 refine l_mv 1 S rfl ?_; clear S a; intro a S
 refine l_nil ?_
 refine e_then ?_
 refine wp_seq ?_
 refine c_region ?_
 refine l_call S rfl rfl Tryz.func22 rfl rfl (nrp_ wb _ B _ H) rfl rfl rfl ?_
 rintro e w ⟨br, rfl, hH⟩
 refine ⟨_, rfl, ?_⟩; clear S a; intro a S
 clear H; have H := hH; clear hH
 refine l_mv 1 S rfl ?_; clear S a; intro a S
 refine l_nil ?_
 refine e_then ?_
 refine wp_seq ?_
 refine c_region ?_
 refine l_mv 1 S rfl ?_; clear S a; intro a S
 refine l_pure S (p_func rfl rfl) rfl rfl rfl ?_; clear S a; intro a S
 refine l_mv 1 S rfl ?_; clear S a; intro a S
 refine l_pure S (p_func rfl rfl) rfl rfl rfl ?_; clear S a; intro a S
 refine l_mv 1 S rfl ?_; clear S a; intro a S
 refine l_pure S (p_func rfl rfl) rfl rfl rfl ?_; clear S a; intro a S
 refine l_pure S (p_bld (ps := [(0, .tmp 6), (1, .tmp 8), (2, .tmp 10), (3, .func 26), (4, .func 28)]) rfl (bld102_0_1_2_3_4 _ _ _ _ _ _ _ _ _ _ _ _ _ _ _)) rfl rfl rfl ?_; clear S a; intro a S
 refine l_box (cs := #[.func (.func 23) #[.pointer (some ⟨bp, 0, none⟩)] #[], .func (.func 24) #[.pointer (some ⟨bp, 0, none⟩)] #[], .func (.func 25) #[.pointer (some ⟨br, 0, none⟩)] #[], .func (.func 26) #[] #[], .func (.func 28) #[] #[], .bool false, .bool false]) S H rfl rfl (fun w => bx) rfl rfl rfl ?_; clear S a H; intro g1 w a H S
 refine l_mv 1 S rfl ?_; clear S a; intro a S
 refine l_nil ?_
 refine e_then ?_
 refine wp_ret ?_
 exact r_ret1 S rfl rfl ⟨_, bp, br, rfl, H⟩
theorem get0_ (wb w0 : World) (B : Nat) (L0 : dc.Bk) (bp cp : Nat) (n : Int) (Ap : Option Addr) (owr : dc.Bk) (H : HH B wb w0 ((bp, .cells #[.int .i64 n, .int .i64 10000000, .slice Ap 0 cp] 122 (0, 0)) :: (owr ++ L0))) : Calls Tryz.prog 23 #[.pointer (some ⟨bp, 0, none⟩)] w0 fun e w' => ∃ (gb : Nat) (A : Option Addr) (cb : Nat) (ow : dc.Bk), e = .returned (.pointer (some ⟨gb, 0, none⟩)) ∧ OwnB 5 (.slice A ([] : List Int).length cb) [] ow ∧ HH B wb w' ((gb, .cells #[.slice A 0 cb] 34 (0, 0)) :: (ow ++ (((bp, .cells #[.int .i64 n, .int .i64 10000000, .slice Ap 0 cp] 122 (0, 0)) :: owr) ++ L0))) := by
 refine c_enter (args := [.pointer (some ⟨bp, 0, none⟩)]) (k := 38) Tryz.func23 rfl rfl rfl (fun a S => ?_)
 refine wp_seq ?_
 refine c_region ?_
 refine l_mv 1 S rfl ?_; clear S a; intro a S
 refine l_nil ?_
 refine e_then ?_
 refine wp_seq ?_
 refine wp_seq ?_
 refine c_region ?_
 refine l_mv 2 S rfl ?_; clear S a; intro a S
 refine l_pure S (p_fieldAddr rfl (fun w => fa122_2 w _ _)) rfl rfl rfl ?_; clear S a; intro a S
 refine l_read S H (r_load rfl List.mem_cons_self rfl (fun w hc => ld1 ag120 hc)) rfl rfl rfl ?_; clear S a; intro a S
 refine l_pure S (p_len Tryz.underlying120 rfl) rfl rfl rfl ?_; clear S a; intro a S
 refine l_pure S (p_eql rfl rfl) rfl rfl rfl ?_; clear S a; intro a S
 refine l_nil ?_
 refine e_then ?_
 refine c_cond S rfl (fun c2 => ?_) (fun c2 => by have c2 := ne_of_beq_false c2; exfalso; omega)
 have c2 := eq_of_beq c2
 refine wp_seq ?_
 refine c_region ?_
 refine l_make (l := 0) (c := 32) S H rfl rfl rfl Tryz.underlying34 in5 (by omega) (by omega) (by omega) rfl rfl rfl ?_; clear S a H; intro gm cm w a hcm H S
 refine l_alloc (cs := #[.slice none 0 0]) S H rfl (fun w => al zv34) rfl rfl rfl ?_; clear S a H; intro gb w a H S
 refine l_store S H rfl rfl rfl .here (by first | decide | simp [Value.cells]) (fun w u hc hz => st1 sz34 rfl hc hz) rfl rfl ?_; clear S a H; intro w a H S
 refine l_nil ?_
 refine e_then ?_
 refine wp_seq ?_
 refine c_region ?_
 refine l_mv 1 S rfl ?_; clear S a; intro a S
 refine l_nil ?_
 refine e_then ?_
 refine wp_ret ?_
 refine e_then_ret ?_
 exact r_ret1 S rfl rfl ⟨gb, _, _, [(gm, _)], rfl, dc.own_new hcm, H⟩
theorem get1_ (wb w0 : World) (B : Nat) (L0 : dc.Bk) (bp gr gb cp : Nat) (n : Int) (cs : Array Value) (f : Nat × Nat) (h0 : cs[0]? = some (.pointer (some ⟨gb, 0, none⟩))) (h1 : 1 ≤ cp) (H : HH B wb w0 ((bp, .cells #[.int .i64 n, .int .i64 10000000, .slice (some ⟨gr, 0, none⟩) 1 cp] 122 (0, 0)) :: (gr, .cells cs 126 f) :: L0)) : Calls Tryz.prog 23 #[.pointer (some ⟨bp, 0, none⟩)] w0 fun e w' => e = .returned (.pointer (some ⟨gb, 0, none⟩)) ∧ HH B wb w' ((bp, .cells #[.int .i64 n, .int .i64 10000000, .slice (some ⟨gr, 0, none⟩) 0 cp] 122 (0, 0)) :: (gr, .cells cs 126 f) :: L0) := by
 refine c_enter (args := [.pointer (some ⟨bp, 0, none⟩)]) (k := 38) Tryz.func23 rfl rfl rfl (fun a S => ?_)
 refine wp_seq ?_
 refine c_region ?_
 refine l_mv 1 S rfl ?_; clear S a; intro a S
 refine l_nil ?_
 refine e_then ?_
 refine wp_seq ?_
 refine wp_seq ?_
 refine c_region ?_
 refine l_mv 2 S rfl ?_; clear S a; intro a S
 refine l_pure S (p_fieldAddr rfl (fun w => fa122_2 w _ _)) rfl rfl rfl ?_; clear S a; intro a S
 refine l_read S H (r_load rfl List.mem_cons_self rfl (fun w hc => ld1 ag120 hc)) rfl rfl rfl ?_; clear S a; intro a S
 refine l_pure S (p_len Tryz.underlying120 rfl) rfl rfl rfl ?_; clear S a; intro a S
 refine l_pure S (p_eql rfl rfl) rfl rfl rfl ?_; clear S a; intro a S
 refine l_nil ?_
 refine e_then ?_
 refine c_cond S rfl (fun c2 => by have c2 := eq_of_beq c2; exfalso; omega) (fun c2 => ?_)
 have c2 := ne_of_beq_false c2
 refine wp_skip ?_
 refine e_then ?_
 refine wp_seq ?_
 refine d_start (id := 4) [] 13 #[false, false, false, false, false, false, false, false, false, false, false, false, false] H rfl rfl rfl (fun w H => ?_)
 refine d_mv [0, 1, 4, 5] #[true, true, false, false, true, true, false, false, false, false, false, false, false] S rfl (by kernel_rfl) (fun _ _ _ _ _ h => h) ?_; clear S a; intro a S
 refine d_pure (i := 2) #[true, true, true, false, true, true, false, false, false, false, false, false, false] S rfl (p_fieldAddr rfl (fun w => fa122_2 w _ _)) (wanted_none rfl) rfl rfl (by kernel_rfl) (fun _ _ _ h => h) ?_; clear S a; intro a S
 refine d_read (i := 3) #[true, true, true, true, true, true, false, false, false, false, false, false, false] S H rfl (r_load rfl List.mem_cons_self rfl (fun w hc => ld1 ag120 hc)) (wanted_none rfl) rfl rfl (by kernel_rfl) (fun _ _ _ h => h) ?_; clear S a; intro a S
 refine d_pure (i := 6) #[true, true, true, true, true, true, true, false, false, false, false, false, false] S rfl (p_fieldAddr rfl (fun w => fa122_2 w _ _)) (wanted_none rfl) rfl rfl (by kernel_rfl) (fun _ _ _ h => h) ?_; clear S a; intro a S
 refine d_read (i := 7) #[true, true, true, true, true, true, true, true, false, false, false, false, false] S H rfl (r_load rfl List.mem_cons_self rfl (fun w hc => ld1 ag120 hc)) (wanted_none rfl) rfl rfl (by kernel_rfl) (fun _ _ _ h => h) ?_; clear S a; intro a S
 refine d_pure (i := 8) #[true, true, true, true, true, true, true, true, true, false, false, false, false] S rfl (p_len Tryz.underlying120 rfl) (wanted_none rfl) rfl rfl (by kernel_rfl) (fun _ _ _ h => h) ?_; clear S a; intro a S
 refine d_pure (i := 9) #[true, true, true, true, true, true, true, true, true, true, false, false, false] S rfl (p_sub rfl rfl (nat_sub (x := 1) (y := 1) (by omega) (by omega))) (wanted_none rfl) rfl rfl (by kernel_rfl) (fun _ _ _ h => h) ?_; clear S a; intro a S
 refine d_pure (i := 10) #[true, true, true, true, true, true, true, true, true, true, true, false, false] S rfl (p_indexAddr rfl rfl (fun w => ia_slice Tryz.underlying120 sz126 (by omega) (by omega))) (wanted_none rfl) rfl rfl (by kernel_rfl) (fun _ _ _ h => h) ?_; clear S a; intro a S
 refine d_read (i := 11) #[true, true, true, true, true, true, true, true, true, true, true, true, false] S H rfl (r_load (v := .pointer (some ⟨gb, 0, none⟩)) rfl (List.mem_cons_of_mem _ List.mem_cons_self) (by simpa using h0) (fun w hc => ld1 ag126 hc)) (wanted_none rfl) rfl rfl (by kernel_rfl) (fun _ _ _ h => h) ?_; clear S a; intro a S
 refine d_mv [12] #[true, true, true, true, true, true, true, true, true, true, true, true, true] S rfl (by kernel_rfl) (fun _ _ _ _ _ h => h) ?_; clear S a; intro a S
 refine d_done (by kernel_rfl) ?_
 refine e_then ?_
 refine wp_seq ?_
 refine d_start (id := 5) [14] 15 #[false, false, false, false, false, false, false, false, false, false, false, false, false, false, false] H rfl rfl rfl (fun w H => ?_)
 refine d_mv [0, 1, 2, 5, 6] #[true, true, true, false, false, true, true, false, false, false, false, false, false, false, false] S rfl (by kernel_rfl) (fun _ _ _ _ _ h => h) ?_; clear S a; intro a S
 refine d_pure (i := 3) #[true, true, true, true, false, true, true, false, false, false, false, false, false, false, false] S rfl (p_fieldAddr rfl (fun w => fa122_2 w _ _)) (wanted_none rfl) rfl rfl (by kernel_rfl) (fun _ _ _ h => h) ?_; clear S a; intro a S
 refine d_read (i := 4) #[true, true, true, true, true, true, true, false, false, false, false, false, false, false, false] S H rfl (r_load rfl List.mem_cons_self rfl (fun w hc => ld1 ag120 hc)) (wanted_none rfl) rfl rfl (by kernel_rfl) (fun _ _ _ h => h) ?_; clear S a; intro a S
 refine d_pure (i := 7) #[true, true, true, true, true, true, true, true, false, false, false, false, false, false, false] S rfl (p_fieldAddr rfl (fun w => fa122_2 w _ _)) (wanted_none rfl) rfl rfl (by kernel_rfl) (fun _ _ _ h => h) ?_; clear S a; intro a S
 refine d_read (i := 8) #[true, true, true, true, true, true, true, true, true, false, false, false, false, false, false] S H rfl (r_load rfl List.mem_cons_self rfl (fun w hc => ld1 ag120 hc)) (wanted_none rfl) rfl rfl (by kernel_rfl) (fun _ _ _ h => h) ?_; clear S a; intro a S
 refine d_pure (i := 9) #[true, true, true, true, true, true, true, true, true, true, false, false, false, false, false] S rfl (p_len Tryz.underlying120 rfl) (wanted_none rfl) rfl rfl (by kernel_rfl) (fun _ _ _ h => h) ?_; clear S a; intro a S
 refine d_pure (i := 10) #[true, true, true, true, true, true, true, true, true, true, true, false, false, false, false] S rfl (p_sub rfl rfl (nat_sub (x := 1) (y := 1) (by omega) (by omega))) (wanted_none rfl) rfl rfl (by kernel_rfl) (fun _ _ _ h => h) ?_; clear S a; intro a S
 refine d_pure (i := 11) #[true, true, true, true, true, true, true, true, true, true, true, true, false, false, false] S rfl (p_slice rfl (fun _ _ => o_none) (o_some rfl) (fun _ _ => o_none) (fun w => sl_hi (m := 0) Tryz.underlying120 sz126 rfl (Nat.zero_le _))) (wanted_none rfl) rfl rfl (by kernel_rfl) (fun _ _ _ h => h) ?_; clear S a; intro a S
 refine d_mv [12] #[true, true, true, true, true, true, true, true, true, true, true, true, true, false, false] S rfl (by kernel_rfl) (fun _ _ _ _ _ h => h) ?_; clear S a; intro a S
 refine d_pure (i := 13) #[true, true, true, true, true, true, true, true, true, true, true, true, true, true, false] S rfl (p_fieldAddr rfl (fun w => fa122_2 w _ _)) (wanted_none rfl) rfl rfl (by kernel_rfl) (fun _ _ _ h => h) ?_; clear S a; intro a S
 refine d_store (i := 14) #[true, true, true, true, true, true, true, true, true, true, true, true, true, true, true] S H rfl rfl rfl rfl .here (by first | decide | simp [Value.cells]) (fun w u hc hz => st1 sz120 rfl hc hz) (wanted_none rfl) rfl (by kernel_rfl) rfl ?_; clear S a H; intro w a H S
 refine d_done (by kernel_rfl) ?_
 refine e_then ?_
 refine wp_seq ?_
 refine c_region ?_
 refine l_mv 2 S rfl ?_; clear S a; intro a S
 refine l_nil ?_
 refine e_then ?_
 refine wp_ret ?_
 exact r_ret1 S rfl rfl ⟨rfl, H⟩
theorem get_ (wb w0 : World) (B : Nat) (L0 : dc.Bk) (bp : Nat) (po : dc.Bk) (hp : wq.Pool 122 126 34 5 bp po) (H : HH B wb w0 (po ++ L0)) : Calls Tryz.prog 23 #[.pointer (some ⟨bp, 0, none⟩)] w0 fun e w' => ∃ (po' : dc.Bk), wq.Pool0 122 126 bp po' ∧ (∃ (gb : Nat) (A : Option Addr) (cb : Nat) (ow : dc.Bk), e = .returned (.pointer (some ⟨gb, 0, none⟩)) ∧ OwnB 5 (.slice A ([] : List Int).length cb) [] ow ∧ HH B wb w' ((gb, .cells #[.slice A 0 cb] 34 (0, 0)) :: (ow ++ (po' ++ L0)))) := by
 rcases hp with ⟨n, v, owr, ho, rfl⟩ | ⟨n, v, owr, gb, A, cb, ow, ho, hb, rfl⟩
 ·
  obtain ⟨Ap, cp, rfl, _⟩ := ho.slice
  refine (get0_ wb w0 B L0 bp cp n Ap owr H).mono ?_
  rintro e w' ⟨gb, A, cb, ow, he, hb, hH⟩
  exact ⟨_, ⟨n, _, owr, ho, rfl⟩, gb, A, cb, ow, he, hb, hH⟩
 ·
  rcases ho.2 with ⟨_, h0, _⟩ | ⟨gr, cs, c, f, rfl, hc, hcs, rfl, hth, hr⟩
  ·
   omega
  ·
   have h0 := hr 0 (by simp)
   refine (get1_ wb w0 B (((gb, .cells #[.slice A 0 cb] 34 (0, 0)) :: ow) ++ L0) bp gr gb c n cs f (by simpa using h0) hc (HH.app H (by simp))).mono ?_
   rintro e w' ⟨he, hH⟩
   refine ⟨[_, _], ⟨n, _, [_], ⟨rfl, .inr ⟨gr, cs, c, f, rfl, Nat.zero_le _, hcs, rfl, hth, fun j hj => by simp at hj⟩⟩, rfl⟩, gb, A, cb, ow, he, hb, ?_⟩
   have h2 : HH B wb w' ([(bp, .cells #[.int .i64 n, .int .i64 10000000, .slice (some ⟨gr, 0, none⟩) 0 c] 122 (0, 0)), (gr, .cells cs 126 f)] ++ (((gb, .cells #[.slice A 0 cb] 34 (0, 0)) :: ow) ++ L0)) := HH.app hH (by simp)
   exact HH.app h2.front (by simp)
theorem put0_ (wb w0 : World) (B : Nat) (L0 : dc.Bk) (bp gb cp cb m : Nat) (n : Int) (Ap A : Option Addr) (owr owg : dc.Bk) (ho : Own 126 1 (.slice Ap 0 cp) 0 [] owr) (hcut : OwnB 5 (.slice A ([] : List Int).length cb) [] owg) (H : HH B wb w0 ((gb, .cells #[.slice A m cb] 34 (0, 0)) :: (bp, .cells #[.int .i64 n, .int .i64 10000000, .slice Ap 0 cp] 122 (0, 0)) :: (owr ++ (owg ++ L0)))) : CallsD Tryz.prog 24 #[.pointer (some ⟨bp, 0, none⟩), .pointer (some ⟨gb, 0, none⟩)] .returning w0 fun e u' w' => u' = .returning ∧ e = .returned (.tuple #[]) ∧ ∃ po', wq.Pool 122 126 34 5 bp po' ∧ HH B wb w' (po' ++ L0) := by
 refine c_enterD (args := [.pointer (some ⟨bp, 0, none⟩), .pointer (some ⟨gb, 0, none⟩)]) (k := 41) Tryz.func24 rfl rfl rfl (fun a S => ?_)
 refine wp_seq ?_
 refine wp_seq ?_
 refine d_start (id := 0) [11] 12 #[false, false, false, false, false, false, false, false, false, false, false, false] H rfl rfl rfl (fun w H => ?_)
 refine d_mv [0, 1, 4, 5] #[true, true, false, false, true, true, false, false, false, false, false, false] S rfl (by kernel_rfl) (fun _ _ _ _ _ h => h) ?_; clear S a; intro a S
 refine d_pure (i := 2) #[true, true, true, false, true, true, false, false, false, false, false, false] S rfl (p_fieldAddr rfl (fun w => fa122_0 w _ _)) (wanted_none rfl) rfl rfl (by kernel_rfl) (fun _ _ _ h => h) ?_; clear S a; intro a S
 refine d_read (i := 3) #[true, true, true, true, true, true, false, false, false, false, false, false] S H rfl (r_load rfl (List.mem_cons_of_mem _ List.mem_cons_self) rfl (fun w hc => ld1 ag3 hc)) (wanted_none rfl) rfl rfl (by kernel_rfl) (fun _ _ _ h => h) ?_; clear S a; intro a S
 refine d_read (i := 6) #[true, true, true, true, true, true, true, false, false, false, false, false] S H rfl (r_load rfl List.mem_cons_self rfl (fun w hc => ld1 ag34 hc)) (wanted_none rfl) rfl rfl (by kernel_rfl) (fun _ _ _ h => h) ?_; clear S a; intro a S
 refine d_pure (i := 7) #[true, true, true, true, true, true, true, true, false, false, false, false] S rfl (p_cap Tryz.underlying34 rfl) (wanted_none rfl) rfl rfl (by kernel_rfl) (fun _ _ _ h => h) ?_; clear S a; intro a S
 refine d_pure (i := 8) #[true, true, true, true, true, true, true, true, true, false, false, false] S rfl (p_add rfl rfl rfl) (wanted_none rfl) rfl rfl (by kernel_rfl) (fun _ _ _ h => h) ?_; clear S a; intro a S
 refine d_mv [9] #[true, true, true, true, true, true, true, true, true, true, false, false] S rfl (by kernel_rfl) (fun _ _ _ _ _ h => h) ?_; clear S a; intro a S
 refine d_pure (i := 10) #[true, true, true, true, true, true, true, true, true, true, true, false] S rfl (p_fieldAddr rfl (fun w => fa122_0 w _ _)) (wanted_none rfl) rfl rfl (by kernel_rfl) (fun _ _ _ h => h) ?_; clear S a; intro a S
 refine d_store (i := 11) #[true, true, true, true, true, true, true, true, true, true, true, true] S H rfl rfl rfl rfl (.there .here) (by first | decide | simp [Value.cells]) (fun w u hc hz => st1 sz3 rfl hc hz) (wanted_none rfl) rfl (by kernel_rfl) rfl ?_; clear S a H; intro w a H S
 refine d_done (by kernel_rfl) ?_
 refine e_then ?_
 refine wp_seq ?_
 refine d_start (id := 1) [] 9 #[false, false, false, false, false, false, false, false, false] H rfl rfl rfl (fun w H => ?_)
 refine d_mv [0, 1, 4, 5] #[true, true, false, false, true, true, false, false, false] S rfl (by kernel_rfl) (fun _ _ _ _ _ h => h) ?_; clear S a; intro a S
 refine d_pure (i := 2) #[true, true, true, false, true, true, false, false, false] S rfl (p_fieldAddr rfl (fun w => fa122_0 w _ _)) (wanted_none rfl) rfl rfl (by kernel_rfl) (fun _ _ _ h => h) ?_; clear S a; intro a S
 refine d_read (i := 3) #[true, true, true, true, true, true, false, false, false] S H rfl (r_load rfl (List.mem_cons_of_mem _ List.mem_cons_self) rfl (fun w hc => ld1 ag3 hc)) (wanted_none rfl) rfl rfl (by kernel_rfl) (fun _ _ _ h => h) ?_; clear S a; intro a S
 refine d_pure (i := 6) #[true, true, true, true, true, true, true, false, false] S rfl (p_fieldAddr rfl (fun w => fa122_1 w _ _)) (wanted_none rfl) rfl rfl (by kernel_rfl) (fun _ _ _ h => h) ?_; clear S a; intro a S
 refine d_read (i := 7) #[true, true, true, true, true, true, true, true, false] S H rfl (r_load rfl (List.mem_cons_of_mem _ List.mem_cons_self) rfl (fun w hc => ld1 ag3 hc)) (wanted_none rfl) rfl rfl (by kernel_rfl) (fun _ _ _ h => h) ?_; clear S a; intro a S
 refine d_pure (i := 8) #[true, true, true, true, true, true, true, true, true] S rfl (p_gtr rfl rfl) (wanted_none rfl) rfl rfl (by kernel_rfl) (fun _ _ _ h => h) ?_; clear S a; intro a S
 refine d_done (by kernel_rfl) ?_
 refine e_then ?_
 refine c_cond S rfl (fun bc2 => ?_) (fun bc2 => ?_)
 ·
  have c2 := bc2
  have c2 := of_decide_eq_true c2
  refine wp_seq ?_
  refine c_region ?_
  refine l_mv 2 S rfl ?_; clear S a; intro a S
  refine l_pure S (p_fieldAddr rfl (fun w => fa122_0 w _ _)) rfl rfl rfl ?_; clear S a; intro a S
  refine l_store S H rfl rfl rfl (.there .here) (by first | decide | simp [Value.cells]) (fun w u hc hz => st1 sz3 rfl hc hz) rfl rfl ?_; clear S a H; intro w a H S
  refine l_nil ?_
  refine e_then ?_
  refine wp_ret ?_
  refine e_then_ret ?_
  exact r_ret0 S rfl ⟨rfl, _, .inl ⟨0, .slice Ap 0 cp, owr, ho, rfl⟩, H.tail.sub (((List.sublist_append_right owg L0).append_left owr).cons_cons _)⟩
 ·
  have c2 := bc2
  have c2 := of_decide_eq_false c2
  refine wp_skip ?_
  refine e_then ?_
  refine wp_seq ?_
  refine c_region ?_
  refine l_mv 3 S rfl ?_; clear S a; intro a S
  refine l_read S H (r_load rfl List.mem_cons_self rfl (fun w hc => ld1 ag34 hc)) rfl rfl rfl ?_; clear S a; intro a S
  refine l_pure S (p_slice rfl (fun _ _ => o_none) (o_some rfl) (fun _ _ => o_none) (fun w => sl_hi (m := 0) Tryz.underlying34 sz5 rfl (Nat.zero_le _))) rfl rfl rfl ?_; clear S a; intro a S
  refine l_mv 1 S rfl ?_; clear S a; intro a S
  refine l_store S H rfl rfl rfl .here (by first | decide | simp [Value.cells]) (fun w u hc hz => st1 sz34 rfl hc hz) rfl rfl ?_; clear S a H; intro w a H S
  refine l_nil ?_
  refine e_then ?_
  refine c_region ?_
  refine l_mv 3 S rfl ?_; clear S a; intro a S
  refine l_pure S (p_fieldAddr rfl (fun w => fa122_2 w _ _)) rfl rfl rfl ?_; clear S a; intro a S
  refine l_read S H (r_load rfl (List.mem_cons_of_mem _ List.mem_cons_self) rfl (fun w hc => ld1 ag120 hc)) rfl rfl rfl ?_; clear S a; intro a S
  refine l_mv 1 S rfl ?_; clear S a; intro a S
  refine l_lit [.tmp 38] S H rfl rfl Tryz.underlying120 sz126 zv126 rfl rfl (by simp [Value.cells]) rfl rfl rfl ?_; clear S a H; intro gl w a H S
  refine l_own (n := 0) (m := 1) [_, _, _] S (ow := owr) (L := owg ++ L0) H rfl rfl rfl ho (src_lit (c := 1) (vs := [.pointer (some ⟨gb, 0, none⟩)]) H List.mem_cons_self Tryz.underlying120 (by simp [Value.oneCell'])) Tryz.underlying120 in126 rfl (by omega) (by decide) rfl rfl rfl ?_; clear S a H; intro v' owr' w a ho' H S
  obtain ⟨Av, cv, rfl, _⟩ := ho'.slice
  replace H : HH _ _ _ (_ :: _ :: _ :: (owr' ++ (owg ++ L0))) := H
  refine l_mv 1 S rfl ?_; clear S a; intro a S
  refine l_pure S (p_fieldAddr rfl (fun w => fa122_2 w _ _)) rfl rfl rfl ?_; clear S a; intro a S
  refine l_store S H rfl rfl rfl (.there (.there .here)) (by first | decide | simp [Value.cells]) (fun w u hc hz => st1 sz120 rfl hc hz) rfl rfl ?_; clear S a H; intro w a H S
  refine l_nil ?_
  have h2 : HH B wb w ((gl, _) :: (gb, .cells #[.slice A 0 cb] 34 (0, 0)) :: (bp, .cells #[.int .i64 (IntKind.i64.wrap (n + (cb : Int))), .int .i64 10000000, .slice Av 1 cv] 122 (0, 0)) :: (owr' ++ (owg ++ L0))) := H
  exact r_end0 S rfl ⟨rfl, _, .inr ⟨IntKind.i64.wrap (n + (cb : Int)), .slice Av 1 cv, owr', gb, A, cb, owg, ho', hcut, rfl⟩, HH.app h2.tail.poolOut (by simp)⟩
theorem putc0_ (wb w0 : World) (B : Nat) (L0 : dc.Bk) (bp gb cp cb m : Nat) (n : Int) (Ap A : Option Addr) (owr owg : dc.Bk) (ho : Own 126 1 (.slice Ap 0 cp) 0 [] owr) (hcut : OwnB 5 (.slice A ([] : List Int).length cb) [] owg) (H : HH B wb w0 ((gb, .cells #[.slice A m cb] 34 (0, 0)) :: (bp, .cells #[.int .i64 n, .int .i64 10000000, .slice Ap 0 cp] 122 (0, 0)) :: (owr ++ (owg ++ L0)))) : Calls Tryz.prog 24 #[.pointer (some ⟨bp, 0, none⟩), .pointer (some ⟨gb, 0, none⟩)] w0 fun e w' => e = .returned (.tuple #[]) ∧ ∃ po', wq.Pool 122 126 34 5 bp po' ∧ HH B wb w' (po' ++ L0) := by
 refine c_enter (args := [.pointer (some ⟨bp, 0, none⟩), .pointer (some ⟨gb, 0, none⟩)]) (k := 41) Tryz.func24 rfl rfl rfl (fun a S => ?_)
 refine wp_seq ?_
 refine wp_seq ?_
 refine d_start (id := 0) [11] 12 #[false, false, false, false, false, false, false, false, false, false, false, false] H rfl rfl rfl (fun w H => ?_)
 refine d_mv [0, 1, 4, 5] #[true, true, false, false, true, true, false, false, false, false, false, false] S rfl (by kernel_rfl) (fun _ _ _ _ _ h => h) ?_; clear S a; intro a S
 refine d_pure (i := 2) #[true, true, true, false, true, true, false, false, false, false, false, false] S rfl (p_fieldAddr rfl (fun w => fa122_0 w _ _)) (wanted_none rfl) rfl rfl (by kernel_rfl) (fun _ _ _ h => h) ?_; clear S a; intro a S
 refine d_read (i := 3) #[true, true, true, true, true, true, false, false, false, false, false, false] S H rfl (r_load rfl (List.mem_cons_of_mem _ List.mem_cons_self) rfl (fun w hc => ld1 ag3 hc)) (wanted_none rfl) rfl rfl (by kernel_rfl) (fun _ _ _ h => h) ?_; clear S a; intro a S
 refine d_read (i := 6) #[true, true, true, true, true, true, true, false, false, false, false, false] S H rfl (r_load rfl List.mem_cons_self rfl (fun w hc => ld1 ag34 hc)) (wanted_none rfl) rfl rfl (by kernel_rfl) (fun _ _ _ h => h) ?_; clear S a; intro a S
 refine d_pure (i := 7) #[true, true, true, true, true, true, true, true, false, false, false, false] S rfl (p_cap Tryz.underlying34 rfl) (wanted_none rfl) rfl rfl (by kernel_rfl) (fun _ _ _ h => h) ?_; clear S a; intro a S
 refine d_pure (i := 8) #[true, true, true, true, true, true, true, true, true, false, false, false] S rfl (p_add rfl rfl rfl) (wanted_none rfl) rfl rfl (by kernel_rfl) (fun _ _ _ h => h) ?_; clear S a; intro a S
 refine d_mv [9] #[true, true, true, true, true, true, true, true, true, true, false, false] S rfl (by kernel_rfl) (fun _ _ _ _ _ h => h) ?_; clear S a; intro a S
 refine d_pure (i := 10) #[true, true, true, true, true, true, true, true, true, true, true, false] S rfl (p_fieldAddr rfl (fun w => fa122_0 w _ _)) (wanted_none rfl) rfl rfl (by kernel_rfl) (fun _ _ _ h => h) ?_; clear S a; intro a S
 refine d_store (i := 11) #[true, true, true, true, true, true, true, true, true, true, true, true] S H rfl rfl rfl rfl (.there .here) (by first | decide | simp [Value.cells]) (fun w u hc hz => st1 sz3 rfl hc hz) (wanted_none rfl) rfl (by kernel_rfl) rfl ?_; clear S a H; intro w a H S
 refine d_done (by kernel_rfl) ?_
 refine e_then ?_
 refine wp_seq ?_
 refine d_start (id := 1) [] 9 #[false, false, false, false, false, false, false, false, false] H rfl rfl rfl (fun w H => ?_)
 refine d_mv [0, 1, 4, 5] #[true, true, false, false, true, true, false, false, false] S rfl (by kernel_rfl) (fun _ _ _ _ _ h => h) ?_; clear S a; intro a S
 refine d_pure (i := 2) #[true, true, true, false, true, true, false, false, false] S rfl (p_fieldAddr rfl (fun w => fa122_0 w _ _)) (wanted_none rfl) rfl rfl (by kernel_rfl) (fun _ _ _ h => h) ?_; clear S a; intro a S
 refine d_read (i := 3) #[true, true, true, true, true, true, false, false, false] S H rfl (r_load rfl (List.mem_cons_of_mem _ List.mem_cons_self) rfl (fun w hc => ld1 ag3 hc)) (wanted_none rfl) rfl rfl (by kernel_rfl) (fun _ _ _ h => h) ?_; clear S a; intro a S
 refine d_pure (i := 6) #[true, true, true, true, true, true, true, false, false] S rfl (p_fieldAddr rfl (fun w => fa122_1 w _ _)) (wanted_none rfl) rfl rfl (by kernel_rfl) (fun _ _ _ h => h) ?_; clear S a; intro a S
 refine d_read (i := 7) #[true, true, true, true, true, true, true, true, false] S H rfl (r_load rfl (List.mem_cons_of_mem _ List.mem_cons_self) rfl (fun w hc => ld1 ag3 hc)) (wanted_none rfl) rfl rfl (by kernel_rfl) (fun _ _ _ h => h) ?_; clear S a; intro a S
 refine d_pure (i := 8) #[true, true, true, true, true, true, true, true, true] S rfl (p_gtr rfl rfl) (wanted_none rfl) rfl rfl (by kernel_rfl) (fun _ _ _ h => h) ?_; clear S a; intro a S
 refine d_done (by kernel_rfl) ?_
 refine e_then ?_
 refine c_cond S rfl (fun bc2 => ?_) (fun bc2 => ?_)
 ·
  have c2 := bc2
  have c2 := of_decide_eq_true c2
  refine wp_seq ?_
  refine c_region ?_
  refine l_mv 2 S rfl ?_; clear S a; intro a S
  refine l_pure S (p_fieldAddr rfl (fun w => fa122_0 w _ _)) rfl rfl rfl ?_; clear S a; intro a S
  refine l_store S H rfl rfl rfl (.there .here) (by first | decide | simp [Value.cells]) (fun w u hc hz => st1 sz3 rfl hc hz) rfl rfl ?_; clear S a H; intro w a H S
  refine l_nil ?_
  refine e_then ?_
  refine wp_ret ?_
  refine e_then_ret ?_
  exact r_ret0 S rfl ⟨rfl, _, .inl ⟨0, .slice Ap 0 cp, owr, ho, rfl⟩, H.tail.sub (((List.sublist_append_right owg L0).append_left owr).cons_cons _)⟩
 ·
  have c2 := bc2
  have c2 := of_decide_eq_false c2
  refine wp_skip ?_
  refine e_then ?_
  refine wp_seq ?_
  refine c_region ?_
  refine l_mv 3 S rfl ?_; clear S a; intro a S
  refine l_read S H (r_load rfl List.mem_cons_self rfl (fun w hc => ld1 ag34 hc)) rfl rfl rfl ?_; clear S a; intro a S
  refine l_pure S (p_slice rfl (fun _ _ => o_none) (o_some rfl) (fun _ _ => o_none) (fun w => sl_hi (m := 0) Tryz.underlying34 sz5 rfl (Nat.zero_le _))) rfl rfl rfl ?_; clear S a; intro a S
  refine l_mv 1 S rfl ?_; clear S a; intro a S
  refine l_store S H rfl rfl rfl .here (by first | decide | simp [Value.cells]) (fun w u hc hz => st1 sz34 rfl hc hz) rfl rfl ?_; clear S a H; intro w a H S
  refine l_nil ?_
  refine e_then ?_
  refine c_region ?_
  refine l_mv 3 S rfl ?_; clear S a; intro a S
  refine l_pure S (p_fieldAddr rfl (fun w => fa122_2 w _ _)) rfl rfl rfl ?_; clear S a; intro a S
  refine l_read S H (r_load rfl (List.mem_cons_of_mem _ List.mem_cons_self) rfl (fun w hc => ld1 ag120 hc)) rfl rfl rfl ?_; clear S a; intro a S
  refine l_mv 1 S rfl ?_; clear S a; intro a S
  refine l_lit [.tmp 38] S H rfl rfl Tryz.underlying120 sz126 zv126 rfl rfl (by simp [Value.cells]) rfl rfl rfl ?_; clear S a H; intro gl w a H S
  refine l_own (n := 0) (m := 1) [_, _, _] S (ow := owr) (L := owg ++ L0) H rfl rfl rfl ho (src_lit (c := 1) (vs := [.pointer (some ⟨gb, 0, none⟩)]) H List.mem_cons_self Tryz.underlying120 (by simp [Value.oneCell'])) Tryz.underlying120 in126 rfl (by omega) (by decide) rfl rfl rfl ?_; clear S a H; intro v' owr' w a ho' H S
  obtain ⟨Av, cv, rfl, _⟩ := ho'.slice
  replace H : HH _ _ _ (_ :: _ :: _ :: (owr' ++ (owg ++ L0))) := H
  refine l_mv 1 S rfl ?_; clear S a; intro a S
  refine l_pure S (p_fieldAddr rfl (fun w => fa122_2 w _ _)) rfl rfl rfl ?_; clear S a; intro a S
  refine l_store S H rfl rfl rfl (.there (.there .here)) (by first | decide | simp [Value.cells]) (fun w u hc hz => st1 sz120 rfl hc hz) rfl rfl ?_; clear S a H; intro w a H S
  refine l_nil ?_
  have h2 : HH B wb w ((gl, _) :: (gb, .cells #[.slice A 0 cb] 34 (0, 0)) :: (bp, .cells #[.int .i64 (IntKind.i64.wrap (n + (cb : Int))), .int .i64 10000000, .slice Av 1 cv] 122 (0, 0)) :: (owr' ++ (owg ++ L0))) := H
  exact r_end0 S rfl ⟨rfl, _, .inr ⟨IntKind.i64.wrap (n + (cb : Int)), .slice Av 1 cv, owr', gb, A, cb, owg, ho', hcut, rfl⟩, HH.app h2.tail.poolOut (by simp)⟩
theorem putc_ (wb w0 : World) (B : Nat) (L0 : dc.Bk) (bp gb cb : Nat) (A : Option Addr) (l : List Int) (po ow : dc.Bk) (hp : wq.Pool0 122 126 bp po) (hb : OwnB 5 (.slice A l.length cb) l ow) (H : HH B wb w0 ((gb, .cells #[.slice A l.length cb] 34 (0, 0)) :: (ow ++ (po ++ L0)))) : Calls Tryz.prog 24 #[.pointer (some ⟨bp, 0, none⟩), .pointer (some ⟨gb, 0, none⟩)] w0 fun e w' => e = .returned (.tuple #[]) ∧ ∃ po', wq.Pool 122 126 34 5 bp po' ∧ HH B wb w' (po' ++ L0) := by
 obtain ⟨n, v, owr, ho, rfl⟩ := hp
 obtain ⟨Ap, cp, rfl, _⟩ := ho.slice
 exact putc0_ wb w0 B L0 bp gb cp cb l.length n Ap A owr ow ho (rp.own_cut hb) (HH.poolIn (HH.app H (by simp)))
theorem put_ (wb w0 : World) (B : Nat) (L0 : dc.Bk) (bp gb cb : Nat) (A : Option Addr) (l : List Int) (po ow : dc.Bk) (hp : wq.Pool0 122 126 bp po) (hb : OwnB 5 (.slice A l.length cb) l ow) (H : HH B wb w0 ((gb, .cells #[.slice A l.length cb] 34 (0, 0)) :: (ow ++ (po ++ L0)))) : CallsD Tryz.prog 24 #[.pointer (some ⟨bp, 0, none⟩), .pointer (some ⟨gb, 0, none⟩)] .returning w0 fun e u' w' => u' = .returning ∧ e = .returned (.tuple #[]) ∧ ∃ po', wq.Pool 122 126 34 5 bp po' ∧ HH B wb w' (po' ++ L0) := by
 obtain ⟨n, v, owr, ho, rfl⟩ := hp
 obtain ⟨Ap, cp, rfl, _⟩ := ho.slice
 exact put0_ wb w0 B L0 bp gb cp cb l.length n Ap A owr ow ho (rp.own_cut hb) (HH.poolIn (HH.app H (by simp)))
end pl
end Go.Proofs.YtfbfmcjjohiikaaGreatDoor.wr
end
section
namespace Go.Proofs.YtfbfmcjjohiikaaGreatDoor.mw
open Go.Proofs.YtfbfmcjjohiikaaGreatDoor.fx
open Go.RowKit Go.Proofs.HHW Go.Proofs.YtfbfmcjjohiikaaGreatDoorW.PrintWords
namespace ms
theorem ag84 : aggB Tryz.prog 84 = some false := by kernel_rfl
theorem ag85 : aggB Tryz.prog 85 = some false := by kernel_rfl
theorem fa102_0 (w : World) (g o : Nat) : (Instr.fieldAt 102 (.pointer (some ⟨g, o, none⟩)) 0).run Tryz.prog w = .ok (.pointer (some ⟨g, o + 0, none⟩)) w := by kernel_rfl
theorem fa102_1 (w : World) (g o : Nat) : (Instr.fieldAt 102 (.pointer (some ⟨g, o, none⟩)) 1).run Tryz.prog w = .ok (.pointer (some ⟨g, o + 1, none⟩)) w := by kernel_rfl
theorem fa111_0 (w : World) (g o : Nat) : (Instr.fieldAt 111 (.pointer (some ⟨g, o, none⟩)) 0).run Tryz.prog w = .ok (.pointer (some ⟨g, o + 0, none⟩)) w := by kernel_rfl
theorem fa111_1 (w : World) (g o : Nat) : (Instr.fieldAt 111 (.pointer (some ⟨g, o, none⟩)) 1).run Tryz.prog w = .ok (.pointer (some ⟨g, o + 1, none⟩)) w := by kernel_rfl
theorem fa113_0 (w : World) (g o : Nat) : (Instr.fieldAt 113 (.pointer (some ⟨g, o, none⟩)) 0).run Tryz.prog w = .ok (.pointer (some ⟨g, o + 0, none⟩)) w := by kernel_rfl
theorem fa113_1 (w : World) (g o : Nat) : (Instr.fieldAt 113 (.pointer (some ⟨g, o, none⟩)) 1).run Tryz.prog w = .ok (.pointer (some ⟨g, o + 1, none⟩)) w := by kernel_rfl
theorem fa115_0 (w : World) (g o : Nat) : (Instr.fieldAt 115 (.pointer (some ⟨g, o, none⟩)) 0).run Tryz.prog w = .ok (.pointer (some ⟨g, o + 0, none⟩)) w := by kernel_rfl
theorem fa115_1 (w : World) (g o : Nat) : (Instr.fieldAt 115 (.pointer (some ⟨g, o, none⟩)) 1).run Tryz.prog w = .ok (.pointer (some ⟨g, o + 1, none⟩)) w := by kernel_rfl
theorem fa117_0 (w : World) (g o : Nat) : (Instr.fieldAt 117 (.pointer (some ⟨g, o, none⟩)) 0).run Tryz.prog w = .ok (.pointer (some ⟨g, o + 0, none⟩)) w := by kernel_rfl
theorem fa119_0 (w : World) (g o : Nat) : (Instr.fieldAt 119 (.pointer (some ⟨g, o, none⟩)) 0).run Tryz.prog w = .ok (.pointer (some ⟨g, o + 0, none⟩)) w := by kernel_rfl
theorem fa56_0 (w : World) (g o : Nat) : (Instr.fieldAt 56 (.pointer (some ⟨g, o, none⟩)) 0).run Tryz.prog w = .ok (.pointer (some ⟨g, o + 0, none⟩)) w := by kernel_rfl
theorem fa56_1 (w : World) (g o : Nat) : (Instr.fieldAt 56 (.pointer (some ⟨g, o, none⟩)) 1).run Tryz.prog w = .ok (.pointer (some ⟨g, o + 1, none⟩)) w := by kernel_rfl
theorem fa58_0 (w : World) (g o : Nat) : (Instr.fieldAt 58 (.pointer (some ⟨g, o, none⟩)) 0).run Tryz.prog w = .ok (.pointer (some ⟨g, o + 0, none⟩)) w := by kernel_rfl
theorem fa58_1 (w : World) (g o : Nat) : (Instr.fieldAt 58 (.pointer (some ⟨g, o, none⟩)) 1).run Tryz.prog w = .ok (.pointer (some ⟨g, o + 1, none⟩)) w := by kernel_rfl
theorem fa60_0 (w : World) (g o : Nat) : (Instr.fieldAt 60 (.pointer (some ⟨g, o, none⟩)) 0).run Tryz.prog w = .ok (.pointer (some ⟨g, o + 0, none⟩)) w := by kernel_rfl
theorem fa61_0 (w : World) (g o : Nat) : (Instr.fieldAt 61 (.pointer (some ⟨g, o, none⟩)) 0).run Tryz.prog w = .ok (.pointer (some ⟨g, o + 0, none⟩)) w := by kernel_rfl
theorem fa63_0 (w : World) (g o : Nat) : (Instr.fieldAt 63 (.pointer (some ⟨g, o, none⟩)) 0).run Tryz.prog w = .ok (.pointer (some ⟨g, o + 0, none⟩)) w := by kernel_rfl
theorem fa67_0 (w : World) (g o : Nat) : (Instr.fieldAt 67 (.pointer (some ⟨g, o, none⟩)) 0).run Tryz.prog w = .ok (.pointer (some ⟨g, o + 0, none⟩)) w := by kernel_rfl
theorem fa69_0 (w : World) (g o : Nat) : (Instr.fieldAt 69 (.pointer (some ⟨g, o, none⟩)) 0).run Tryz.prog w = .ok (.pointer (some ⟨g, o + 0, none⟩)) w := by kernel_rfl
theorem fa71_0 (w : World) (g o : Nat) : (Instr.fieldAt 71 (.pointer (some ⟨g, o, none⟩)) 0).run Tryz.prog w = .ok (.pointer (some ⟨g, o + 0, none⟩)) w := by kernel_rfl
theorem fa73_0 (w : World) (g o : Nat) : (Instr.fieldAt 73 (.pointer (some ⟨g, o, none⟩)) 0).run Tryz.prog w = .ok (.pointer (some ⟨g, o + 0, none⟩)) w := by kernel_rfl
theorem fa75_0 (w : World) (g o : Nat) : (Instr.fieldAt 75 (.pointer (some ⟨g, o, none⟩)) 0).run Tryz.prog w = .ok (.pointer (some ⟨g, o + 0, none⟩)) w := by kernel_rfl
theorem fa76_0 (w : World) (g o : Nat) : (Instr.fieldAt 76 (.pointer (some ⟨g, o, none⟩)) 0).run Tryz.prog w = .ok (.pointer (some ⟨g, o + 0, none⟩)) w := by kernel_rfl
theorem fa77_0 (w : World) (g o : Nat) : (Instr.fieldAt 77 (.pointer (some ⟨g, o, none⟩)) 0).run Tryz.prog w = .ok (.pointer (some ⟨g, o + 0, none⟩)) w := by kernel_rfl
abbrev opt (go bp br : Nat) : Nat × Obj := (go, .cells #[.func (.func 23) #[.pointer (some ⟨bp, 0, none⟩)] #[], .func (.func 24) #[.pointer (some ⟨bp, 0, none⟩)] #[], .func (.func 25) #[.pointer (some ⟨br, 0, none⟩)] #[], .func (.func 26) #[] #[], .func (.func 28) #[] #[], .bool false, .bool false] 102 (0, 0))
theorem meW (w : World) (ad : Addr) : (method (Tryz.prog.types.size + Made.depth) 46 (.pointer (some ad)) "Write").run Tryz.prog w = .ok (157, .pointer (some ad)) w := by kernel_rfl
theorem nilW (w : World) (ad : Addr) : (nilAhead (Tryz.prog.types.size + Made.depth) 46 (.pointer (some ad)) "Write").run Tryz.prog w = .ok (some false) w := by kernel_rfl
def Env (go bp b : Nat) (l : List Int) (ls : List (Nat × Obj)) : Prop := ∃ (br : Nat) (po bs : List (Nat × Obj)), wq.Pool 122 126 34 5 bp po ∧ wr.bb.BufZ b l bs ∧ ls = opt go bp br :: (po ++ bs)
theorem hq104 {R : Ending → World → Prop} {d : Nat} {v : Value} (hd : d ≠ 6 := by decide) : ∀ c (a : Act) w, bodyPostD Tryz.prog Tryz.f104 R (.panic c) (a.put (some d) v) w → bodyPostD Tryz.prog Tryz.f104 R (.panic c) a w := hq_d (fun t => by simp [results, Tryz.results104, Array.getElem?_setIfInBounds, hd])
theorem hq108 {R : Ending → World → Prop} {d : Nat} {v : Value} (hd : d ≠ 6 := by decide) : ∀ c (a : Act) w, bodyPostD Tryz.prog Tryz.f108 R (.panic c) (a.put (some d) v) w → bodyPostD Tryz.prog Tryz.f108 R (.panic c) a w := hq_d (fun t => by simp [results, Tryz.results108, Array.getElem?_setIfInBounds, hd])
theorem hq109 {R : Ending → World → Prop} {d : Nat} {v : Value} (hd : d ≠ 6 := by decide) : ∀ c (a : Act) w, bodyPostD Tryz.prog Tryz.f109 R (.panic c) (a.put (some d) v) w → bodyPostD Tryz.prog Tryz.f109 R (.panic c) a w := hq_d (fun t => by simp [results, Tryz.results109, Array.getElem?_setIfInBounds, hd])
theorem hq111 {R : Ending → World → Prop} {d : Nat} {v : Value} (hd : d ≠ 6 := by decide) : ∀ c (a : Act) w, bodyPostD Tryz.prog Tryz.f111 R (.panic c) (a.put (some d) v) w → bodyPostD Tryz.prog Tryz.f111 R (.panic c) a w := hq_d (fun t => by simp [results, Tryz.results111, Array.getElem?_setIfInBounds, hd])
theorem hq112 {R : Ending → World → Prop} {d : Nat} {v : Value} (hd : d ≠ 6 := by decide) : ∀ c (a : Act) w, bodyPostD Tryz.prog Tryz.f112 R (.panic c) (a.put (some d) v) w → bodyPostD Tryz.prog Tryz.f112 R (.panic c) a w := hq_d (fun t => by simp [results, Tryz.results112, Array.getElem?_setIfInBounds, hd])
theorem hq122 {R : Ending → World → Prop} {d : Nat} {v : Value} (hd : d ≠ 6 := by decide) : ∀ c (a : Act) w, bodyPostD Tryz.prog Tryz.f122 R (.panic c) (a.put (some d) v) w → bodyPostD Tryz.prog Tryz.f122 R (.panic c) a w := hq_d (fun t => by simp [results, Tryz.results122, Array.getElem?_setIfInBounds, hd])
theorem hq123 {R : Ending → World → Prop} {d : Nat} {v : Value} (hd : d ≠ 6 := by decide) : ∀ c (a : Act) w, bodyPostD Tryz.prog Tryz.f123 R (.panic c) (a.put (some d) v) w → bodyPostD Tryz.prog Tryz.f123 R (.panic c) a w := hq_d (fun t => by simp [results, Tryz.results123, Array.getElem?_setIfInBounds, hd])
theorem hq125 {R : Ending → World → Prop} {d : Nat} {v : Value} (hd : d ≠ 6 := by decide) : ∀ c (a : Act) w, bodyPostD Tryz.prog Tryz.f125 R (.panic c) (a.put (some d) v) w → bodyPostD Tryz.prog Tryz.f125 R (.panic c) a w := hq_d (fun t => by simp [results, Tryz.results125, Array.getElem?_setIfInBounds, hd])
theorem hq126 {R : Ending → World → Prop} {d : Nat} {v : Value} (hd : d ≠ 6 := by decide) : ∀ c (a : Act) w, bodyPostD Tryz.prog Tryz.f126 R (.panic c) (a.put (some d) v) w → bodyPostD Tryz.prog Tryz.f126 R (.panic c) a w := hq_d (fun t => by simp [results, Tryz.results126, Array.getElem?_setIfInBounds, hd])
theorem hq127 {R : Ending → World → Prop} {d : Nat} {v : Value} (hd : d ≠ 6 := by decide) : ∀ c (a : Act) w, bodyPostD Tryz.prog Tryz.f127 R (.panic c) (a.put (some d) v) w → bodyPostD Tryz.prog Tryz.f127 R (.panic c) a w := hq_d (fun t => by simp [results, Tryz.results127, Array.getElem?_setIfInBounds, hd])
theorem hq143 {R : Ending → World → Prop} {d : Nat} {v : Value} (hd : d ≠ 10 := by decide) : ∀ c (a : Act) w, bodyPostD Tryz.prog Tryz.f143 R (.panic c) (a.put (some d) v) w → bodyPostD Tryz.prog Tryz.f143 R (.panic c) a w := hq_d (fun t => by simp [results, Tryz.results143, Array.getElem?_setIfInBounds, hd])
theorem delim_ (wb w0 : World) (B : Nat) (L0 : dc.Bk) (H : HH B wb w0 L0) : Calls Tryz.prog 107 #[] w0 fun e w' => ∃ gd, e = .returned (.slice (some ⟨gd, 0, none⟩) 2 2) ∧ HH B wb w' ((gd, .cells #[.int .u8 13, .int .u8 10] 5 (0, 0)) :: L0) := by
 refine c_enter (args := []) (k := 2) Tryz.func107 rfl rfl rfl (fun a S => ?_)
 refine wp_seq ?_
 refine c_region ?_
 refine l_mv 1 S rfl ?_; clear S a; intro a S
 refine l_nil ?_
 refine e_then ?_
 refine wp_seq ?_
 refine c_region ?_
 refine l_lit [(.const (.int .u8 13)), (.const (.int .u8 10))] S H rfl rfl Tryz.underlying34 sz5 zv5 rfl rfl (by simp [Value.cells]) rfl rfl rfl ?_; clear S a H; intro g1 w a H S
 refine l_mv 1 S rfl ?_; clear S a; intro a S
 refine l_nil ?_
 refine e_then ?_
 refine wp_ret ?_
 exact r_ret1 S rfl rfl ⟨_, rfl, H⟩
theorem streamHeaderSize_ (wb w0 : World) (B : Nat) (L0 : dc.Bk) (H : HH B wb w0 L0) : Calls Tryz.prog 105 #[] w0 fun e w' => ∃ gd, e = .returned (.slice (some ⟨gd, 0, none⟩) 1 1) ∧ HH B wb w' ((gd, .cells #[.int .u8 63] 5 (1, 2)) :: L0) := by
 refine c_enter (args := []) (k := 3) Tryz.func105 rfl rfl rfl (fun a S => ?_)
 refine wp_seq ?_
 refine c_region ?_
 refine l_mv 1 S rfl ?_; clear S a; intro a S
 refine l_nil ?_
 refine e_then ?_
 refine wp_seq ?_
 refine c_region ?_
 refine l_lit [(.const (.int .u8 63))] S H rfl rfl Tryz.underlying34 sz5 zv5 rfl rfl (by simp [Value.cells]) rfl rfl rfl ?_; clear S a H; intro g1 w a H S
 refine l_mark S H rfl rfl Tryz.underlying34 Tryz.underlying5 .here rfl rfl rfl ?_; clear S a H; intro w a H S
 refine l_mv 1 S rfl ?_; clear S a; intro a S
 refine l_nil ?_
 refine e_then ?_
 refine wp_ret ?_
 exact r_ret1 S rfl rfl ⟨_, rfl, H⟩
theorem null_ (wb w0 : World) (B : Nat) (L0 : dc.Bk) (H : HH B wb w0 L0) : Calls Tryz.prog 114 #[] w0 fun e w' => ∃ gd, e = .returned (.slice (some ⟨gd, 0, none⟩) 3 3) ∧ HH B wb w' ((gd, .cells #[.int .u8 95, .int .u8 13, .int .u8 10] 5 (3, 4)) :: L0) := by
 refine c_enter (args := []) (k := 3) Tryz.func114 rfl rfl rfl (fun a S => ?_)
 refine wp_seq ?_
 refine c_region ?_
 refine l_mv 1 S rfl ?_; clear S a; intro a S
 refine l_nil ?_
 refine e_then ?_
 refine wp_seq ?_
 refine c_region ?_
 refine l_lit [(.const (.int .u8 95)), (.const (.int .u8 13)), (.const (.int .u8 10))] S H rfl rfl Tryz.underlying34 sz5 zv5 rfl rfl (by simp [Value.cells]) rfl rfl rfl ?_; clear S a H; intro g1 w a H S
 refine l_mark S H rfl rfl Tryz.underlying34 Tryz.underlying5 .here rfl rfl rfl ?_; clear S a H; intro w a H S
 refine l_mv 1 S rfl ?_; clear S a; intro a S
 refine l_nil ?_
 refine e_then ?_
 refine wp_ret ?_
 exact r_ret1 S rfl rfl ⟨_, rfl, H⟩
theorem booleanTrue_ (wb w0 : World) (B : Nat) (L0 : dc.Bk) (H : HH B wb w0 L0) : Calls Tryz.prog 119 #[] w0 fun e w' => ∃ gd, e = .returned (.slice (some ⟨gd, 0, none⟩) 4 4) ∧ HH B wb w' ((gd, .cells #[.int .u8 35, .int .u8 116, .int .u8 13, .int .u8 10] 5 (4, 5)) :: L0) := by
 refine c_enter (args := []) (k := 3) Tryz.func119 rfl rfl rfl (fun a S => ?_)
 refine wp_seq ?_
 refine c_region ?_
 refine l_mv 1 S rfl ?_; clear S a; intro a S
 refine l_nil ?_
 refine e_then ?_
 refine wp_seq ?_
 refine c_region ?_
 refine l_lit [(.const (.int .u8 35)), (.const (.int .u8 116)), (.const (.int .u8 13)), (.const (.int .u8 10))] S H rfl rfl Tryz.underlying34 sz5 zv5 rfl rfl (by simp [Value.cells]) rfl rfl rfl ?_; clear S a H; intro g1 w a H S
 refine l_mark S H rfl rfl Tryz.underlying34 Tryz.underlying5 .here rfl rfl rfl ?_; clear S a H; intro w a H S
 refine l_mv 1 S rfl ?_; clear S a; intro a S
 refine l_nil ?_
 refine e_then ?_
 refine wp_ret ?_
 exact r_ret1 S rfl rfl ⟨_, rfl, H⟩
theorem booleanFalse_ (wb w0 : World) (B : Nat) (L0 : dc.Bk) (H : HH B wb w0 L0) : Calls Tryz.prog 120 #[] w0 fun e w' => ∃ gd, e = .returned (.slice (some ⟨gd, 0, none⟩) 4 4) ∧ HH B wb w' ((gd, .cells #[.int .u8 35, .int .u8 102, .int .u8 13, .int .u8 10] 5 (4, 5)) :: L0) := by
 refine c_enter (args := []) (k := 3) Tryz.func120 rfl rfl rfl (fun a S => ?_)
 refine wp_seq ?_
 refine c_region ?_
 refine l_mv 1 S rfl ?_; clear S a; intro a S
 refine l_nil ?_
 refine e_then ?_
 refine wp_seq ?_
 refine c_region ?_
 refine l_lit [(.const (.int .u8 35)), (.const (.int .u8 102)), (.const (.int .u8 13)), (.const (.int .u8 10))] S H rfl rfl Tryz.underlying34 sz5 zv5 rfl rfl (by simp [Value.cells]) rfl rfl rfl ?_; clear S a H; intro g1 w a H S
 refine l_mark S H rfl rfl Tryz.underlying34 Tryz.underlying5 .here rfl rfl rfl ?_; clear S a H; intro w a H S
 refine l_mv 1 S rfl ?_; clear S a; intro a S
 refine l_nil ?_
 refine e_then ?_
 refine wp_ret ?_
 exact r_ret1 S rfl rfl ⟨_, rfl, H⟩
theorem streamAggEnd_ (wb w0 : World) (B : Nat) (L0 : dc.Bk) (H : HH B wb w0 L0) : Calls Tryz.prog 129 #[] w0 fun e w' => ∃ gd, e = .returned (.slice (some ⟨gd, 0, none⟩) 3 3) ∧ HH B wb w' ((gd, .cells #[.int .u8 46, .int .u8 13, .int .u8 10] 5 (3, 4)) :: L0) := by
 refine c_enter (args := []) (k := 3) Tryz.func129 rfl rfl rfl (fun a S => ?_)
 refine wp_seq ?_
 refine c_region ?_
 refine l_mv 1 S rfl ?_; clear S a; intro a S
 refine l_nil ?_
 refine e_then ?_
 refine wp_seq ?_
 refine c_region ?_
 refine l_lit [(.const (.int .u8 46)), (.const (.int .u8 13)), (.const (.int .u8 10))] S H rfl rfl Tryz.underlying34 sz5 zv5 rfl rfl (by simp [Value.cells]) rfl rfl rfl ?_; clear S a H; intro g1 w a H S
 refine l_mark S H rfl rfl Tryz.underlying34 Tryz.underlying5 .here rfl rfl rfl ?_; clear S a H; intro w a H S
 refine l_mv 1 S rfl ?_; clear S a; intro a S
 refine l_nil ?_
 refine e_then ?_
 refine wp_ret ?_
 exact r_ret1 S rfl rfl ⟨_, rfl, H⟩
set_option maxHeartbeats 1000000 in
theorem aggt_ (wb w0 : World) (B : Nat) (L0 : dc.Bk) (go bp b : Nat) (l : List Int) (ls : List (Nat × Obj)) (hE : Env go bp b l ls) (ht : Lib.TabBelow Tryz.prog B wb "internal/strconv.uint64pow10" .u64 Lib.pow10Tab) (hT : fz.PTab 3 B wb) (H : HH B wb w0 (ls ++ L0)) (hl : l.length ≤ 10000000) (p n : Int) (hn : (-9223372036854775808 ≤ n ∧ n ≤ 9223372036854775807)) : Calls Tryz.prog 143 #[.iface 46 (.pointer (some ⟨b, 0, none⟩)), .int .u8 p, .int .i64 n, .bool true, .pointer (some ⟨go, 0, none⟩)] w0 fun e w' => e = .returned .nilIface ∧ ∃ ls', Env go bp b (l ++ (p :: ([63] ++ [13, 10]))) ls' ∧ HH B wb w' (ls' ++ L0) := by
 obtain ⟨br, po, bs, hp, hz, rfl⟩ := hE
 replace H : HH B wb w0 (opt go bp br :: (po ++ (bs ++ L0))) := HH.app H (by simp)
 refine c_enter_d (args := [.iface 46 (.pointer (some ⟨b, 0, none⟩)), .int .u8 p, .int .i64 n, .bool true, .pointer (some ⟨go, 0, none⟩)]) (k := 60) Tryz.func143 rfl rfl rfl (fun a S => ?_)
 refine wp_seq ?_
 refine c_region ?_
 refine l_mv 1 S rfl ?_; clear S a; intro a S
 refine l_nil ?_
 refine e_then ?_
 refine wp_seq ?_
 refine c_region ?_
 refine l_mv 2 S rfl ?_; clear S a; intro a S
 refine l_pure S (p_fieldAddr rfl (fun w => fa102_0 w _ _)) rfl rfl rfl ?_; clear S a; intro a S
 refine l_read S H (r_load rfl List.mem_cons_self rfl (fun w hc => ld1 ag84 hc)) rfl rfl rfl ?_; clear S a; intro a S
 replace H : HH B wb _ (opt go bp br :: (po ++ (bs ++ L0))) := H
 replace H : HH B wb _ (po ++ (opt go bp br :: (bs ++ L0))) := HH.app (HH.front (L1 := [opt go bp br]) (S := po) (L2 := (bs ++ L0)) (HH.app H (by simp))) (by simp)
 have hcon := wr.pl.get_ wb _ B (opt go bp br :: (bs ++ L0)) bp po hp H
 refine l_callv (us := [.pointer (some ⟨bp, 0, none⟩)]) (cs := []) S rfl rfl rfl Tryz.func23 rfl rfl hcon rfl rfl rfl ?_
 rintro e w ⟨po', hp', gb, A0, c0, ow0, rfl, hown0, hH⟩
 refine ⟨_, rfl, ?_⟩; clear S a; intro a S; clear H hcon; have H := hH; clear hH
 refine l_mv 1 S rfl ?_; clear S a; intro a S
 refine l_nil ?_
 refine e_then ?_
 refine wp_seq ?_
 refine c_region ?_
 refine l_mv 2 S rfl ?_; clear S a; intro a S
 refine l_pure S (p_fieldAddr rfl (fun w => fa102_1 w _ _)) rfl rfl rfl ?_; clear S a; intro a S
 refine l_read S H (r_load rfl (List.mem_cons_of_mem _ (List.mem_append_right _ (List.mem_append_right _ List.mem_cons_self))) rfl (fun w hc => ld1 ag85 hc)) rfl rfl rfl ?_; clear S a; intro a S
 refine l_mv 1 S rfl ?_; clear S a; intro a S
 refine l_defer (xs := [.tmp 23]) (us := [.pointer (some ⟨bp, 0, none⟩)]) (cs := []) (vs := [.pointer (some ⟨gb, 0, none⟩)]) S rfl rfl rfl rfl rfl ?_; clear S a; intro a S
 refine l_nil ?_
 refine e_then ?_
 refine wp_seq ?_
 refine c_region ?_
 refine l_mv 3 S rfl ?_; clear S a; intro a S
 refine l_read S H (r_load rfl List.mem_cons_self rfl (fun w hc => ld1 ag34 hc)) rfl rfl rfl ?_; clear S a; intro a S
 refine l_mv 1 S rfl ?_; clear S a; intro a S
 refine l_lit [(.tmp 28)] S H rfl rfl Tryz.underlying34 sz5 zv5 rfl rfl (by simp [Value.cells]) rfl rfl rfl ?_; clear S a H; intro g1 w a H S
 refine l_ownB [_, _] (l := ([] : List Int)) (r := [p]) S H rfl rfl rfl hown0 (src_lit (vs := ([p]).map (Value.int .u8)) H List.mem_cons_self Tryz.underlying34 (by simp [Value.oneCell'])) Tryz.underlying34 in5 rfl (by simp only [List.length_append, List.length_cons, List.length_nil, wq.dec_len, ints_len]; have := mw.sdec_len hn; omega) (by decide) rfl rfl rfl ?_; clear S a H; intro An2 cn2 own2 w a hn2 H S
 replace H := H.tail
 replace H : HH B wb _ ((gb, .cells #[.slice A0 ([] : List Int).length c0] 34 (0, 0)) :: (own2 ++ (po' ++ (opt go bp br :: (bs ++ L0))))) := H
 refine l_mv 1 S rfl ?_; clear S a; intro a S
 refine l_store S H rfl rfl rfl .here (by first | decide | simp [Value.cells]) (fun w u hc hz => st1 sz34 rfl hc hz) rfl rfl ?_; clear S a H; intro w a H S
 refine l_nil ?_
 refine e_then ?_
 refine wp_seq ?_
 refine wp_seq ?_
 refine c_region ?_
 refine l_mv 1 S rfl ?_; clear S a; intro a S
 refine l_nil ?_
 refine e_then ?_
 refine c_cond (b := true) S rfl (fun _ => ?_) (fun h => by cases h)
 refine d_start (id := 5) [5, 7] 8 #[false, false, false, false, false, false, false, false] H rfl rfl rfl (fun w H => ?_)
 refine d_pure (i := 0) #[true, false, false, false, false, false, false, false] S rfl (p_move rfl) (wanted_none rfl) rfl rfl (by kernel_rfl) hq143 ?_; clear S a; intro a S
 refine d_pure (i := 1) #[true, true, false, false, false, false, false, false] S rfl (p_move rfl) (wanted_none rfl) rfl rfl (by kernel_rfl) hq143 ?_; clear S a; intro a S
 refine d_pure (i := 2) #[true, true, true, false, false, false, false, false] S rfl (p_nilCheck rfl) (wanted_none rfl) rfl rfl (by kernel_rfl) hq143 ?_; clear S a; intro a S
 refine d_read (i := 3) #[true, true, true, true, false, false, false, false] S H rfl (r_load rfl List.mem_cons_self rfl (fun w hc => ld1 ag34 hc)) (wanted_none rfl) rfl rfl (by kernel_rfl) hq143 ?_; clear S a; intro a S
 have hcon := streamHeaderSize_ wb _ B _ H
 refine d_call (i := 4) #[true, true, true, true, true, false, false, false] S rfl rfl rfl Tryz.func105 rfl rfl hcon (wanted_none rfl) rfl rfl (by kernel_rfl) rfl ?_
 rintro e w ⟨gd5, rfl, hH⟩; refine ⟨_, rfl, hH.tail, ?_⟩; clear hcon H; have H := hH; clear hH; clear S a; intro a S
 refine d_ownB (i := 5) [_, _] (xs := (([] : List Int) ++ [p])) (r := [63]) #[true, true, true, true, true, true, false, false] S H rfl rfl rfl rfl hn2 (src_lit (vs := ([63]).map (Value.int .u8)) H List.mem_cons_self Tryz.underlying34 (by simp [Value.oneCell'])) Tryz.underlying34 in5 rfl (by simp only [List.length_append, List.length_cons, List.length_nil, wq.dec_len, ints_len]; have := mw.sdec_len hn; omega) (by decide) (wanted_none rfl) rfl rfl (by kernel_rfl) rfl ?_; clear S a H; intro An6 cn6 own6 w a hn6 H S
 replace H := H.tail
 replace H : HH B wb _ ((gb, .cells #[.slice An2 (([] : List Int) ++ [p]).length cn2] 34 (0, 0)) :: (own6 ++ (po' ++ (opt go bp br :: (bs ++ L0))))) := H
 refine d_pure (i := 6) #[true, true, true, true, true, true, true, false] S rfl (p_nilCheck rfl) (wanted_none rfl) rfl rfl (by kernel_rfl) hq143 ?_; clear S a; intro a S
 refine d_store (i := 7) #[true, true, true, true, true, true, true, true] S H rfl rfl rfl rfl .here (by first | decide | simp [Value.cells]) (fun w u hc hz => st1 sz34 rfl hc hz) (wanted_none rfl) rfl (by kernel_rfl) rfl ?_; clear S a H; intro w a H S
 refine d_done (by kernel_rfl) ?_
 refine e_then ?_
 refine wp_seq ?_
 refine d_start (id := 7) [5, 7] 8 #[false, false, false, false, false, false, false, false] H rfl rfl rfl (fun w H => ?_)
 refine d_pure (i := 0) #[true, false, false, false, false, false, false, false] S rfl (p_move rfl) (wanted_none rfl) rfl rfl (by kernel_rfl) hq143 ?_; clear S a; intro a S
 refine d_pure (i := 1) #[true, true, false, false, false, false, false, false] S rfl (p_move rfl) (wanted_none rfl) rfl rfl (by kernel_rfl) hq143 ?_; clear S a; intro a S
 refine d_pure (i := 2) #[true, true, true, false, false, false, false, false] S rfl (p_nilCheck rfl) (wanted_none rfl) rfl rfl (by kernel_rfl) hq143 ?_; clear S a; intro a S
 refine d_read (i := 3) #[true, true, true, true, false, false, false, false] S H rfl (r_load rfl List.mem_cons_self rfl (fun w hc => ld1 ag34 hc)) (wanted_none rfl) rfl rfl (by kernel_rfl) hq143 ?_; clear S a; intro a S
 have hcon := delim_ wb _ B _ H
 refine d_call (i := 4) #[true, true, true, true, true, false, false, false] S rfl rfl rfl Tryz.func107 rfl rfl hcon (wanted_none rfl) rfl rfl (by kernel_rfl) rfl ?_
 rintro e w ⟨gd7, rfl, hH⟩; refine ⟨_, rfl, hH.tail, ?_⟩; clear hcon H; have H := hH; clear hH; clear S a; intro a S
 refine d_ownB (i := 5) [_, _] (xs := ((([] : List Int) ++ [p]) ++ [63])) (r := [13, 10]) #[true, true, true, true, true, true, false, false] S H rfl rfl rfl rfl hn6 (src_lit (vs := ([13, 10]).map (Value.int .u8)) H List.mem_cons_self Tryz.underlying34 (by simp [Value.oneCell'])) Tryz.underlying34 in5 rfl (by simp only [List.length_append, List.length_cons, List.length_nil, wq.dec_len, ints_len]; have := mw.sdec_len hn; omega) (by decide) (wanted_none rfl) rfl rfl (by kernel_rfl) rfl ?_; clear S a H; intro An8 cn8 own8 w a hn8 H S
 replace H := H.tail
 replace H : HH B wb _ ((gb, .cells #[.slice An6 ((([] : List Int) ++ [p]) ++ [63]).length cn6] 34 (0, 0)) :: (own8 ++ (po' ++ (opt go bp br :: (bs ++ L0))))) := H
 refine d_pure (i := 6) #[true, true, true, true, true, true, true, false] S rfl (p_nilCheck rfl) (wanted_none rfl) rfl rfl (by kernel_rfl) hq143 ?_; clear S a; intro a S
 refine d_store (i := 7) #[true, true, true, true, true, true, true, true] S H rfl rfl rfl rfl .here (by first | decide | simp [Value.cells]) (fun w u hc hz => st1 sz34 rfl hc hz) (wanted_none rfl) rfl (by kernel_rfl) rfl ?_; clear S a H; intro w a H S
 refine d_done (by kernel_rfl) ?_
 refine e_then ?_
 refine wp_seq ?_
 refine d_start (id := 8) [6] 12 #[false, false, false, false, false, false, false, false, false, false, false, false] H rfl rfl rfl (fun w H => ?_)
 refine d_pure (i := 0) #[true, false, false, false, false, false, false, false, false, false, false, false] S rfl (p_move rfl) (wanted_none rfl) rfl rfl (by kernel_rfl) hq143 ?_; clear S a; intro a S
 refine d_pure (i := 1) #[true, true, false, false, false, false, false, false, false, false, false, false] S rfl (p_move rfl) (wanted_none rfl) rfl rfl (by kernel_rfl) hq143 ?_; clear S a; intro a S
 refine d_pure (i := 2) #[true, true, true, false, false, false, false, false, false, false, false, false] S rfl (p_nilCheck rfl) (wanted_none rfl) rfl rfl (by kernel_rfl) hq143 ?_; clear S a; intro a S
 refine d_read (i := 3) #[true, true, true, true, false, false, false, false, false, false, false, false] S H rfl (r_load rfl List.mem_cons_self rfl (fun w hc => ld1 ag34 hc)) (wanted_none rfl) rfl rfl (by kernel_rfl) hq143 ?_; clear S a; intro a S
 refine d_pure (i := 4) #[true, true, true, true, true, false, false, false, false, false, false, false] S rfl (p_nilCheckI rfl) (wanted_none rfl) rfl rfl (by kernel_rfl) hq143 ?_; clear S a; intro a S
 refine d_pure (i := 5) #[true, true, true, true, true, true, false, false, false, false, false, false] S rfl (p_move rfl) (wanted_none rfl) rfl rfl (by kernel_rfl) hq143 ?_; clear S a; intro a S
 obtain ⟨gr, cr, fr, rfl, rfl, hlc, hcr, hth, hrow⟩ := rp.own_open hn8 (by simp only [List.length_append, List.length_cons, List.length_nil]; omega)
 replace H : HH B wb _ ((gb, .cells #[.slice (some ⟨gr, 0, none⟩) (((([] : List Int) ++ [p]) ++ [63]) ++ [13, 10]).length cn8] 34 (0, 0)) :: ((gr, .cells cr 5 fr) :: (po' ++ (opt go bp br :: (bs ++ L0))))) := H
 have H2 := HH.front (L1 := ((gb, .cells #[.slice (some ⟨gr, 0, none⟩) (((([] : List Int) ++ [p]) ++ [63]) ++ [13, 10]).length cn8] 34 (0, 0)) :: ((gr, .cells cr 5 fr) :: (po' ++ [opt go bp br])))) (S := bs) (L2 := L0) (HH.app H (by simp))
 have hcon := wr.bb.write_ wb _ B (((gb, .cells #[.slice (some ⟨gr, 0, none⟩) (((([] : List Int) ++ [p]) ++ [63]) ++ [13, 10]).length cn8] 34 (0, 0)) :: ((gr, .cells cr 5 fr) :: (po' ++ [opt go bp br]))) ++ L0) b l bs hz gr 0 cn8 cr fr (((([] : List Int) ++ [p]) ++ [63]) ++ [13, 10]) (by simp) hrow (by simp only [List.length_append, List.length_cons, List.length_nil]; omega) H2 (by simp only [List.length_append, List.length_cons, List.length_nil, wq.dec_len, ints_len]; have := mw.sdec_len hn; omega)
 refine d_invoke_last (i := 6) #[true, true, true, true, true, true, true, false, false, false, false, false] S rfl rfl rfl rfl (meW _ _) Tryz.func157 rfl rfl hcon (wanted_none rfl) rfl rfl (by kernel_rfl) rfl ?_
 rintro e w ⟨rfl, bs2, hz2, hH⟩
 refine ⟨_, rfl, ?_⟩; clear S a; intro a S; clear H H2 hcon
 have H : HH B wb w ((gb, .cells #[.slice (some ⟨gr, 0, none⟩) (((([] : List Int) ++ [p]) ++ [63]) ++ [13, 10]).length cn8] 34 (0, 0)) :: ((gr, .cells cr 5 fr) :: (po' ++ (opt go bp br :: (bs2 ++ L0))))) := HH.app (HH.front (L1 := bs2) (S := ((gb, .cells #[.slice (some ⟨gr, 0, none⟩) (((([] : List Int) ++ [p]) ++ [63]) ++ [13, 10]).length cn8] 34 (0, 0)) :: ((gr, .cells cr 5 fr) :: (po' ++ [opt go bp br])))) (L2 := L0) hH) (by simp)
 clear hH
 refine d_pure (i := 7) #[true, true, true, true, true, true, true, true, false, false, false, false] S rfl (p_move rfl) (wanted_none rfl) rfl rfl (by kernel_rfl) hq143 ?_; clear S a; intro a S
 refine d_pure (i := 8) #[true, true, true, true, true, true, true, true, true, false, false, false] S rfl (p_extract rfl rfl) (wanted_none rfl) rfl rfl (by kernel_rfl) hq143 ?_; clear S a; intro a S
 refine d_pure (i := 9) #[true, true, true, true, true, true, true, true, true, true, false, false] S rfl (p_extract rfl rfl) (wanted_none rfl) rfl rfl (by kernel_rfl) hq143 ?_; clear S a; intro a S
 refine d_pure (i := 10) #[true, true, true, true, true, true, true, true, true, true, true, false] S rfl (p_assign rfl) (wanted_none rfl) rfl rfl (by kernel_rfl) hq143 ?_; clear S a; intro a S
 refine d_pure (i := 11) #[true, true, true, true, true, true, true, true, true, true, true, true] S rfl (p_assign rfl) (wanted_none rfl) rfl rfl (by kernel_rfl) hq143 ?_; clear S a; intro a S
 refine d_done (by kernel_rfl) ?_
 refine e_then ?_
 refine wp_seq ?_
 refine c_region ?_
 refine l_mv 2 S rfl ?_; clear S a; intro a S
 refine l_nil ?_
 refine e_then ?_
 refine wp_ret ?_
 refine r_doorA S (wr.pl.put_ wb _ B (opt go bp br :: (bs2 ++ L0)) bp gb cn8 (some ⟨gr, 0, none⟩) (((([] : List Int) ++ [p]) ++ [63]) ++ [13, 10]) po' [(gr, .cells cr 5 fr)] hp' hn8 H) (invokesA (vs := [.pointer (some ⟨bp, 0, none⟩), .pointer (some ⟨gb, 0, none⟩)]) (caps := []) Tryz.func24 rfl rfl) (fun w' _ => res_t1 rfl rfl) ?_
 rintro w' ⟨po2, hp2, hH⟩
 have H3 := HH.front (L1 := po2) (S := [opt go bp br]) (L2 := bs2 ++ L0) (HH.app hH (by simp))
 exact ⟨rfl, _, ⟨br, po2, bs2, hp2, by simpa [mw.bl] using hz2, rfl⟩, HH.app (L := (opt go bp br :: (po2 ++ (bs2 ++ L0)))) (L' := (opt go bp br :: (po2 ++ bs2)) ++ L0) (HH.app (L' := (opt go bp br :: (po2 ++ (bs2 ++ L0)))) H3 (by simp)) (by simp)⟩
set_option maxHeartbeats 1000000 in
theorem aggf_ (wb w0 : World) (B : Nat) (L0 : dc.Bk) (go bp b : Nat) (l : List Int) (ls : List (Nat × Obj)) (hE : Env go bp b l ls) (ht : Lib.TabBelow Tryz.prog B wb "internal/strconv.uint64pow10" .u64 Lib.pow10Tab) (hT : fz.PTab 3 B wb) (H : HH B wb w0 (ls ++ L0)) (hl : l.length ≤ 10000000) (p n : Int) (hn : (-9223372036854775808 ≤ n ∧ n ≤ 9223372036854775807)) : Calls Tryz.prog 143 #[.iface 46 (.pointer (some ⟨b, 0, none⟩)), .int .u8 p, .int .i64 n, .bool false, .pointer (some ⟨go, 0, none⟩)] w0 fun e w' => e = .returned .nilIface ∧ ∃ ls', Env go bp b (l ++ (p :: (mw.sdec n ++ [13, 10]))) ls' ∧ HH B wb w' (ls' ++ L0) := by
 obtain ⟨br, po, bs, hp, hz, rfl⟩ := hE
 replace H : HH B wb w0 (opt go bp br :: (po ++ (bs ++ L0))) := HH.app H (by simp)
 refine c_enter_d (args := [.iface 46 (.pointer (some ⟨b, 0, none⟩)), .int .u8 p, .int .i64 n, .bool false, .pointer (some ⟨go, 0, none⟩)]) (k := 60) Tryz.func143 rfl rfl rfl (fun a S => ?_)
 refine wp_seq ?_
 refine c_region ?_
 refine l_mv 1 S rfl ?_; clear S a; intro a S
 refine l_nil ?_
 refine e_then ?_
 refine wp_seq ?_
 refine c_region ?_
 refine l_mv 2 S rfl ?_; clear S a; intro a S
 refine l_pure S (p_fieldAddr rfl (fun w => fa102_0 w _ _)) rfl rfl rfl ?_; clear S a; intro a S
 refine l_read S H (r_load rfl List.mem_cons_self rfl (fun w hc => ld1 ag84 hc)) rfl rfl rfl ?_; clear S a; intro a S
 replace H : HH B wb _ (opt go bp br :: (po ++ (bs ++ L0))) := H
 replace H : HH B wb _ (po ++ (opt go bp br :: (bs ++ L0))) := HH.app (HH.front (L1 := [opt go bp br]) (S := po) (L2 := (bs ++ L0)) (HH.app H (by simp))) (by simp)
 have hcon := wr.pl.get_ wb _ B (opt go bp br :: (bs ++ L0)) bp po hp H
 refine l_callv (us := [.pointer (some ⟨bp, 0, none⟩)]) (cs := []) S rfl rfl rfl Tryz.func23 rfl rfl hcon rfl rfl rfl ?_
 rintro e w ⟨po', hp', gb, A0, c0, ow0, rfl, hown0, hH⟩
 refine ⟨_, rfl, ?_⟩; clear S a; intro a S; clear H hcon; have H := hH; clear hH
 refine l_mv 1 S rfl ?_; clear S a; intro a S
 refine l_nil ?_
 refine e_then ?_
 refine wp_seq ?_
 refine c_region ?_
 refine l_mv 2 S rfl ?_; clear S a; intro a S
 refine l_pure S (p_fieldAddr rfl (fun w => fa102_1 w _ _)) rfl rfl rfl ?_; clear S a; intro a S
 refine l_read S H (r_load rfl (List.mem_cons_of_mem _ (List.mem_append_right _ (List.mem_append_right _ List.mem_cons_self))) rfl (fun w hc => ld1 ag85 hc)) rfl rfl rfl ?_; clear S a; intro a S
 refine l_mv 1 S rfl ?_; clear S a; intro a S
 refine l_defer (xs := [.tmp 23]) (us := [.pointer (some ⟨bp, 0, none⟩)]) (cs := []) (vs := [.pointer (some ⟨gb, 0, none⟩)]) S rfl rfl rfl rfl rfl ?_; clear S a; intro a S
 refine l_nil ?_
 refine e_then ?_
 refine wp_seq ?_
 refine c_region ?_
 refine l_mv 3 S rfl ?_; clear S a; intro a S
 refine l_read S H (r_load rfl List.mem_cons_self rfl (fun w hc => ld1 ag34 hc)) rfl rfl rfl ?_; clear S a; intro a S
 refine l_mv 1 S rfl ?_; clear S a; intro a S
 refine l_lit [(.tmp 28)] S H rfl rfl Tryz.underlying34 sz5 zv5 rfl rfl (by simp [Value.cells]) rfl rfl rfl ?_; clear S a H; intro g1 w a H S
 refine l_ownB [_, _] (l := ([] : List Int)) (r := [p]) S H rfl rfl rfl hown0 (src_lit (vs := ([p]).map (Value.int .u8)) H List.mem_cons_self Tryz.underlying34 (by simp [Value.oneCell'])) Tryz.underlying34 in5 rfl (by simp only [List.length_append, List.length_cons, List.length_nil, wq.dec_len, ints_len]; have := mw.sdec_len hn; omega) (by decide) rfl rfl rfl ?_; clear S a H; intro An2 cn2 own2 w a hn2 H S
 replace H := H.tail
 replace H : HH B wb _ ((gb, .cells #[.slice A0 ([] : List Int).length c0] 34 (0, 0)) :: (own2 ++ (po' ++ (opt go bp br :: (bs ++ L0))))) := H
 refine l_mv 1 S rfl ?_; clear S a; intro a S
 refine l_store S H rfl rfl rfl .here (by first | decide | simp [Value.cells]) (fun w u hc hz => st1 sz34 rfl hc hz) rfl rfl ?_; clear S a H; intro w a H S
 refine l_nil ?_
 refine e_then ?_
 refine wp_seq ?_
 refine wp_seq ?_
 refine c_region ?_
 refine l_mv 1 S rfl ?_; clear S a; intro a S
 refine l_nil ?_
 refine e_then ?_
 refine c_cond (b := false) S rfl (fun h => by cases h) (fun _ => ?_)
 refine c_region ?_
 refine l_mv 3 S rfl ?_; clear S a; intro a S
 refine l_read S H (r_load rfl List.mem_cons_self rfl (fun w hc => ld1 ag34 hc)) rfl rfl rfl ?_; clear S a; intro a S
 refine l_mv 1 S rfl ?_; clear S a; intro a S
 have hcon := nm.appI_ wb _ B ((gb, .cells #[.slice An2 (([] : List Int) ++ [p]).length cn2] 34 (0, 0)) :: (po' ++ (opt go bp br :: (bs ++ L0)))) ht hT An2 cn2 n (([] : List Int) ++ [p]) own2 hn2 H.mid (by have := mw.sdec_len hn; omega) (by simp only [List.length_append, List.length_cons, List.length_nil, wq.dec_len, ints_len]; have := mw.sdec_len hn; omega)
 refine l_call S rfl rfl Tryz.func106 rfl rfl hcon rfl rfl rfl ?_
 rintro e w ⟨An5, cn5, own5, rfl, hn5, hH⟩
 refine ⟨_, rfl, ?_⟩; clear S a; intro a S; clear H hcon; have H := hH.unmid; clear hH
 refine l_mv 1 S rfl ?_; clear S a; intro a S
 refine l_store S H rfl rfl rfl .here (by first | decide | simp [Value.cells]) (fun w u hc hz => st1 sz34 rfl hc hz) rfl rfl ?_; clear S a H; intro w a H S
 refine l_nil ?_
 refine e_then ?_
 refine wp_seq ?_
 refine d_start (id := 7) [5, 7] 8 #[false, false, false, false, false, false, false, false] H rfl rfl rfl (fun w H => ?_)
 refine d_pure (i := 0) #[true, false, false, false, false, false, false, false] S rfl (p_move rfl) (wanted_none rfl) rfl rfl (by kernel_rfl) hq143 ?_; clear S a; intro a S
 refine d_pure (i := 1) #[true, true, false, false, false, false, false, false] S rfl (p_move rfl) (wanted_none rfl) rfl rfl (by kernel_rfl) hq143 ?_; clear S a; intro a S
 refine d_pure (i := 2) #[true, true, true, false, false, false, false, false] S rfl (p_nilCheck rfl) (wanted_none rfl) rfl rfl (by kernel_rfl) hq143 ?_; clear S a; intro a S
 refine d_read (i := 3) #[true, true, true, true, false, false, false, false] S H rfl (r_load rfl List.mem_cons_self rfl (fun w hc => ld1 ag34 hc)) (wanted_none rfl) rfl rfl (by kernel_rfl) hq143 ?_; clear S a; intro a S
 have hcon := delim_ wb _ B _ H
 refine d_call (i := 4) #[true, true, true, true, true, false, false, false] S rfl rfl rfl Tryz.func107 rfl rfl hcon (wanted_none rfl) rfl rfl (by kernel_rfl) rfl ?_
 rintro e w ⟨gd6, rfl, hH⟩; refine ⟨_, rfl, hH.tail, ?_⟩; clear hcon H; have H := hH; clear hH; clear S a; intro a S
 refine d_ownB (i := 5) [_, _] (xs := ((([] : List Int) ++ [p]) ++ mw.sdec n)) (r := [13, 10]) #[true, true, true, true, true, true, false, false] S H rfl rfl rfl rfl hn5 (src_lit (vs := ([13, 10]).map (Value.int .u8)) H List.mem_cons_self Tryz.underlying34 (by simp [Value.oneCell'])) Tryz.underlying34 in5 rfl (by simp only [List.length_append, List.length_cons, List.length_nil, wq.dec_len, ints_len]; have := mw.sdec_len hn; omega) (by decide) (wanted_none rfl) rfl rfl (by kernel_rfl) rfl ?_; clear S a H; intro An7 cn7 own7 w a hn7 H S
 replace H := H.tail
 replace H : HH B wb _ ((gb, .cells #[.slice An5 ((([] : List Int) ++ [p]) ++ mw.sdec n).length cn5] 34 (0, 0)) :: (own7 ++ (po' ++ (opt go bp br :: (bs ++ L0))))) := H
 refine d_pure (i := 6) #[true, true, true, true, true, true, true, false] S rfl (p_nilCheck rfl) (wanted_none rfl) rfl rfl (by kernel_rfl) hq143 ?_; clear S a; intro a S
 refine d_store (i := 7) #[true, true, true, true, true, true, true, true] S H rfl rfl rfl rfl .here (by first | decide | simp [Value.cells]) (fun w u hc hz => st1 sz34 rfl hc hz) (wanted_none rfl) rfl (by kernel_rfl) rfl ?_; clear S a H; intro w a H S
 refine d_done (by kernel_rfl) ?_
 refine e_then ?_
 refine wp_seq ?_
 refine d_start (id := 8) [6] 12 #[false, false, false, false, false, false, false, false, false, false, false, false] H rfl rfl rfl (fun w H => ?_)
 refine d_pure (i := 0) #[true, false, false, false, false, false, false, false, false, false, false, false] S rfl (p_move rfl) (wanted_none rfl) rfl rfl (by kernel_rfl) hq143 ?_; clear S a; intro a S
 refine d_pure (i := 1) #[true, true, false, false, false, false, false, false, false, false, false, false] S rfl (p_move rfl) (wanted_none rfl) rfl rfl (by kernel_rfl) hq143 ?_; clear S a; intro a S
 refine d_pure (i := 2) #[true, true, true, false, false, false, false, false, false, false, false, false] S rfl (p_nilCheck rfl) (wanted_none rfl) rfl rfl (by kernel_rfl) hq143 ?_; clear S a; intro a S
 refine d_read (i := 3) #[true, true, true, true, false, false, false, false, false, false, false, false] S H rfl (r_load rfl List.mem_cons_self rfl (fun w hc => ld1 ag34 hc)) (wanted_none rfl) rfl rfl (by kernel_rfl) hq143 ?_; clear S a; intro a S
 refine d_pure (i := 4) #[true, true, true, true, true, false, false, false, false, false, false, false] S rfl (p_nilCheckI rfl) (wanted_none rfl) rfl rfl (by kernel_rfl) hq143 ?_; clear S a; intro a S
 refine d_pure (i := 5) #[true, true, true, true, true, true, false, false, false, false, false, false] S rfl (p_move rfl) (wanted_none rfl) rfl rfl (by kernel_rfl) hq143 ?_; clear S a; intro a S
 obtain ⟨gr, cr, fr, rfl, rfl, hlc, hcr, hth, hrow⟩ := rp.own_open hn7 (by simp only [List.length_append, List.length_cons, List.length_nil]; omega)
 replace H : HH B wb _ ((gb, .cells #[.slice (some ⟨gr, 0, none⟩) (((([] : List Int) ++ [p]) ++ mw.sdec n) ++ [13, 10]).length cn7] 34 (0, 0)) :: ((gr, .cells cr 5 fr) :: (po' ++ (opt go bp br :: (bs ++ L0))))) := H
 have H2 := HH.front (L1 := ((gb, .cells #[.slice (some ⟨gr, 0, none⟩) (((([] : List Int) ++ [p]) ++ mw.sdec n) ++ [13, 10]).length cn7] 34 (0, 0)) :: ((gr, .cells cr 5 fr) :: (po' ++ [opt go bp br])))) (S := bs) (L2 := L0) (HH.app H (by simp))
 have hcon := wr.bb.write_ wb _ B (((gb, .cells #[.slice (some ⟨gr, 0, none⟩) (((([] : List Int) ++ [p]) ++ mw.sdec n) ++ [13, 10]).length cn7] 34 (0, 0)) :: ((gr, .cells cr 5 fr) :: (po' ++ [opt go bp br]))) ++ L0) b l bs hz gr 0 cn7 cr fr (((([] : List Int) ++ [p]) ++ mw.sdec n) ++ [13, 10]) (by simp) hrow (by simp only [List.length_append, List.length_cons, List.length_nil]; omega) H2 (by simp only [List.length_append, List.length_cons, List.length_nil, wq.dec_len, ints_len]; have := mw.sdec_len hn; omega)
 refine d_invoke_last (i := 6) #[true, true, true, true, true, true, true, false, false, false, false, false] S rfl rfl rfl rfl (meW _ _) Tryz.func157 rfl rfl hcon (wanted_none rfl) rfl rfl (by kernel_rfl) rfl ?_
 rintro e w ⟨rfl, bs2, hz2, hH⟩
 refine ⟨_, rfl, ?_⟩; clear S a; intro a S; clear H H2 hcon
 have H : HH B wb w ((gb, .cells #[.slice (some ⟨gr, 0, none⟩) (((([] : List Int) ++ [p]) ++ mw.sdec n) ++ [13, 10]).length cn7] 34 (0, 0)) :: ((gr, .cells cr 5 fr) :: (po' ++ (opt go bp br :: (bs2 ++ L0))))) := HH.app (HH.front (L1 := bs2) (S := ((gb, .cells #[.slice (some ⟨gr, 0, none⟩) (((([] : List Int) ++ [p]) ++ mw.sdec n) ++ [13, 10]).length cn7] 34 (0, 0)) :: ((gr, .cells cr 5 fr) :: (po' ++ [opt go bp br])))) (L2 := L0) hH) (by simp)
 clear hH
 refine d_pure (i := 7) #[true, true, true, true, true, true, true, true, false, false, false, false] S rfl (p_move rfl) (wanted_none rfl) rfl rfl (by kernel_rfl) hq143 ?_; clear S a; intro a S
 refine d_pure (i := 8) #[true, true, true, true, true, true, true, true, true, false, false, false] S rfl (p_extract rfl rfl) (wanted_none rfl) rfl rfl (by kernel_rfl) hq143 ?_; clear S a; intro a S
 refine d_pure (i := 9) #[true, true, true, true, true, true, true, true, true, true, false, false] S rfl (p_extract rfl rfl) (wanted_none rfl) rfl rfl (by kernel_rfl) hq143 ?_; clear S a; intro a S
 refine d_pure (i := 10) #[true, true, true, true, true, true, true, true, true, true, true, false] S rfl (p_assign rfl) (wanted_none rfl) rfl rfl (by kernel_rfl) hq143 ?_; clear S a; intro a S
 refine d_pure (i := 11) #[true, true, true, true, true, true, true, true, true, true, true, true] S rfl (p_assign rfl) (wanted_none rfl) rfl rfl (by kernel_rfl) hq143 ?_; clear S a; intro a S
 refine d_done (by kernel_rfl) ?_
 refine e_then ?_
 refine wp_seq ?_
 refine c_region ?_
 refine l_mv 2 S rfl ?_; clear S a; intro a S
 refine l_nil ?_
 refine e_then ?_
 refine wp_ret ?_
 refine r_doorA S (wr.pl.put_ wb _ B (opt go bp br :: (bs2 ++ L0)) bp gb cn7 (some ⟨gr, 0, none⟩) (((([] : List Int) ++ [p]) ++ mw.sdec n) ++ [13, 10]) po' [(gr, .cells cr 5 fr)] hp' hn7 H) (invokesA (vs := [.pointer (some ⟨bp, 0, none⟩), .pointer (some ⟨gb, 0, none⟩)]) (caps := []) Tryz.func24 rfl rfl) (fun w' _ => res_t1 rfl rfl) ?_
 rintro w' ⟨po2, hp2, hH⟩
 have H3 := HH.front (L1 := po2) (S := [opt go bp br]) (L2 := bs2 ++ L0) (HH.app hH (by simp))
 exact ⟨rfl, _, ⟨br, po2, bs2, hp2, by simpa [mw.bl] using hz2, rfl⟩, HH.app (L := (opt go bp br :: (po2 ++ (bs2 ++ L0)))) (L' := (opt go bp br :: (po2 ++ bs2)) ++ L0) (HH.app (L' := (opt go bp br :: (po2 ++ (bs2 ++ L0)))) H3 (by simp)) (by simp)⟩
theorem agg_ (wb w0 : World) (B : Nat) (L0 : dc.Bk) (go bp b : Nat) (l : List Int) (ls : List (Nat × Obj)) (hE : Env go bp b l ls) (ht : Lib.TabBelow Tryz.prog B wb "internal/strconv.uint64pow10" .u64 Lib.pow10Tab) (hT : fz.PTab 3 B wb) (H : HH B wb w0 (ls ++ L0)) (hl : l.length ≤ 10000000) (p n : Int) (hn : (-9223372036854775808 ≤ n ∧ n ≤ 9223372036854775807)) (st : Bool) : Calls Tryz.prog 143 #[.iface 46 (.pointer (some ⟨b, 0, none⟩)), .int .u8 p, .int .i64 n, .bool st, .pointer (some ⟨go, 0, none⟩)] w0 fun e w' => e = .returned .nilIface ∧ ∃ ls', Env go bp b (l ++ (p :: ((bif st then [63] else mw.sdec n) ++ [13, 10]))) ls' ∧ HH B wb w' (ls' ++ L0) := by
 cases st
 ·
  exact aggf_ wb w0 B L0 go bp b l ls hE ht hT H hl p n hn
 ·
  exact aggt_ wb w0 B L0 go bp b l ls hE ht hT H hl p n hn
theorem hd42_ (wb w0 : World) (B : Nat) (L0 : dc.Bk) (go bp b : Nat) (l : List Int) (ls : List (Nat × Obj)) (hE : Env go bp b l ls) (ht : Lib.TabBelow Tryz.prog B wb "internal/strconv.uint64pow10" .u64 Lib.pow10Tab) (hT : fz.PTab 3 B wb) (H : HH B wb w0 (ls ++ L0)) (hl : l.length ≤ 10000000) (n : Int) (hn : (-9223372036854775808 ≤ n ∧ n ≤ 9223372036854775807)) (st : Bool) : Calls Tryz.prog 142 #[.agg #[.int .i64 n, .bool st], .iface 46 (.pointer (some ⟨b, 0, none⟩)), .pointer (some ⟨go, 0, none⟩)] w0 fun e w' => e = .returned .nilIface ∧ ∃ ls', Env go bp b (l ++ (42 :: ((bif st then [63] else mw.sdec n) ++ [13, 10]))) ls' ∧ HH B wb w' (ls' ++ L0) := by
 obtain ⟨br, po, bs, hp, hz, rfl⟩ := hE
 replace H : HH B wb w0 (opt go bp br :: (po ++ (bs ++ L0))) := HH.app H (by simp)
 refine c_enter (args := [.agg #[.int .i64 n, .bool st], .iface 46 (.pointer (some ⟨b, 0, none⟩)), .pointer (some ⟨go, 0, none⟩)]) (k := 11) Tryz.func142 rfl rfl rfl (fun a S => ?_)
 refine wp_seq ?_
 refine c_region ?_
 refine l_box (cs := #[.int .i64 n, .bool st]) S H rfl rfl (fun w => bx) rfl rfl rfl ?_; clear S a H; intro g1 w a H S
 refine l_mv 1 S rfl ?_; clear S a; intro a S
 refine l_nil ?_
 refine e_then ?_
 refine wp_seq ?_
 refine c_region ?_
 refine l_mv 1 S rfl ?_; clear S a; intro a S
 refine l_pure S (p_fieldAddr rfl (fun w => fa111_0 w _ _)) rfl rfl rfl ?_; clear S a; intro a S
 refine l_read S H (r_load rfl List.mem_cons_self rfl (fun w hc => ld1 ag3 hc)) rfl rfl rfl ?_; clear S a; intro a S
 refine l_pure S (p_fieldAddr rfl (fun w => fa111_1 w _ _)) rfl rfl rfl ?_; clear S a; intro a S
 refine l_read S H (r_load rfl List.mem_cons_self rfl (fun w hc => ld1 ag4 hc)) rfl rfl rfl ?_; clear S a; intro a S
 refine l_mv 1 S rfl ?_; clear S a; intro a S
 replace H : HH B wb _ ((g1, .cells #[.int .i64 n, .bool st] 111 (0, 0)) :: (opt go bp br :: (po ++ (bs ++ L0)))) := H
 replace H : HH B wb _ (opt go bp br :: (po ++ (bs ++ ((g1, .cells #[.int .i64 n, .bool st] 111 (0, 0)) :: L0)))) := HH.app (HH.front (L1 := [(g1, .cells #[.int .i64 n, .bool st] 111 (0, 0))]) (S := (opt go bp br :: (po ++ bs))) (L2 := L0) (HH.app H (by simp))) (by simp)
 have hcon := agg_ wb _ B ((g1, .cells #[.int .i64 n, .bool st] 111 (0, 0)) :: L0) go bp b l _ ⟨br, po, bs, hp, hz, rfl⟩ ht hT (HH.app (L' := (opt go bp br :: (po ++ bs)) ++ ((g1, .cells #[.int .i64 n, .bool st] 111 (0, 0)) :: L0)) H (by simp)) hl 42 n hn st
 refine l_call S rfl rfl Tryz.func143 rfl rfl (hcon) rfl rfl rfl ?_
 rintro e w ⟨rfl, ls', hE', hH⟩
 refine ⟨_, rfl, ?_⟩; clear S a; intro a S
 clear H hcon
 refine l_mv 1 S rfl ?_; clear S a; intro a S
 refine l_nil ?_
 refine e_then ?_
 refine wp_ret ?_
 exact r_ret1 S rfl rfl ⟨rfl, ls', hE', HH.tail (HH.unmid hH)⟩
theorem hd37_ (wb w0 : World) (B : Nat) (L0 : dc.Bk) (go bp b : Nat) (l : List Int) (ls : List (Nat × Obj)) (hE : Env go bp b l ls) (ht : Lib.TabBelow Tryz.prog B wb "internal/strconv.uint64pow10" .u64 Lib.pow10Tab) (hT : fz.PTab 3 B wb) (H : HH B wb w0 (ls ++ L0)) (hl : l.length ≤ 10000000) (n : Int) (hn : (-9223372036854775808 ≤ n ∧ n ≤ 9223372036854775807)) (st : Bool) : Calls Tryz.prog 144 #[.agg #[.int .i64 n, .bool st], .iface 46 (.pointer (some ⟨b, 0, none⟩)), .pointer (some ⟨go, 0, none⟩)] w0 fun e w' => e = .returned .nilIface ∧ ∃ ls', Env go bp b (l ++ (37 :: ((bif st then [63] else mw.sdec n) ++ [13, 10]))) ls' ∧ HH B wb w' (ls' ++ L0) := by
 obtain ⟨br, po, bs, hp, hz, rfl⟩ := hE
 replace H : HH B wb w0 (opt go bp br :: (po ++ (bs ++ L0))) := HH.app H (by simp)
 refine c_enter (args := [.agg #[.int .i64 n, .bool st], .iface 46 (.pointer (some ⟨b, 0, none⟩)), .pointer (some ⟨go, 0, none⟩)]) (k := 11) Tryz.func144 rfl rfl rfl (fun a S => ?_)
 refine wp_seq ?_
 refine c_region ?_
 refine l_box (cs := #[.int .i64 n, .bool st]) S H rfl rfl (fun w => bx) rfl rfl rfl ?_; clear S a H; intro g1 w a H S
 refine l_mv 1 S rfl ?_; clear S a; intro a S
 refine l_nil ?_
 refine e_then ?_
 refine wp_seq ?_
 refine c_region ?_
 refine l_mv 1 S rfl ?_; clear S a; intro a S
 refine l_pure S (p_fieldAddr rfl (fun w => fa113_0 w _ _)) rfl rfl rfl ?_; clear S a; intro a S
 refine l_read S H (r_load rfl List.mem_cons_self rfl (fun w hc => ld1 ag3 hc)) rfl rfl rfl ?_; clear S a; intro a S
 refine l_pure S (p_fieldAddr rfl (fun w => fa113_1 w _ _)) rfl rfl rfl ?_; clear S a; intro a S
 refine l_read S H (r_load rfl List.mem_cons_self rfl (fun w hc => ld1 ag4 hc)) rfl rfl rfl ?_; clear S a; intro a S
 refine l_mv 1 S rfl ?_; clear S a; intro a S
 replace H : HH B wb _ ((g1, .cells #[.int .i64 n, .bool st] 113 (0, 0)) :: (opt go bp br :: (po ++ (bs ++ L0)))) := H
 replace H : HH B wb _ (opt go bp br :: (po ++ (bs ++ ((g1, .cells #[.int .i64 n, .bool st] 113 (0, 0)) :: L0)))) := HH.app (HH.front (L1 := [(g1, .cells #[.int .i64 n, .bool st] 113 (0, 0))]) (S := (opt go bp br :: (po ++ bs))) (L2 := L0) (HH.app H (by simp))) (by simp)
 have hcon := agg_ wb _ B ((g1, .cells #[.int .i64 n, .bool st] 113 (0, 0)) :: L0) go bp b l _ ⟨br, po, bs, hp, hz, rfl⟩ ht hT (HH.app (L' := (opt go bp br :: (po ++ bs)) ++ ((g1, .cells #[.int .i64 n, .bool st] 113 (0, 0)) :: L0)) H (by simp)) hl 37 n hn st
 refine l_call S rfl rfl Tryz.func143 rfl rfl (hcon) rfl rfl rfl ?_
 rintro e w ⟨rfl, ls', hE', hH⟩
 refine ⟨_, rfl, ?_⟩; clear S a; intro a S
 clear H hcon
 refine l_mv 1 S rfl ?_; clear S a; intro a S
 refine l_nil ?_
 refine e_then ?_
 refine wp_ret ?_
 exact r_ret1 S rfl rfl ⟨rfl, ls', hE', HH.tail (HH.unmid hH)⟩
theorem hd126_ (wb w0 : World) (B : Nat) (L0 : dc.Bk) (go bp b : Nat) (l : List Int) (ls : List (Nat × Obj)) (hE : Env go bp b l ls) (ht : Lib.TabBelow Tryz.prog B wb "internal/strconv.uint64pow10" .u64 Lib.pow10Tab) (hT : fz.PTab 3 B wb) (H : HH B wb w0 (ls ++ L0)) (hl : l.length ≤ 10000000) (n : Int) (hn : (-9223372036854775808 ≤ n ∧ n ≤ 9223372036854775807)) (st : Bool) : Calls Tryz.prog 145 #[.agg #[.int .i64 n, .bool st], .iface 46 (.pointer (some ⟨b, 0, none⟩)), .pointer (some ⟨go, 0, none⟩)] w0 fun e w' => e = .returned .nilIface ∧ ∃ ls', Env go bp b (l ++ (126 :: ((bif st then [63] else mw.sdec n) ++ [13, 10]))) ls' ∧ HH B wb w' (ls' ++ L0) := by
 obtain ⟨br, po, bs, hp, hz, rfl⟩ := hE
 replace H : HH B wb w0 (opt go bp br :: (po ++ (bs ++ L0))) := HH.app H (by simp)
 refine c_enter (args := [.agg #[.int .i64 n, .bool st], .iface 46 (.pointer (some ⟨b, 0, none⟩)), .pointer (some ⟨go, 0, none⟩)]) (k := 11) Tryz.func145 rfl rfl rfl (fun a S => ?_)
 refine wp_seq ?_
 refine c_region ?_
 refine l_box (cs := #[.int .i64 n, .bool st]) S H rfl rfl (fun w => bx) rfl rfl rfl ?_; clear S a H; intro g1 w a H S
 refine l_mv 1 S rfl ?_; clear S a; intro a S
 refine l_nil ?_
 refine e_then ?_
 refine wp_seq ?_
 refine c_region ?_
 refine l_mv 1 S rfl ?_; clear S a; intro a S
 refine l_pure S (p_fieldAddr rfl (fun w => fa115_0 w _ _)) rfl rfl rfl ?_; clear S a; intro a S
 refine l_read S H (r_load rfl List.mem_cons_self rfl (fun w hc => ld1 ag3 hc)) rfl rfl rfl ?_; clear S a; intro a S
 refine l_pure S (p_fieldAddr rfl (fun w => fa115_1 w _ _)) rfl rfl rfl ?_; clear S a; intro a S
 refine l_read S H (r_load rfl List.mem_cons_self rfl (fun w hc => ld1 ag4 hc)) rfl rfl rfl ?_; clear S a; intro a S
 refine l_mv 1 S rfl ?_; clear S a; intro a S
 replace H : HH B wb _ ((g1, .cells #[.int .i64 n, .bool st] 115 (0, 0)) :: (opt go bp br :: (po ++ (bs ++ L0)))) := H
 replace H : HH B wb _ (opt go bp br :: (po ++ (bs ++ ((g1, .cells #[.int .i64 n, .bool st] 115 (0, 0)) :: L0)))) := HH.app (HH.front (L1 := [(g1, .cells #[.int .i64 n, .bool st] 115 (0, 0))]) (S := (opt go bp br :: (po ++ bs))) (L2 := L0) (HH.app H (by simp))) (by simp)
 have hcon := agg_ wb _ B ((g1, .cells #[.int .i64 n, .bool st] 115 (0, 0)) :: L0) go bp b l _ ⟨br, po, bs, hp, hz, rfl⟩ ht hT (HH.app (L' := (opt go bp br :: (po ++ bs)) ++ ((g1, .cells #[.int .i64 n, .bool st] 115 (0, 0)) :: L0)) H (by simp)) hl 126 n hn st
 refine l_call S rfl rfl Tryz.func143 rfl rfl (hcon) rfl rfl rfl ?_
 rintro e w ⟨rfl, ls', hE', hH⟩
 refine ⟨_, rfl, ?_⟩; clear S a; intro a S
 clear H hcon
 refine l_mv 1 S rfl ?_; clear S a; intro a S
 refine l_nil ?_
 refine e_then ?_
 refine wp_ret ?_
 exact r_ret1 S rfl rfl ⟨rfl, ls', hE', HH.tail (HH.unmid hH)⟩
theorem hd124_ (wb w0 : World) (B : Nat) (L0 : dc.Bk) (go bp b : Nat) (l : List Int) (ls : List (Nat × Obj)) (hE : Env go bp b l ls) (ht : Lib.TabBelow Tryz.prog B wb "internal/strconv.uint64pow10" .u64 Lib.pow10Tab) (hT : fz.PTab 3 B wb) (H : HH B wb w0 (ls ++ L0)) (hl : l.length ≤ 10000000) (n : Int) (hn : (-9223372036854775808 ≤ n ∧ n ≤ 9223372036854775807)) : Calls Tryz.prog 146 #[.agg #[.int .i64 n], .iface 46 (.pointer (some ⟨b, 0, none⟩)), .pointer (some ⟨go, 0, none⟩)] w0 fun e w' => e = .returned .nilIface ∧ ∃ ls', Env go bp b (l ++ (124 :: (mw.sdec n ++ [13, 10]))) ls' ∧ HH B wb w' (ls' ++ L0) := by
 obtain ⟨br, po, bs, hp, hz, rfl⟩ := hE
 replace H : HH B wb w0 (opt go bp br :: (po ++ (bs ++ L0))) := HH.app H (by simp)
 refine c_enter (args := [.agg #[.int .i64 n], .iface 46 (.pointer (some ⟨b, 0, none⟩)), .pointer (some ⟨go, 0, none⟩)]) (k := 9) Tryz.func146 rfl rfl rfl (fun a S => ?_)
 refine wp_seq ?_
 refine c_region ?_
 refine l_box (cs := #[.int .i64 n]) S H rfl rfl (fun w => bx) rfl rfl rfl ?_; clear S a H; intro g1 w a H S
 refine l_mv 1 S rfl ?_; clear S a; intro a S
 refine l_nil ?_
 refine e_then ?_
 refine wp_seq ?_
 refine c_region ?_
 refine l_mv 1 S rfl ?_; clear S a; intro a S
 refine l_pure S (p_fieldAddr rfl (fun w => fa117_0 w _ _)) rfl rfl rfl ?_; clear S a; intro a S
 refine l_read S H (r_load rfl List.mem_cons_self rfl (fun w hc => ld1 ag3 hc)) rfl rfl rfl ?_; clear S a; intro a S
 refine l_mv 1 S rfl ?_; clear S a; intro a S
 replace H : HH B wb _ ((g1, .cells #[.int .i64 n] 117 (0, 0)) :: (opt go bp br :: (po ++ (bs ++ L0)))) := H
 replace H : HH B wb _ (opt go bp br :: (po ++ (bs ++ ((g1, .cells #[.int .i64 n] 117 (0, 0)) :: L0)))) := HH.app (HH.front (L1 := [(g1, .cells #[.int .i64 n] 117 (0, 0))]) (S := (opt go bp br :: (po ++ bs))) (L2 := L0) (HH.app H (by simp))) (by simp)
 have hcon := agg_ wb _ B ((g1, .cells #[.int .i64 n] 117 (0, 0)) :: L0) go bp b l _ ⟨br, po, bs, hp, hz, rfl⟩ ht hT (HH.app (L' := (opt go bp br :: (po ++ bs)) ++ ((g1, .cells #[.int .i64 n] 117 (0, 0)) :: L0)) H (by simp)) hl 124 n hn false
 refine l_call S rfl rfl Tryz.func143 rfl rfl (hcon) rfl rfl rfl ?_
 rintro e w ⟨rfl, ls', hE', hH⟩
 refine ⟨_, rfl, ?_⟩; clear S a; intro a S
 clear H hcon
 refine l_mv 1 S rfl ?_; clear S a; intro a S
 refine l_nil ?_
 refine e_then ?_
 refine wp_ret ?_
 exact r_ret1 S rfl rfl ⟨rfl, ls', hE', HH.tail (HH.unmid hH)⟩
theorem hd62_ (wb w0 : World) (B : Nat) (L0 : dc.Bk) (go bp b : Nat) (l : List Int) (ls : List (Nat × Obj)) (hE : Env go bp b l ls) (ht : Lib.TabBelow Tryz.prog B wb "internal/strconv.uint64pow10" .u64 Lib.pow10Tab) (hT : fz.PTab 3 B wb) (H : HH B wb w0 (ls ++ L0)) (hl : l.length ≤ 10000000) (n : Int) (hn : (-9223372036854775808 ≤ n ∧ n ≤ 9223372036854775807)) : Calls Tryz.prog 147 #[.agg #[.int .i64 n], .iface 46 (.pointer (some ⟨b, 0, none⟩)), .pointer (some ⟨go, 0, none⟩)] w0 fun e w' => e = .returned .nilIface ∧ ∃ ls', Env go bp b (l ++ (62 :: (mw.sdec n ++ [13, 10]))) ls' ∧ HH B wb w' (ls' ++ L0) := by
 obtain ⟨br, po, bs, hp, hz, rfl⟩ := hE
 replace H : HH B wb w0 (opt go bp br :: (po ++ (bs ++ L0))) := HH.app H (by simp)
 refine c_enter (args := [.agg #[.int .i64 n], .iface 46 (.pointer (some ⟨b, 0, none⟩)), .pointer (some ⟨go, 0, none⟩)]) (k := 9) Tryz.func147 rfl rfl rfl (fun a S => ?_)
 refine wp_seq ?_
 refine c_region ?_
 refine l_box (cs := #[.int .i64 n]) S H rfl rfl (fun w => bx) rfl rfl rfl ?_; clear S a H; intro g1 w a H S
 refine l_mv 1 S rfl ?_; clear S a; intro a S
 refine l_nil ?_
 refine e_then ?_
 refine wp_seq ?_
 refine c_region ?_
 refine l_mv 1 S rfl ?_; clear S a; intro a S
 refine l_pure S (p_fieldAddr rfl (fun w => fa119_0 w _ _)) rfl rfl rfl ?_; clear S a; intro a S
 refine l_read S H (r_load rfl List.mem_cons_self rfl (fun w hc => ld1 ag3 hc)) rfl rfl rfl ?_; clear S a; intro a S
 refine l_mv 1 S rfl ?_; clear S a; intro a S
 replace H : HH B wb _ ((g1, .cells #[.int .i64 n] 119 (0, 0)) :: (opt go bp br :: (po ++ (bs ++ L0)))) := H
 replace H : HH B wb _ (opt go bp br :: (po ++ (bs ++ ((g1, .cells #[.int .i64 n] 119 (0, 0)) :: L0)))) := HH.app (HH.front (L1 := [(g1, .cells #[.int .i64 n] 119 (0, 0))]) (S := (opt go bp br :: (po ++ bs))) (L2 := L0) (HH.app H (by simp))) (by simp)
 have hcon := agg_ wb _ B ((g1, .cells #[.int .i64 n] 119 (0, 0)) :: L0) go bp b l _ ⟨br, po, bs, hp, hz, rfl⟩ ht hT (HH.app (L' := (opt go bp br :: (po ++ bs)) ++ ((g1, .cells #[.int .i64 n] 119 (0, 0)) :: L0)) H (by simp)) hl 62 n hn false
 refine l_call S rfl rfl Tryz.func143 rfl rfl (hcon) rfl rfl rfl ?_
 rintro e w ⟨rfl, ls', hE', hH⟩
 refine ⟨_, rfl, ?_⟩; clear S a; intro a S
 clear H hcon
 refine l_mv 1 S rfl ?_; clear S a; intro a S
 refine l_nil ?_
 refine e_then ?_
 refine wp_ret ?_
 exact r_ret1 S rfl rfl ⟨rfl, ls', hE', HH.tail (HH.unmid hH)⟩
end ms
end Go.Proofs.YtfbfmcjjohiikaaGreatDoor.mw
end
