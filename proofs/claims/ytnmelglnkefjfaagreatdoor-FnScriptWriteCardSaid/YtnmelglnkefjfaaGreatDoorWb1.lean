/- The pool of rows. -/
import Derived.Test.YtnmelglnkefjfaaGreatDoorWa1
namespace Go.Proofs.YtnmelglnkefjfaaGreatDoor.wr
open Go.RowKit Go.Proofs.HHW Go.Proofs.YtnmelglnkefjfaaGreatDoorW.PrintWords
set_option linter.unusedVariables false
set_option linter.unusedSimpArgs false
namespace pl
theorem ag141 : aggB Tryz.prog 141 = some false := by kernel_rfl
theorem ag147 : aggB Tryz.prog 147 = some false := by kernel_rfl
theorem ag3 : aggB Tryz.prog 3 = some false := by kernel_rfl
theorem ag39 : aggB Tryz.prog 39 = some false := by kernel_rfl
theorem fa143_0 (w : World) (g o : Nat) : (Instr.fieldAt 143 (.pointer (some ⟨g, o, none⟩)) 0).run Tryz.prog w = .ok (.pointer (some ⟨g, o + 0, none⟩)) w := by kernel_rfl
theorem fa143_1 (w : World) (g o : Nat) : (Instr.fieldAt 143 (.pointer (some ⟨g, o, none⟩)) 1).run Tryz.prog w = .ok (.pointer (some ⟨g, o + 1, none⟩)) w := by kernel_rfl
theorem fa143_2 (w : World) (g o : Nat) : (Instr.fieldAt 143 (.pointer (some ⟨g, o, none⟩)) 2).run Tryz.prog w = .ok (.pointer (some ⟨g, o + 2, none⟩)) w := by kernel_rfl
theorem sz141 : szB Tryz.prog 141 = some 1 := by kernel_rfl
theorem sz147 : szB Tryz.prog 147 = some 1 := by kernel_rfl
theorem sz3 : szB Tryz.prog 3 = some 1 := by kernel_rfl
theorem sz39 : szB Tryz.prog 39 = some 1 := by kernel_rfl
theorem sz5 : szB Tryz.prog 5 = some 1 := by kernel_rfl
theorem zv146 : zvB Tryz.prog 146 = some (.agg #[.slice none 0 0]) := by kernel_rfl
theorem zv147 : zvB Tryz.prog 147 = some (.pointer none) := by kernel_rfl
theorem zv39 : zvB Tryz.prog 39 = some (.slice none 0 0) := by kernel_rfl
theorem in147 : (Tryz.prog.info? 147).map (fun i => (i.zero, i.size, i.bytes)) = some (some (.pointer none), 1, 8) := by kernel_rfl
theorem in5 : (Tryz.prog.info? 5).map (fun i => (i.zero, i.size, i.bytes)) = some (some (.int .u8 0), 1, 1) := by kernel_rfl
theorem bld96_0_1_2_3_4 (x0_0f : Fn) (x0_0a x0_0b : Array Value) (x1_0f : Fn) (x1_0a x1_0b : Array Value) (x2_0f : Fn) (x2_0a x2_0b : Array Value) (x3_0f : Fn) (x3_0a x3_0b : Array Value) (x4_0f : Fn) (x4_0a x4_0b : Array Value) : Tryz.prog.built 96 [(0, (.func x0_0f x0_0a x0_0b)), (1, (.func x1_0f x1_0a x1_0b)), (2, (.func x2_0f x2_0a x2_0b)), (3, (.func x3_0f x3_0a x3_0b)), (4, (.func x4_0f x4_0a x4_0b))] = some #[.func x0_0f x0_0a x0_0b, .func x1_0f x1_0a x1_0b, .func x2_0f x2_0a x2_0b, .func x3_0f x3_0a x3_0b, .func x4_0f x4_0a x4_0b, .bool false, .bool false] := by kernel_rfl
theorem bld143_1 (x0_0 : Int) : Tryz.prog.built 143 [(1, (.int .i64 x0_0))] = some #[.int .i64 0, .int .i64 x0_0, .slice none 0 0] := by kernel_rfl

theorem nbp_ (wb w0 : World) (B : Nat) (L0 : dc.Bk) (H : HH B wb w0 L0) : Calls Tryz.prog 35 #[.int .i64 10000000] w0 fun e w' => ∃ bp, e = .returned (.pointer (some ⟨bp, 0, none⟩)) ∧ HH B wb w' ((bp, .cells #[.int .i64 0, .int .i64 10000000, .slice none 0 0] 143 (0, 0)) :: L0) := by
  refine c_enter (args := [.int .i64 10000000]) (k := 5) Tryz.func35 rfl rfl rfl (fun a S => ?_)
  refine wp_seq ?_
  refine c_region ?_
  refine l_pure S (p_assign rfl) rfl rfl rfl ?_; clear S a; intro a S
  refine l_nil ?_
  refine e_then ?_
  refine wp_seq ?_
  refine c_region ?_
  refine l_pure S (p_move rfl) rfl rfl rfl ?_; clear S a; intro a S
  refine l_pure S (p_bld (ps := [(1, .tmp 3)]) rfl (bld143_1 _)) rfl rfl rfl ?_; clear S a; intro a S
  refine l_box (cs := #[.int .i64 0, .int .i64 10000000, .slice none 0 0]) S H rfl rfl (fun w => bx) rfl rfl rfl ?_; clear S a H; intro g1 w a H S
  refine l_pure S (p_assign rfl) rfl rfl rfl ?_; clear S a; intro a S
  refine l_nil ?_
  refine e_then ?_
  refine wp_ret ?_
  exact r_ret1 S rfl rfl ⟨_, rfl, H⟩
theorem nrp_ (wb w0 : World) (B : Nat) (L0 : dc.Bk) (H : HH B wb w0 L0) : Calls Tryz.prog 36 #[] w0 fun e w' => ∃ br, e = .returned (.pointer (some ⟨br, 0, none⟩)) ∧ HH B wb w' L0 := by
  refine c_enter (args := []) (k := 2) Tryz.func36 rfl rfl rfl (fun a S => ?_)
  refine wp_seq ?_
  refine c_region ?_
  refine l_pure S (p_assign rfl) rfl rfl rfl ?_; clear S a; intro a S
  refine l_nil ?_
  refine e_then ?_
  refine wp_seq ?_
  refine c_region ?_
  refine l_alloc (cs := #[.slice none 0 0]) S H rfl (fun w => al zv146) rfl rfl rfl ?_; clear S a H; intro g1 w a H S
  refine l_pure S (p_assign rfl) rfl rfl rfl ?_; clear S a; intro a S
  refine l_nil ?_
  refine e_then ?_
  refine wp_ret ?_
  exact r_ret1 S rfl rfl ⟨_, rfl, H.tail⟩
theorem opts_ (wb w0 : World) (B : Nat) (L0 : dc.Bk) (H : HH B wb w0 L0) : Calls Tryz.prog 17 #[] w0 fun e w' => ∃ go bp br, e = .returned (.pointer (some ⟨go, 0, none⟩)) ∧ HH B wb w' ((go, .cells #[.func (.func 37) #[.pointer (some ⟨bp, 0, none⟩)] #[], .func (.func 38) #[.pointer (some ⟨bp, 0, none⟩)] #[], .func (.func 39) #[.pointer (some ⟨br, 0, none⟩)] #[], .func (.func 40) #[] #[], .func (.func 42) #[] #[], .bool false, .bool false] 96 (0, 0)) :: (bp, .cells #[.int .i64 0, .int .i64 10000000, .slice none 0 0] 143 (0, 0)) :: L0) := by
  refine c_enter (args := []) (k := 13) Tryz.func17 rfl rfl rfl (fun a S => ?_)
  refine wp_seq ?_
  refine c_region ?_
  refine l_pure S (p_assign rfl) rfl rfl rfl ?_; clear S a; intro a S
  refine l_nil ?_
  refine e_then ?_
  refine wp_seq ?_
  refine c_region ?_
  refine l_call S rfl rfl Tryz.func35 rfl rfl (nbp_ wb _ B _ H) rfl rfl rfl ?_
  rintro e w ⟨bp, rfl, hH⟩
  refine ⟨_, rfl, ?_⟩; clear S a; intro a S
  clear H; have H := hH; clear hH
  refine l_pure S (p_assign rfl) rfl rfl rfl ?_; clear S a; intro a S
  refine l_nil ?_
  refine e_then ?_
  refine wp_seq ?_
  refine c_region ?_
  refine l_call S rfl rfl Tryz.func36 rfl rfl (nrp_ wb _ B _ H) rfl rfl rfl ?_
  rintro e w ⟨br, rfl, hH⟩
  refine ⟨_, rfl, ?_⟩; clear S a; intro a S
  clear H; have H := hH; clear hH
  refine l_pure S (p_assign rfl) rfl rfl rfl ?_; clear S a; intro a S
  refine l_nil ?_
  refine e_then ?_
  refine wp_seq ?_
  refine c_region ?_
  refine l_pure S (p_move rfl) rfl rfl rfl ?_; clear S a; intro a S
  refine l_pure S (p_func rfl rfl) rfl rfl rfl ?_; clear S a; intro a S
  refine l_pure S (p_move rfl) rfl rfl rfl ?_; clear S a; intro a S
  refine l_pure S (p_func rfl rfl) rfl rfl rfl ?_; clear S a; intro a S
  refine l_pure S (p_move rfl) rfl rfl rfl ?_; clear S a; intro a S
  refine l_pure S (p_func rfl rfl) rfl rfl rfl ?_; clear S a; intro a S
  refine l_pure S (p_bld (ps := [(0, .tmp 6), (1, .tmp 8), (2, .tmp 10), (3, .func 40), (4, .func 42)]) rfl (bld96_0_1_2_3_4 _ _ _ _ _ _ _ _ _ _ _ _ _ _ _)) rfl rfl rfl ?_; clear S a; intro a S
  refine l_box (cs := #[.func (.func 37) #[.pointer (some ⟨bp, 0, none⟩)] #[], .func (.func 38) #[.pointer (some ⟨bp, 0, none⟩)] #[], .func (.func 39) #[.pointer (some ⟨br, 0, none⟩)] #[], .func (.func 40) #[] #[], .func (.func 42) #[] #[], .bool false, .bool false]) S H rfl rfl (fun w => bx) rfl rfl rfl ?_; clear S a H; intro g1 w a H S
  refine l_pure S (p_assign rfl) rfl rfl rfl ?_; clear S a; intro a S
  refine l_nil ?_
  refine e_then ?_
  refine wp_ret ?_
  exact r_ret1 S rfl rfl ⟨_, bp, br, rfl, H⟩
theorem get0_ (wb w0 : World) (B : Nat) (L0 : dc.Bk) (bp cp : Nat) (n : Int) (Ap : Option Addr) (owr : dc.Bk) (H : HH B wb w0 ((bp, .cells #[.int .i64 n, .int .i64 10000000, .slice Ap 0 cp] 143 (0, 0)) :: (owr ++ L0))) : Calls Tryz.prog 37 #[.pointer (some ⟨bp, 0, none⟩)] w0 fun e w' => ∃ (gb : Nat) (A : Option Addr) (cb : Nat) (ow : dc.Bk), e = .returned (.pointer (some ⟨gb, 0, none⟩)) ∧ OwnB 5 (.slice A ([] : List Int).length cb) [] ow ∧ HH B wb w' ((gb, .cells #[.slice A 0 cb] 39 (0, 0)) :: (ow ++ (((bp, .cells #[.int .i64 n, .int .i64 10000000, .slice Ap 0 cp] 143 (0, 0)) :: owr) ++ L0))) := by
  refine c_enter (args := [.pointer (some ⟨bp, 0, none⟩)]) (k := 38) Tryz.func37 rfl rfl rfl (fun a S => ?_)
  refine wp_seq ?_
  refine c_region ?_
  refine l_pure S (p_assign rfl) rfl rfl rfl ?_; clear S a; intro a S
  refine l_nil ?_
  refine e_then ?_
  refine wp_seq ?_
  refine wp_seq ?_
  refine c_region ?_
  refine l_pure S (p_move rfl) rfl rfl rfl ?_; clear S a; intro a S
  refine l_pure S (p_nilCheck rfl) rfl rfl rfl ?_; clear S a; intro a S
  refine l_pure S (p_fieldAddr rfl (fun w => fa143_2 w _ _)) rfl rfl rfl ?_; clear S a; intro a S
  refine l_read S H (r_load rfl List.mem_cons_self rfl (fun w hc => ld1 ag141 hc)) rfl rfl rfl ?_; clear S a; intro a S
  refine l_pure S (p_len Tryz.underlying141 rfl) rfl rfl rfl ?_; clear S a; intro a S
  refine l_pure S (p_eql rfl rfl) rfl rfl rfl ?_; clear S a; intro a S
  refine l_nil ?_
  refine e_then ?_
  refine c_cond S rfl (fun c2 => ?_) (fun c2 => by have c2 := ne_of_beq_false c2; exfalso; omega)
  have c2 := eq_of_beq c2
  refine wp_seq ?_
  refine c_region ?_
  refine l_make (l := 0) (c := 32) S H rfl rfl rfl Tryz.underlying39 in5 (by omega) (by omega) (by omega) rfl rfl rfl ?_; clear S a H; intro gm cm w a hcm H S
  refine l_alloc (cs := #[.slice none 0 0]) S H rfl (fun w => al zv39) rfl rfl rfl ?_; clear S a H; intro gb w a H S
  refine l_store S H rfl rfl rfl .here (by first | decide | simp [Value.cells]) (fun w u hc hz => st1 sz39 rfl hc hz) rfl rfl ?_; clear S a H; intro w a H S
  refine l_nil ?_
  refine e_then ?_
  refine wp_seq ?_
  refine c_region ?_
  refine l_pure S (p_assign rfl) rfl rfl rfl ?_; clear S a; intro a S
  refine l_nil ?_
  refine e_then ?_
  refine wp_ret ?_
  refine e_then_ret ?_
  exact r_ret1 S rfl rfl ⟨gb, _, _, [(gm, _)], rfl, dc.own_new hcm, H⟩
theorem get1_ (wb w0 : World) (B : Nat) (L0 : dc.Bk) (bp gr gb cp : Nat) (n : Int) (cs : Array Value) (f : Nat × Nat) (h0 : cs[0]? = some (.pointer (some ⟨gb, 0, none⟩))) (h1 : 1 ≤ cp) (H : HH B wb w0 ((bp, .cells #[.int .i64 n, .int .i64 10000000, .slice (some ⟨gr, 0, none⟩) 1 cp] 143 (0, 0)) :: (gr, .cells cs 147 f) :: L0)) : Calls Tryz.prog 37 #[.pointer (some ⟨bp, 0, none⟩)] w0 fun e w' => e = .returned (.pointer (some ⟨gb, 0, none⟩)) ∧ HH B wb w' ((bp, .cells #[.int .i64 n, .int .i64 10000000, .slice (some ⟨gr, 0, none⟩) 0 cp] 143 (0, 0)) :: (gr, .cells cs 147 f) :: L0) := by
  refine c_enter (args := [.pointer (some ⟨bp, 0, none⟩)]) (k := 38) Tryz.func37 rfl rfl rfl (fun a S => ?_)
  refine wp_seq ?_
  refine c_region ?_
  refine l_pure S (p_assign rfl) rfl rfl rfl ?_; clear S a; intro a S
  refine l_nil ?_
  refine e_then ?_
  refine wp_seq ?_
  refine wp_seq ?_
  refine c_region ?_
  refine l_pure S (p_move rfl) rfl rfl rfl ?_; clear S a; intro a S
  refine l_pure S (p_nilCheck rfl) rfl rfl rfl ?_; clear S a; intro a S
  refine l_pure S (p_fieldAddr rfl (fun w => fa143_2 w _ _)) rfl rfl rfl ?_; clear S a; intro a S
  refine l_read S H (r_load rfl List.mem_cons_self rfl (fun w hc => ld1 ag141 hc)) rfl rfl rfl ?_; clear S a; intro a S
  refine l_pure S (p_len Tryz.underlying141 rfl) rfl rfl rfl ?_; clear S a; intro a S
  refine l_pure S (p_eql rfl rfl) rfl rfl rfl ?_; clear S a; intro a S
  refine l_nil ?_
  refine e_then ?_
  refine c_cond S rfl (fun c2 => by have c2 := eq_of_beq c2; exfalso; omega) (fun c2 => ?_)
  have c2 := ne_of_beq_false c2
  refine wp_skip ?_
  refine e_then ?_
  refine wp_seq ?_
  refine d_start (id := 4) [] 13 #[false, false, false, false, false, false, false, false, false, false, false, false, false] H rfl rfl rfl (fun w H => ?_)
  refine d_pure (i := 0) #[true, false, false, false, false, false, false, false, false, false, false, false, false] S rfl (p_move rfl) (wanted_none rfl) rfl rfl (by kernel_rfl) (fun _ _ _ h => h) ?_; clear S a; intro a S
  refine d_pure (i := 1) #[true, true, false, false, false, false, false, false, false, false, false, false, false] S rfl (p_nilCheck rfl) (wanted_none rfl) rfl rfl (by kernel_rfl) (fun _ _ _ h => h) ?_; clear S a; intro a S
  refine d_pure (i := 2) #[true, true, true, false, false, false, false, false, false, false, false, false, false] S rfl (p_fieldAddr rfl (fun w => fa143_2 w _ _)) (wanted_none rfl) rfl rfl (by kernel_rfl) (fun _ _ _ h => h) ?_; clear S a; intro a S
  refine d_read (i := 3) #[true, true, true, true, false, false, false, false, false, false, false, false, false] S H rfl (r_load rfl List.mem_cons_self rfl (fun w hc => ld1 ag141 hc)) (wanted_none rfl) rfl rfl (by kernel_rfl) (fun _ _ _ h => h) ?_; clear S a; intro a S
  refine d_pure (i := 4) #[true, true, true, true, true, false, false, false, false, false, false, false, false] S rfl (p_move rfl) (wanted_none rfl) rfl rfl (by kernel_rfl) (fun _ _ _ h => h) ?_; clear S a; intro a S
  refine d_pure (i := 5) #[true, true, true, true, true, true, false, false, false, false, false, false, false] S rfl (p_nilCheck rfl) (wanted_none rfl) rfl rfl (by kernel_rfl) (fun _ _ _ h => h) ?_; clear S a; intro a S
  refine d_pure (i := 6) #[true, true, true, true, true, true, true, false, false, false, false, false, false] S rfl (p_fieldAddr rfl (fun w => fa143_2 w _ _)) (wanted_none rfl) rfl rfl (by kernel_rfl) (fun _ _ _ h => h) ?_; clear S a; intro a S
  refine d_read (i := 7) #[true, true, true, true, true, true, true, true, false, false, false, false, false] S H rfl (r_load rfl List.mem_cons_self rfl (fun w hc => ld1 ag141 hc)) (wanted_none rfl) rfl rfl (by kernel_rfl) (fun _ _ _ h => h) ?_; clear S a; intro a S
  refine d_pure (i := 8) #[true, true, true, true, true, true, true, true, true, false, false, false, false] S rfl (p_len Tryz.underlying141 rfl) (wanted_none rfl) rfl rfl (by kernel_rfl) (fun _ _ _ h => h) ?_; clear S a; intro a S
  refine d_pure (i := 9) #[true, true, true, true, true, true, true, true, true, true, false, false, false] S rfl (p_sub rfl rfl (nat_sub (x := 1) (y := 1) (by omega) (by omega))) (wanted_none rfl) rfl rfl (by kernel_rfl) (fun _ _ _ h => h) ?_; clear S a; intro a S
  refine d_pure (i := 10) #[true, true, true, true, true, true, true, true, true, true, true, false, false] S rfl (p_indexAddr rfl rfl (fun w => ia_slice Tryz.underlying141 sz147 (by omega) (by omega))) (wanted_none rfl) rfl rfl (by kernel_rfl) (fun _ _ _ h => h) ?_; clear S a; intro a S
  refine d_read (i := 11) #[true, true, true, true, true, true, true, true, true, true, true, true, false] S H rfl (r_load (v := .pointer (some ⟨gb, 0, none⟩)) rfl (List.mem_cons_of_mem _ List.mem_cons_self) (by simpa using h0) (fun w hc => ld1 ag147 hc)) (wanted_none rfl) rfl rfl (by kernel_rfl) (fun _ _ _ h => h) ?_; clear S a; intro a S
  refine d_pure (i := 12) #[true, true, true, true, true, true, true, true, true, true, true, true, true] S rfl (p_assign rfl) (wanted_none rfl) rfl rfl (by kernel_rfl) (fun _ _ _ h => h) ?_; clear S a; intro a S
  refine d_done (by kernel_rfl) ?_
  refine e_then ?_
  refine wp_seq ?_
  refine d_start (id := 5) [14] 15 #[false, false, false, false, false, false, false, false, false, false, false, false, false, false, false] H rfl rfl rfl (fun w H => ?_)
  refine d_pure (i := 0) #[true, false, false, false, false, false, false, false, false, false, false, false, false, false, false] S rfl (p_move rfl) (wanted_none rfl) rfl rfl (by kernel_rfl) (fun _ _ _ h => h) ?_; clear S a; intro a S
  refine d_pure (i := 1) #[true, true, false, false, false, false, false, false, false, false, false, false, false, false, false] S rfl (p_move rfl) (wanted_none rfl) rfl rfl (by kernel_rfl) (fun _ _ _ h => h) ?_; clear S a; intro a S
  refine d_pure (i := 2) #[true, true, true, false, false, false, false, false, false, false, false, false, false, false, false] S rfl (p_nilCheck rfl) (wanted_none rfl) rfl rfl (by kernel_rfl) (fun _ _ _ h => h) ?_; clear S a; intro a S
  refine d_pure (i := 3) #[true, true, true, true, false, false, false, false, false, false, false, false, false, false, false] S rfl (p_fieldAddr rfl (fun w => fa143_2 w _ _)) (wanted_none rfl) rfl rfl (by kernel_rfl) (fun _ _ _ h => h) ?_; clear S a; intro a S
  refine d_read (i := 4) #[true, true, true, true, true, false, false, false, false, false, false, false, false, false, false] S H rfl (r_load rfl List.mem_cons_self rfl (fun w hc => ld1 ag141 hc)) (wanted_none rfl) rfl rfl (by kernel_rfl) (fun _ _ _ h => h) ?_; clear S a; intro a S
  refine d_pure (i := 5) #[true, true, true, true, true, true, false, false, false, false, false, false, false, false, false] S rfl (p_move rfl) (wanted_none rfl) rfl rfl (by kernel_rfl) (fun _ _ _ h => h) ?_; clear S a; intro a S
  refine d_pure (i := 6) #[true, true, true, true, true, true, true, false, false, false, false, false, false, false, false] S rfl (p_nilCheck rfl) (wanted_none rfl) rfl rfl (by kernel_rfl) (fun _ _ _ h => h) ?_; clear S a; intro a S
  refine d_pure (i := 7) #[true, true, true, true, true, true, true, true, false, false, false, false, false, false, false] S rfl (p_fieldAddr rfl (fun w => fa143_2 w _ _)) (wanted_none rfl) rfl rfl (by kernel_rfl) (fun _ _ _ h => h) ?_; clear S a; intro a S
  refine d_read (i := 8) #[true, true, true, true, true, true, true, true, true, false, false, false, false, false, false] S H rfl (r_load rfl List.mem_cons_self rfl (fun w hc => ld1 ag141 hc)) (wanted_none rfl) rfl rfl (by kernel_rfl) (fun _ _ _ h => h) ?_; clear S a; intro a S
  refine d_pure (i := 9) #[true, true, true, true, true, true, true, true, true, true, false, false, false, false, false] S rfl (p_len Tryz.underlying141 rfl) (wanted_none rfl) rfl rfl (by kernel_rfl) (fun _ _ _ h => h) ?_; clear S a; intro a S
  refine d_pure (i := 10) #[true, true, true, true, true, true, true, true, true, true, true, false, false, false, false] S rfl (p_sub rfl rfl (nat_sub (x := 1) (y := 1) (by omega) (by omega))) (wanted_none rfl) rfl rfl (by kernel_rfl) (fun _ _ _ h => h) ?_; clear S a; intro a S
  refine d_pure (i := 11) #[true, true, true, true, true, true, true, true, true, true, true, true, false, false, false] S rfl (p_slice rfl (fun _ _ => o_none) (o_some rfl) (fun _ _ => o_none) (fun w => sl_hi (m := 0) Tryz.underlying141 sz147 rfl (Nat.zero_le _))) (wanted_none rfl) rfl rfl (by kernel_rfl) (fun _ _ _ h => h) ?_; clear S a; intro a S
  refine d_pure (i := 12) #[true, true, true, true, true, true, true, true, true, true, true, true, true, false, false] S rfl (p_nilCheck rfl) (wanted_none rfl) rfl rfl (by kernel_rfl) (fun _ _ _ h => h) ?_; clear S a; intro a S
  refine d_pure (i := 13) #[true, true, true, true, true, true, true, true, true, true, true, true, true, true, false] S rfl (p_fieldAddr rfl (fun w => fa143_2 w _ _)) (wanted_none rfl) rfl rfl (by kernel_rfl) (fun _ _ _ h => h) ?_; clear S a; intro a S
  refine d_store (i := 14) #[true, true, true, true, true, true, true, true, true, true, true, true, true, true, true] S H rfl rfl rfl rfl .here (by first | decide | simp [Value.cells]) (fun w u hc hz => st1 sz141 rfl hc hz) (wanted_none rfl) rfl (by kernel_rfl) rfl ?_; clear S a H; intro w a H S
  refine d_done (by kernel_rfl) ?_
  refine e_then ?_
  refine wp_seq ?_
  refine c_region ?_
  refine l_pure S (p_move rfl) rfl rfl rfl ?_; clear S a; intro a S
  refine l_pure S (p_assign rfl) rfl rfl rfl ?_; clear S a; intro a S
  refine l_nil ?_
  refine e_then ?_
  refine wp_ret ?_
  exact r_ret1 S rfl rfl ⟨rfl, H⟩
theorem get_ (wb w0 : World) (B : Nat) (L0 : dc.Bk) (bp : Nat) (po : dc.Bk) (hp : wq.Pool 143 147 39 5 bp po) (H : HH B wb w0 (po ++ L0)) : Calls Tryz.prog 37 #[.pointer (some ⟨bp, 0, none⟩)] w0 fun e w' => ∃ (po' : dc.Bk), wq.Pool0 143 147 bp po' ∧ (∃ (gb : Nat) (A : Option Addr) (cb : Nat) (ow : dc.Bk), e = .returned (.pointer (some ⟨gb, 0, none⟩)) ∧ OwnB 5 (.slice A ([] : List Int).length cb) [] ow ∧ HH B wb w' ((gb, .cells #[.slice A 0 cb] 39 (0, 0)) :: (ow ++ (po' ++ L0)))) := by
  rcases hp with ⟨n, v, owr, ho, rfl⟩ | ⟨n, v, owr, gb, A, cb, ow, ho, hb, rfl⟩
  · obtain ⟨Ap, cp, rfl, _⟩ := ho.slice
    refine (get0_ wb w0 B L0 bp cp n Ap owr H).mono ?_
    rintro e w' ⟨gb, A, cb, ow, he, hb, hH⟩
    exact ⟨_, ⟨n, _, owr, ho, rfl⟩, gb, A, cb, ow, he, hb, hH⟩
  · rcases ho.2 with ⟨_, h0, _⟩ | ⟨gr, cs, c, f, rfl, hc, hcs, rfl, hth, hr⟩
    · omega
    · have h0 := hr 0 (by simp)
      refine (get1_ wb w0 B (((gb, .cells #[.slice A 0 cb] 39 (0, 0)) :: ow) ++ L0) bp gr gb c n cs f (by simpa using h0) hc (HH.app H (by simp))).mono ?_
      rintro e w' ⟨he, hH⟩
      refine ⟨[_, _], ⟨n, _, [_], ⟨rfl, .inr ⟨gr, cs, c, f, rfl, Nat.zero_le _, hcs, rfl, hth, fun j hj => by simp at hj⟩⟩, rfl⟩, gb, A, cb, ow, he, hb, ?_⟩
      have h2 : HH B wb w' ([(bp, .cells #[.int .i64 n, .int .i64 10000000, .slice (some ⟨gr, 0, none⟩) 0 c] 143 (0, 0)), (gr, .cells cs 147 f)] ++ (((gb, .cells #[.slice A 0 cb] 39 (0, 0)) :: ow) ++ L0)) := HH.app hH (by simp)
      exact HH.app h2.front (by simp)
theorem put0_ (wb w0 : World) (B : Nat) (L0 : dc.Bk) (bp gb cp cb m : Nat) (n : Int) (Ap A : Option Addr) (owr owg : dc.Bk) (ho : Own 147 1 (.slice Ap 0 cp) 0 [] owr) (hcut : OwnB 5 (.slice A ([] : List Int).length cb) [] owg) (H : HH B wb w0 ((gb, .cells #[.slice A m cb] 39 (0, 0)) :: (bp, .cells #[.int .i64 n, .int .i64 10000000, .slice Ap 0 cp] 143 (0, 0)) :: (owr ++ (owg ++ L0)))) : CallsD Tryz.prog 38 #[.pointer (some ⟨bp, 0, none⟩), .pointer (some ⟨gb, 0, none⟩)] .returning w0 fun e u' w' => u' = .returning ∧ e = .returned (.tuple #[]) ∧ ∃ po', wq.Pool 143 147 39 5 bp po' ∧ HH B wb w' (po' ++ L0) := by
  refine c_enterD (args := [.pointer (some ⟨bp, 0, none⟩), .pointer (some ⟨gb, 0, none⟩)]) (k := 41) Tryz.func38 rfl rfl rfl (fun a S => ?_)
  refine wp_seq ?_
  refine wp_seq ?_
  refine d_start (id := 0) [11] 12 #[false, false, false, false, false, false, false, false, false, false, false, false] H rfl rfl rfl (fun w H => ?_)
  refine d_pure (i := 0) #[true, false, false, false, false, false, false, false, false, false, false, false] S rfl (p_move rfl) (wanted_none rfl) rfl rfl (by kernel_rfl) (fun _ _ _ h => h) ?_; clear S a; intro a S
  refine d_pure (i := 1) #[true, true, false, false, false, false, false, false, false, false, false, false] S rfl (p_nilCheck rfl) (wanted_none rfl) rfl rfl (by kernel_rfl) (fun _ _ _ h => h) ?_; clear S a; intro a S
  refine d_pure (i := 2) #[true, true, true, false, false, false, false, false, false, false, false, false] S rfl (p_fieldAddr rfl (fun w => fa143_0 w _ _)) (wanted_none rfl) rfl rfl (by kernel_rfl) (fun _ _ _ h => h) ?_; clear S a; intro a S
  refine d_read (i := 3) #[true, true, true, true, false, false, false, false, false, false, false, false] S H rfl (r_load rfl (List.mem_cons_of_mem _ List.mem_cons_self) rfl (fun w hc => ld1 ag3 hc)) (wanted_none rfl) rfl rfl (by kernel_rfl) (fun _ _ _ h => h) ?_; clear S a; intro a S
  refine d_pure (i := 4) #[true, true, true, true, true, false, false, false, false, false, false, false] S rfl (p_move rfl) (wanted_none rfl) rfl rfl (by kernel_rfl) (fun _ _ _ h => h) ?_; clear S a; intro a S
  refine d_pure (i := 5) #[true, true, true, true, true, true, false, false, false, false, false, false] S rfl (p_nilCheck rfl) (wanted_none rfl) rfl rfl (by kernel_rfl) (fun _ _ _ h => h) ?_; clear S a; intro a S
  refine d_read (i := 6) #[true, true, true, true, true, true, true, false, false, false, false, false] S H rfl (r_load rfl List.mem_cons_self rfl (fun w hc => ld1 ag39 hc)) (wanted_none rfl) rfl rfl (by kernel_rfl) (fun _ _ _ h => h) ?_; clear S a; intro a S
  refine d_pure (i := 7) #[true, true, true, true, true, true, true, true, false, false, false, false] S rfl (p_cap Tryz.underlying39 rfl) (wanted_none rfl) rfl rfl (by kernel_rfl) (fun _ _ _ h => h) ?_; clear S a; intro a S
  refine d_pure (i := 8) #[true, true, true, true, true, true, true, true, true, false, false, false] S rfl (p_add rfl rfl rfl) (wanted_none rfl) rfl rfl (by kernel_rfl) (fun _ _ _ h => h) ?_; clear S a; intro a S
  refine d_pure (i := 9) #[true, true, true, true, true, true, true, true, true, true, false, false] S rfl (p_nilCheck rfl) (wanted_none rfl) rfl rfl (by kernel_rfl) (fun _ _ _ h => h) ?_; clear S a; intro a S
  refine d_pure (i := 10) #[true, true, true, true, true, true, true, true, true, true, true, false] S rfl (p_fieldAddr rfl (fun w => fa143_0 w _ _)) (wanted_none rfl) rfl rfl (by kernel_rfl) (fun _ _ _ h => h) ?_; clear S a; intro a S
  refine d_store (i := 11) #[true, true, true, true, true, true, true, true, true, true, true, true] S H rfl rfl rfl rfl (.there .here) (by first | decide | simp [Value.cells]) (fun w u hc hz => st1 sz3 rfl hc hz) (wanted_none rfl) rfl (by kernel_rfl) rfl ?_; clear S a H; intro w a H S
  refine d_done (by kernel_rfl) ?_
  refine e_then ?_
  refine wp_seq ?_
  refine d_start (id := 1) [] 9 #[false, false, false, false, false, false, false, false, false] H rfl rfl rfl (fun w H => ?_)
  refine d_pure (i := 0) #[true, false, false, false, false, false, false, false, false] S rfl (p_move rfl) (wanted_none rfl) rfl rfl (by kernel_rfl) (fun _ _ _ h => h) ?_; clear S a; intro a S
  refine d_pure (i := 1) #[true, true, false, false, false, false, false, false, false] S rfl (p_nilCheck rfl) (wanted_none rfl) rfl rfl (by kernel_rfl) (fun _ _ _ h => h) ?_; clear S a; intro a S
  refine d_pure (i := 2) #[true, true, true, false, false, false, false, false, false] S rfl (p_fieldAddr rfl (fun w => fa143_0 w _ _)) (wanted_none rfl) rfl rfl (by kernel_rfl) (fun _ _ _ h => h) ?_; clear S a; intro a S
  refine d_read (i := 3) #[true, true, true, true, false, false, false, false, false] S H rfl (r_load rfl (List.mem_cons_of_mem _ List.mem_cons_self) rfl (fun w hc => ld1 ag3 hc)) (wanted_none rfl) rfl rfl (by kernel_rfl) (fun _ _ _ h => h) ?_; clear S a; intro a S
  refine d_pure (i := 4) #[true, true, true, true, true, false, false, false, false] S rfl (p_move rfl) (wanted_none rfl) rfl rfl (by kernel_rfl) (fun _ _ _ h => h) ?_; clear S a; intro a S
  refine d_pure (i := 5) #[true, true, true, true, true, true, false, false, false] S rfl (p_nilCheck rfl) (wanted_none rfl) rfl rfl (by kernel_rfl) (fun _ _ _ h => h) ?_; clear S a; intro a S
  refine d_pure (i := 6) #[true, true, true, true, true, true, true, false, false] S rfl (p_fieldAddr rfl (fun w => fa143_1 w _ _)) (wanted_none rfl) rfl rfl (by kernel_rfl) (fun _ _ _ h => h) ?_; clear S a; intro a S
  refine d_read (i := 7) #[true, true, true, true, true, true, true, true, false] S H rfl (r_load rfl (List.mem_cons_of_mem _ List.mem_cons_self) rfl (fun w hc => ld1 ag3 hc)) (wanted_none rfl) rfl rfl (by kernel_rfl) (fun _ _ _ h => h) ?_; clear S a; intro a S
  refine d_pure (i := 8) #[true, true, true, true, true, true, true, true, true] S rfl (p_gtr rfl rfl) (wanted_none rfl) rfl rfl (by kernel_rfl) (fun _ _ _ h => h) ?_; clear S a; intro a S
  refine d_done (by kernel_rfl) ?_
  refine e_then ?_
  refine c_cond S rfl (fun bc2 => ?_) (fun bc2 => ?_)
  · skip
    have c2 := bc2
    have c2 := of_decide_eq_true c2
    refine wp_seq ?_
    refine c_region ?_
    refine l_pure S (p_move rfl) rfl rfl rfl ?_; clear S a; intro a S
    refine l_pure S (p_nilCheck rfl) rfl rfl rfl ?_; clear S a; intro a S
    refine l_pure S (p_fieldAddr rfl (fun w => fa143_0 w _ _)) rfl rfl rfl ?_; clear S a; intro a S
    refine l_store S H rfl rfl rfl (.there .here) (by first | decide | simp [Value.cells]) (fun w u hc hz => st1 sz3 rfl hc hz) rfl rfl ?_; clear S a H; intro w a H S
    refine l_nil ?_
    refine e_then ?_
    refine wp_ret ?_
    refine e_then_ret ?_
    exact r_ret0 S rfl ⟨rfl, _, .inl ⟨0, .slice Ap 0 cp, owr, ho, rfl⟩, H.tail.sub (((List.sublist_append_right owg L0).append_left owr).cons_cons _)⟩
  · skip
    have c2 := bc2
    have c2 := of_decide_eq_false c2
    refine wp_skip ?_
    refine e_then ?_
    refine wp_seq ?_
    refine c_region ?_
    refine l_pure S (p_move rfl) rfl rfl rfl ?_; clear S a; intro a S
    refine l_pure S (p_move rfl) rfl rfl rfl ?_; clear S a; intro a S
    refine l_pure S (p_nilCheck rfl) rfl rfl rfl ?_; clear S a; intro a S
    refine l_read S H (r_load rfl List.mem_cons_self rfl (fun w hc => ld1 ag39 hc)) rfl rfl rfl ?_; clear S a; intro a S
    refine l_pure S (p_slice rfl (fun _ _ => o_none) (o_some rfl) (fun _ _ => o_none) (fun w => sl_hi (m := 0) Tryz.underlying39 sz5 rfl (Nat.zero_le _))) rfl rfl rfl ?_; clear S a; intro a S
    refine l_pure S (p_nilCheck rfl) rfl rfl rfl ?_; clear S a; intro a S
    refine l_store S H rfl rfl rfl .here (by first | decide | simp [Value.cells]) (fun w u hc hz => st1 sz39 rfl hc hz) rfl rfl ?_; clear S a H; intro w a H S
    refine l_nil ?_
    refine e_then ?_
    refine c_region ?_
    refine l_pure S (p_move rfl) rfl rfl rfl ?_; clear S a; intro a S
    refine l_pure S (p_move rfl) rfl rfl rfl ?_; clear S a; intro a S
    refine l_pure S (p_nilCheck rfl) rfl rfl rfl ?_; clear S a; intro a S
    refine l_pure S (p_fieldAddr rfl (fun w => fa143_2 w _ _)) rfl rfl rfl ?_; clear S a; intro a S
    refine l_read S H (r_load rfl (List.mem_cons_of_mem _ List.mem_cons_self) rfl (fun w hc => ld1 ag141 hc)) rfl rfl rfl ?_; clear S a; intro a S
    refine l_pure S (p_move rfl) rfl rfl rfl ?_; clear S a; intro a S
    refine l_lit [.tmp 38] S H rfl rfl Tryz.underlying141 sz147 zv147 rfl rfl (by simp [Value.cells]) rfl rfl rfl ?_; clear S a H; intro gl w a H S
    refine l_own (n := 0) (m := 1) [_, _, _] S (ow := owr) (L := owg ++ L0) H rfl rfl rfl ho (src_lit (c := 1) (vs := [.pointer (some ⟨gb, 0, none⟩)]) H List.mem_cons_self Tryz.underlying141 (by simp [Value.oneCell'])) Tryz.underlying141 in147 rfl (by omega) (by decide) rfl rfl rfl ?_; clear S a H; intro v' owr' w a ho' H S
    obtain ⟨Av, cv, rfl, _⟩ := ho'.slice
    replace H : HH _ _ _ (_ :: _ :: _ :: (owr' ++ (owg ++ L0))) := H
    refine l_pure S (p_nilCheck rfl) rfl rfl rfl ?_; clear S a; intro a S
    refine l_pure S (p_fieldAddr rfl (fun w => fa143_2 w _ _)) rfl rfl rfl ?_; clear S a; intro a S
    refine l_store S H rfl rfl rfl (.there (.there .here)) (by first | decide | simp [Value.cells]) (fun w u hc hz => st1 sz141 rfl hc hz) rfl rfl ?_; clear S a H; intro w a H S
    refine l_nil ?_
    have h2 : HH B wb w ((gl, _) :: (gb, .cells #[.slice A 0 cb] 39 (0, 0)) :: (bp, .cells #[.int .i64 (IntKind.i64.wrap (n + (cb : Int))), .int .i64 10000000, .slice Av 1 cv] 143 (0, 0)) :: (owr' ++ (owg ++ L0))) := H
    exact r_end0 S rfl ⟨rfl, _, .inr ⟨IntKind.i64.wrap (n + (cb : Int)), .slice Av 1 cv, owr', gb, A, cb, owg, ho', hcut, rfl⟩, HH.app h2.tail.poolOut (by simp)⟩
theorem put_ (wb w0 : World) (B : Nat) (L0 : dc.Bk) (bp gb cb : Nat) (A : Option Addr) (l : List Int) (po ow : dc.Bk) (hp : wq.Pool0 143 147 bp po) (hb : OwnB 5 (.slice A l.length cb) l ow) (H : HH B wb w0 ((gb, .cells #[.slice A l.length cb] 39 (0, 0)) :: (ow ++ (po ++ L0)))) : CallsD Tryz.prog 38 #[.pointer (some ⟨bp, 0, none⟩), .pointer (some ⟨gb, 0, none⟩)] .returning w0 fun e u' w' => u' = .returning ∧ e = .returned (.tuple #[]) ∧ ∃ po', wq.Pool 143 147 39 5 bp po' ∧ HH B wb w' (po' ++ L0) := by
  obtain ⟨n, v, owr, ho, rfl⟩ := hp
  obtain ⟨Ap, cp, rfl, _⟩ := ho.slice
  exact put0_ wb w0 B L0 bp gb cp cb l.length n Ap A owr ow ho (rp.own_cut hb) (HH.poolIn (HH.app H (by simp)))
end pl
end Go.Proofs.YtnmelglnkefjfaaGreatDoor.wr
