/- SHA-1: the package, walked. -/
import Derived.Test.YtnmelglnkefjfaaGreatDoorProg
import Derived.Test.YtnmelglnkefjfaaGreatDoorShad
namespace Go.Proofs.YtnmelglnkefjfaaGreatDoor.sha
open Go.RowKit Go.Proofs.HHW Go.Proofs.YtnmelglnkefjfaaGreatDoorW.PrintWords
set_option linter.unusedVariables false
set_option linter.unusedSimpArgs false
namespace im
theorem ag105 : aggB Tryz.prog 105 = some false := by kernel_rfl
theorem ag5 : aggB Tryz.prog 5 = some false := by kernel_rfl
theorem fa168_0 (w : World) (g o : Nat) : (Instr.fieldAt 168 (.pointer (some ⟨g, o, none⟩)) 0).run Tryz.prog w = .ok (.pointer (some ⟨g, o + 0, none⟩)) w := by kernel_rfl
theorem fa168_2 (w : World) (g o : Nat) : (Instr.fieldAt 168 (.pointer (some ⟨g, o, none⟩)) 2).run Tryz.prog w = .ok (.pointer (some ⟨g, o + 69, none⟩)) w := by kernel_rfl
theorem fa168_3 (w : World) (g o : Nat) : (Instr.fieldAt 168 (.pointer (some ⟨g, o, none⟩)) 3).run Tryz.prog w = .ok (.pointer (some ⟨g, o + 70, none⟩)) w := by kernel_rfl
theorem sz105 : szB Tryz.prog 105 = some 1 := by kernel_rfl
theorem sz3 : szB Tryz.prog 3 = some 1 := by kernel_rfl
theorem sz5 : szB Tryz.prog 5 = some 1 := by kernel_rfl
theorem sz53 : szB Tryz.prog 53 = some 1 := by kernel_rfl
theorem zv231 : zvB Tryz.prog 231 = some (.agg (fv (w32 fun _ => 0#32) 16).toArray) := by kernel_rfl
theorem rotl1 (x : BitVec 32) (w0 : World) : Calls Tryz.prog 123 #[.int .u32 (x.toNat : Int), .int .i64 1] w0 fun e w' => e = .returned (.int .u32 ((rot x 1).toNat : Int)) ∧ Below w0.heap.size w0 w' := by
  have H := HH.start w0
  refine c_enter (args := [.int .u32 (x.toNat : Int), .int .i64 1]) (k := 15) Tryz.func123 rfl rfl rfl (fun a S => ?_)
  refine wp_seq ?_
  refine c_region ?_
  refine l_pure S (p_assign rfl) rfl rfl rfl ?_; clear S a; intro a S
  refine l_nil ?_
  refine e_then ?_
  refine wp_seq ?_
  refine c_region ?_
  refine l_pure S (p_move rfl) rfl rfl rfl ?_; clear S a; intro a S
  refine l_pure S (p_conv rfl (fun w => cv_int (Tryz.underlying3) (Tryz.underlying104) (r := 1) (by decide))) rfl rfl rfl ?_; clear S a; intro a S
  refine l_pure S (p_and (r := 1) rfl rfl (by decide)) rfl rfl rfl ?_; clear S a; intro a S
  refine l_pure S (p_assign rfl) rfl rfl rfl ?_; clear S a; intro a S
  refine l_nil ?_
  refine e_then ?_
  refine wp_seq ?_
  refine c_region ?_
  refine l_pure S (p_move rfl) rfl rfl rfl ?_; clear S a; intro a S
  refine l_pure S (p_move rfl) rfl rfl rfl ?_; clear S a; intro a S
  refine l_pure S (p_shl rfl rfl (by decide) (shl32 x (n := 1) rfl (by decide))) rfl rfl rfl ?_; clear S a; intro a S
  refine l_pure S (p_move rfl) rfl rfl rfl ?_; clear S a; intro a S
  refine l_pure S (p_move rfl) rfl rfl rfl ?_; clear S a; intro a S
  refine l_pure S (p_sub (r := 31) rfl rfl (by decide)) rfl rfl rfl ?_; clear S a; intro a S
  refine l_pure S (p_shr rfl rfl (by decide) (shr32 x (n := 31) rfl (by decide))) rfl rfl rfl ?_; clear S a; intro a S
  refine l_pure S (p_or rfl rfl (or32 (x <<< 1) (x >>> 31))) rfl rfl rfl ?_; clear S a; intro a S
  refine l_pure S (p_assign rfl) rfl rfl rfl ?_; clear S a; intro a S
  refine l_nil ?_
  refine e_then ?_
  refine wp_ret ?_
  exact r_ret1 S rfl rfl ⟨rfl, H.below⟩
theorem rotl5 (x : BitVec 32) (w0 : World) : Calls Tryz.prog 123 #[.int .u32 (x.toNat : Int), .int .i64 5] w0 fun e w' => e = .returned (.int .u32 ((rot x 5).toNat : Int)) ∧ Below w0.heap.size w0 w' := by
  have H := HH.start w0
  refine c_enter (args := [.int .u32 (x.toNat : Int), .int .i64 5]) (k := 15) Tryz.func123 rfl rfl rfl (fun a S => ?_)
  refine wp_seq ?_
  refine c_region ?_
  refine l_pure S (p_assign rfl) rfl rfl rfl ?_; clear S a; intro a S
  refine l_nil ?_
  refine e_then ?_
  refine wp_seq ?_
  refine c_region ?_
  refine l_pure S (p_move rfl) rfl rfl rfl ?_; clear S a; intro a S
  refine l_pure S (p_conv rfl (fun w => cv_int (Tryz.underlying3) (Tryz.underlying104) (r := 5) (by decide))) rfl rfl rfl ?_; clear S a; intro a S
  refine l_pure S (p_and (r := 5) rfl rfl (by decide)) rfl rfl rfl ?_; clear S a; intro a S
  refine l_pure S (p_assign rfl) rfl rfl rfl ?_; clear S a; intro a S
  refine l_nil ?_
  refine e_then ?_
  refine wp_seq ?_
  refine c_region ?_
  refine l_pure S (p_move rfl) rfl rfl rfl ?_; clear S a; intro a S
  refine l_pure S (p_move rfl) rfl rfl rfl ?_; clear S a; intro a S
  refine l_pure S (p_shl rfl rfl (by decide) (shl32 x (n := 5) rfl (by decide))) rfl rfl rfl ?_; clear S a; intro a S
  refine l_pure S (p_move rfl) rfl rfl rfl ?_; clear S a; intro a S
  refine l_pure S (p_move rfl) rfl rfl rfl ?_; clear S a; intro a S
  refine l_pure S (p_sub (r := 27) rfl rfl (by decide)) rfl rfl rfl ?_; clear S a; intro a S
  refine l_pure S (p_shr rfl rfl (by decide) (shr32 x (n := 27) rfl (by decide))) rfl rfl rfl ?_; clear S a; intro a S
  refine l_pure S (p_or rfl rfl (or32 (x <<< 5) (x >>> 27))) rfl rfl rfl ?_; clear S a; intro a S
  refine l_pure S (p_assign rfl) rfl rfl rfl ?_; clear S a; intro a S
  refine l_nil ?_
  refine e_then ?_
  refine wp_ret ?_
  exact r_ret1 S rfl rfl ⟨rfl, H.below⟩
theorem rotl30 (x : BitVec 32) (w0 : World) : Calls Tryz.prog 123 #[.int .u32 (x.toNat : Int), .int .i64 30] w0 fun e w' => e = .returned (.int .u32 ((rot x 30).toNat : Int)) ∧ Below w0.heap.size w0 w' := by
  have H := HH.start w0
  refine c_enter (args := [.int .u32 (x.toNat : Int), .int .i64 30]) (k := 15) Tryz.func123 rfl rfl rfl (fun a S => ?_)
  refine wp_seq ?_
  refine c_region ?_
  refine l_pure S (p_assign rfl) rfl rfl rfl ?_; clear S a; intro a S
  refine l_nil ?_
  refine e_then ?_
  refine wp_seq ?_
  refine c_region ?_
  refine l_pure S (p_move rfl) rfl rfl rfl ?_; clear S a; intro a S
  refine l_pure S (p_conv rfl (fun w => cv_int (Tryz.underlying3) (Tryz.underlying104) (r := 30) (by decide))) rfl rfl rfl ?_; clear S a; intro a S
  refine l_pure S (p_and (r := 30) rfl rfl (by decide)) rfl rfl rfl ?_; clear S a; intro a S
  refine l_pure S (p_assign rfl) rfl rfl rfl ?_; clear S a; intro a S
  refine l_nil ?_
  refine e_then ?_
  refine wp_seq ?_
  refine c_region ?_
  refine l_pure S (p_move rfl) rfl rfl rfl ?_; clear S a; intro a S
  refine l_pure S (p_move rfl) rfl rfl rfl ?_; clear S a; intro a S
  refine l_pure S (p_shl rfl rfl (by decide) (shl32 x (n := 30) rfl (by decide))) rfl rfl rfl ?_; clear S a; intro a S
  refine l_pure S (p_move rfl) rfl rfl rfl ?_; clear S a; intro a S
  refine l_pure S (p_move rfl) rfl rfl rfl ?_; clear S a; intro a S
  refine l_pure S (p_sub (r := 2) rfl rfl (by decide)) rfl rfl rfl ?_; clear S a; intro a S
  refine l_pure S (p_shr rfl rfl (by decide) (shr32 x (n := 2) rfl (by decide))) rfl rfl rfl ?_; clear S a; intro a S
  refine l_pure S (p_or rfl rfl (or32 (x <<< 30) (x >>> 2))) rfl rfl rfl ?_; clear S a; intro a S
  refine l_pure S (p_assign rfl) rfl rfl rfl ?_; clear S a; intro a S
  refine l_nil ?_
  refine e_then ?_
  refine wp_ret ?_
  exact r_ret1 S rfl rfl ⟨rfl, H.below⟩
theorem reset (B : Nat) (wb w0 : World) (L0 : List (Nat × Obj)) (g : Nat) (s : St) (x : List Int) (nx ln : Nat) (hx : x.length = 64) (H : HH B wb w0 ((g, .cells (dg s x nx ln).toArray 168 (0, 0)) :: L0)) : Calls Tryz.prog 63 #[.pointer (some ⟨g, 0, none⟩)] w0 fun e w' => e = .returned (.tuple #[]) ∧ HH B wb w' ((g, .cells (dg init x 0 0).toArray 168 (0, 0)) :: L0) := by
  refine c_enter (args := [.pointer (some ⟨g, 0, none⟩)]) (k := 27) Tryz.func63 rfl rfl rfl (fun a S => ?_)
  refine wp_seq ?_
  refine c_region ?_
  refine l_pure S (p_move rfl) rfl rfl rfl ?_; clear S a; intro a S
  refine l_pure S (p_nilCheck rfl) rfl rfl rfl ?_; clear S a; intro a S
  refine l_pure S (p_fieldAddr rfl (fun w => fa168_0 w _ _)) rfl rfl rfl ?_; clear S a; intro a S
  refine l_pure S (p_indexAddr rfl rfl (fun w => ia_array Tryz.underlying106 sz105 (by decide) (by decide))) rfl rfl rfl ?_; clear S a; intro a S
  refine l_store S H rfl rfl rfl (Upd.cast (dg_set_a (s := s) (x := x) (nx := nx) (ln := ln) 1732584193#32) .here) (by rw [show (dg s x nx ln).toArray.size = 71 from dg_len hx]; decide) (fun w u hc hz => st1 sz105 rfl hc hz) rfl rfl ?_; clear S a H; intro w a H S
  refine l_nil ?_
  refine e_then ?_
  refine wp_seq ?_
  refine c_region ?_
  refine l_pure S (p_move rfl) rfl rfl rfl ?_; clear S a; intro a S
  refine l_pure S (p_nilCheck rfl) rfl rfl rfl ?_; clear S a; intro a S
  refine l_pure S (p_fieldAddr rfl (fun w => fa168_0 w _ _)) rfl rfl rfl ?_; clear S a; intro a S
  refine l_pure S (p_indexAddr rfl rfl (fun w => ia_array Tryz.underlying106 sz105 (by decide) (by decide))) rfl rfl rfl ?_; clear S a; intro a S
  refine l_store S H rfl rfl rfl (Upd.cast (dg_set_b (s := (⟨1732584193#32, (s).b, (s).c, (s).d, (s).e⟩ : St)) (x := x) (nx := nx) (ln := ln) 4023233417#32) .here) (by rw [show (dg (⟨1732584193#32, (s).b, (s).c, (s).d, (s).e⟩ : St) x nx ln).toArray.size = 71 from dg_len hx]; decide) (fun w u hc hz => st1 sz105 rfl hc hz) rfl rfl ?_; clear S a H; intro w a H S
  refine l_nil ?_
  refine e_then ?_
  refine wp_seq ?_
  refine c_region ?_
  refine l_pure S (p_move rfl) rfl rfl rfl ?_; clear S a; intro a S
  refine l_pure S (p_nilCheck rfl) rfl rfl rfl ?_; clear S a; intro a S
  refine l_pure S (p_fieldAddr rfl (fun w => fa168_0 w _ _)) rfl rfl rfl ?_; clear S a; intro a S
  refine l_pure S (p_indexAddr rfl rfl (fun w => ia_array Tryz.underlying106 sz105 (by decide) (by decide))) rfl rfl rfl ?_; clear S a; intro a S
  refine l_store S H rfl rfl rfl (Upd.cast (dg_set_c (s := (⟨1732584193#32, 4023233417#32, (s).c, (s).d, (s).e⟩ : St)) (x := x) (nx := nx) (ln := ln) 2562383102#32) .here) (by rw [show (dg (⟨1732584193#32, 4023233417#32, (s).c, (s).d, (s).e⟩ : St) x nx ln).toArray.size = 71 from dg_len hx]; decide) (fun w u hc hz => st1 sz105 rfl hc hz) rfl rfl ?_; clear S a H; intro w a H S
  refine l_nil ?_
  refine e_then ?_
  refine wp_seq ?_
  refine c_region ?_
  refine l_pure S (p_move rfl) rfl rfl rfl ?_; clear S a; intro a S
  refine l_pure S (p_nilCheck rfl) rfl rfl rfl ?_; clear S a; intro a S
  refine l_pure S (p_fieldAddr rfl (fun w => fa168_0 w _ _)) rfl rfl rfl ?_; clear S a; intro a S
  refine l_pure S (p_indexAddr rfl rfl (fun w => ia_array Tryz.underlying106 sz105 (by decide) (by decide))) rfl rfl rfl ?_; clear S a; intro a S
  refine l_store S H rfl rfl rfl (Upd.cast (dg_set_d (s := (⟨1732584193#32, 4023233417#32, 2562383102#32, (s).d, (s).e⟩ : St)) (x := x) (nx := nx) (ln := ln) 271733878#32) .here) (by rw [show (dg (⟨1732584193#32, 4023233417#32, 2562383102#32, (s).d, (s).e⟩ : St) x nx ln).toArray.size = 71 from dg_len hx]; decide) (fun w u hc hz => st1 sz105 rfl hc hz) rfl rfl ?_; clear S a H; intro w a H S
  refine l_nil ?_
  refine e_then ?_
  refine wp_seq ?_
  refine c_region ?_
  refine l_pure S (p_move rfl) rfl rfl rfl ?_; clear S a; intro a S
  refine l_pure S (p_nilCheck rfl) rfl rfl rfl ?_; clear S a; intro a S
  refine l_pure S (p_fieldAddr rfl (fun w => fa168_0 w _ _)) rfl rfl rfl ?_; clear S a; intro a S
  refine l_pure S (p_indexAddr rfl rfl (fun w => ia_array Tryz.underlying106 sz105 (by decide) (by decide))) rfl rfl rfl ?_; clear S a; intro a S
  refine l_store S H rfl rfl rfl (Upd.cast (dg_set_e (s := (⟨1732584193#32, 4023233417#32, 2562383102#32, 271733878#32, (s).e⟩ : St)) (x := x) (nx := nx) (ln := ln) 3285377520#32) .here) (by rw [show (dg (⟨1732584193#32, 4023233417#32, 2562383102#32, 271733878#32, (s).e⟩ : St) x nx ln).toArray.size = 71 from dg_len hx]; decide) (fun w u hc hz => st1 sz105 rfl hc hz) rfl rfl ?_; clear S a H; intro w a H S
  refine l_nil ?_
  refine e_then ?_
  refine wp_seq ?_
  refine c_region ?_
  refine l_pure S (p_move rfl) rfl rfl rfl ?_; clear S a; intro a S
  refine l_pure S (p_nilCheck rfl) rfl rfl rfl ?_; clear S a; intro a S
  refine l_pure S (p_fieldAddr rfl (fun w => fa168_2 w _ _)) rfl rfl rfl ?_; clear S a; intro a S
  refine l_store S H rfl rfl rfl (Upd.cast (dg_set_nx (s := (⟨1732584193#32, 4023233417#32, 2562383102#32, 271733878#32, 3285377520#32⟩ : St)) (x := x) (nx := nx) (ln := ln) hx 0) .here) (by rw [show (dg (⟨1732584193#32, 4023233417#32, 2562383102#32, 271733878#32, 3285377520#32⟩ : St) x nx ln).toArray.size = 71 from dg_len hx]; decide) (fun w u hc hz => st1 sz3 rfl hc hz) rfl rfl ?_; clear S a H; intro w a H S
  refine l_nil ?_
  refine e_then ?_
  refine c_region ?_
  refine l_pure S (p_move rfl) rfl rfl rfl ?_; clear S a; intro a S
  refine l_pure S (p_nilCheck rfl) rfl rfl rfl ?_; clear S a; intro a S
  refine l_pure S (p_fieldAddr rfl (fun w => fa168_3 w _ _)) rfl rfl rfl ?_; clear S a; intro a S
  refine l_store S H rfl rfl rfl (Upd.cast (dg_set_ln (s := (⟨1732584193#32, 4023233417#32, 2562383102#32, 271733878#32, 3285377520#32⟩ : St)) (x := x) (nx := 0) (ln := ln) hx 0) .here) (by rw [show (dg (⟨1732584193#32, 4023233417#32, 2562383102#32, 271733878#32, 3285377520#32⟩ : St) x 0 ln).toArray.size = 71 from dg_len hx]; decide) (fun w u hc hz => st1 sz53 rfl hc hz) rfl rfl ?_; clear S a H; intro w a H S
  refine l_nil ?_
  exact r_end0 S rfl ⟨rfl, H⟩
theorem zv168 : zvB Tryz.prog 168 = some (.agg (dg ⟨0#32, 0#32, 0#32, 0#32, 0#32⟩ (List.replicate 64 0) 0 0).toArray) := by kernel_rfl
set_option maxRecDepth 100000 in
set_option maxHeartbeats 4000000 in
theorem blockG (B : Nat) (wb w0 : World) (L0 : List (Nat × Obj)) (g : Nat) (s : St) (x : List Int) (nx ln : Nat) (hx : x.length = 64) (gp op n c : Nat) (l : List Int) (hn : l.length = n) (hby : ∀ y ∈ l, 0 ≤ y ∧ y ≤ 255) (Hc : HH B wb w0 ((g, .cells (dg s x nx ln).toArray 168 (0, 0)) :: L0)) (hr : RB w0 gp op l) (hc : l.length ≤ c) (hs : l.length ≤ 1000000) : Calls Tryz.prog 99 #[.pointer (some ⟨g, 0, none⟩), .slice (some ⟨gp, op, none⟩) n c] w0 fun e w' => e = .returned (.tuple #[]) ∧ HH B wb w' ((g, .cells (dg (blks s l) x nx ln).toArray 168 (0, 0)) :: L0) := by
  subst hn
  have hat := Hc.at_ _ List.mem_cons_self
  simp only at hat
  have H := HH.start w0
  refine c_enter (args := [.pointer (some ⟨g, 0, none⟩), .slice (some ⟨gp, op, none⟩) l.length c]) (k := 395) Tryz.func99 rfl rfl rfl (fun a S => ?_)
  refine wp_seq ?_
  refine c_region ?_
  refine l_alloc (cs := (fv (w32 fun _ => 0#32) 16).toArray) S H rfl (fun w => al zv231) rfl rfl rfl ?_; clear S a H; intro g1 w a H S
  refine l_nil ?_
  refine e_then ?_
  refine wp_seq ?_
  refine d_start (id := 1) [] 30 #[false, false, false, false, false, false, false, false, false, false, false, false, false, false, false, false, false, false, false, false, false, false, false, false, false, false, false, false, false, false] H rfl rfl rfl (fun w H => ?_)
  refine d_pure (i := 0) #[true, false, false, false, false, false, false, false, false, false, false, false, false, false, false, false, false, false, false, false, false, false, false, false, false, false, false, false, false, false] S rfl (p_move rfl) (wanted_none rfl) rfl rfl (by kernel_rfl) (fun _ _ _ h => h) ?_; clear S a; intro a S
  refine d_pure (i := 1) #[true, true, false, false, false, false, false, false, false, false, false, false, false, false, false, false, false, false, false, false, false, false, false, false, false, false, false, false, false, false] S rfl (p_nilCheck rfl) (wanted_none rfl) rfl rfl (by kernel_rfl) (fun _ _ _ h => h) ?_; clear S a; intro a S
  refine d_pure (i := 2) #[true, true, true, false, false, false, false, false, false, false, false, false, false, false, false, false, false, false, false, false, false, false, false, false, false, false, false, false, false, false] S rfl (p_fieldAddr rfl (fun w => fa168_0 w _ _)) (wanted_none rfl) rfl rfl (by kernel_rfl) (fun _ _ _ h => h) ?_; clear S a; intro a S
  refine d_pure (i := 3) #[true, true, true, true, false, false, false, false, false, false, false, false, false, false, false, false, false, false, false, false, false, false, false, false, false, false, false, false, false, false] S rfl (p_indexAddr rfl rfl (fun w => ia_array Tryz.underlying106 sz105 (by decide) (by decide))) (wanted_none rfl) rfl rfl (by kernel_rfl) (fun _ _ _ h => h) ?_; clear S a; intro a S
  refine d_read (i := 4) #[true, true, true, true, true, false, false, false, false, false, false, false, false, false, false, false, false, false, false, false, false, false, false, false, false, false, false, false, false, false] S H rfl (r_loadO hat rfl rfl (show _ = some (Value.int .u32 ((s).a.toNat : Int)) from rfl) (fun w hc => ld1 ag105 hc)) (wanted_none rfl) rfl rfl (by kernel_rfl) (fun _ _ _ h => h) ?_; clear S a; intro a S
  refine d_pure (i := 5) #[true, true, true, true, true, true, false, false, false, false, false, false, false, false, false, false, false, false, false, false, false, false, false, false, false, false, false, false, false, false] S rfl (p_move rfl) (wanted_none rfl) rfl rfl (by kernel_rfl) (fun _ _ _ h => h) ?_; clear S a; intro a S
  refine d_pure (i := 6) #[true, true, true, true, true, true, true, false, false, false, false, false, false, false, false, false, false, false, false, false, false, false, false, false, false, false, false, false, false, false] S rfl (p_nilCheck rfl) (wanted_none rfl) rfl rfl (by kernel_rfl) (fun _ _ _ h => h) ?_; clear S a; intro a S
  refine d_pure (i := 7) #[true, true, true, true, true, true, true, true, false, false, false, false, false, false, false, false, false, false, false, false, false, false, false, false, false, false, false, false, false, false] S rfl (p_fieldAddr rfl (fun w => fa168_0 w _ _)) (wanted_none rfl) rfl rfl (by kernel_rfl) (fun _ _ _ h => h) ?_; clear S a; intro a S
  refine d_pure (i := 8) #[true, true, true, true, true, true, true, true, true, false, false, false, false, false, false, false, false, false, false, false, false, false, false, false, false, false, false, false, false, false] S rfl (p_indexAddr rfl rfl (fun w => ia_array Tryz.underlying106 sz105 (by decide) (by decide))) (wanted_none rfl) rfl rfl (by kernel_rfl) (fun _ _ _ h => h) ?_; clear S a; intro a S
  refine d_read (i := 9) #[true, true, true, true, true, true, true, true, true, true, false, false, false, false, false, false, false, false, false, false, false, false, false, false, false, false, false, false, false, false] S H rfl (r_loadO hat rfl rfl (show _ = some (Value.int .u32 ((s).b.toNat : Int)) from rfl) (fun w hc => ld1 ag105 hc)) (wanted_none rfl) rfl rfl (by kernel_rfl) (fun _ _ _ h => h) ?_; clear S a; intro a S
  refine d_pure (i := 10) #[true, true, true, true, true, true, true, true, true, true, true, false, false, false, false, false, false, false, false, false, false, false, false, false, false, false, false, false, false, false] S rfl (p_move rfl) (wanted_none rfl) rfl rfl (by kernel_rfl) (fun _ _ _ h => h) ?_; clear S a; intro a S
  refine d_pure (i := 11) #[true, true, true, true, true, true, true, true, true, true, true, true, false, false, false, false, false, false, false, false, false, false, false, false, false, false, false, false, false, false] S rfl (p_nilCheck rfl) (wanted_none rfl) rfl rfl (by kernel_rfl) (fun _ _ _ h => h) ?_; clear S a; intro a S
  refine d_pure (i := 12) #[true, true, true, true, true, true, true, true, true, true, true, true, true, false, false, false, false, false, false, false, false, false, false, false, false, false, false, false, false, false] S rfl (p_fieldAddr rfl (fun w => fa168_0 w _ _)) (wanted_none rfl) rfl rfl (by kernel_rfl) (fun _ _ _ h => h) ?_; clear S a; intro a S
  refine d_pure (i := 13) #[true, true, true, true, true, true, true, true, true, true, true, true, true, true, false, false, false, false, false, false, false, false, false, false, false, false, false, false, false, false] S rfl (p_indexAddr rfl rfl (fun w => ia_array Tryz.underlying106 sz105 (by decide) (by decide))) (wanted_none rfl) rfl rfl (by kernel_rfl) (fun _ _ _ h => h) ?_; clear S a; intro a S
  refine d_read (i := 14) #[true, true, true, true, true, true, true, true, true, true, true, true, true, true, true, false, false, false, false, false, false, false, false, false, false, false, false, false, false, false] S H rfl (r_loadO hat rfl rfl (show _ = some (Value.int .u32 ((s).c.toNat : Int)) from rfl) (fun w hc => ld1 ag105 hc)) (wanted_none rfl) rfl rfl (by kernel_rfl) (fun _ _ _ h => h) ?_; clear S a; intro a S
  refine d_pure (i := 15) #[true, true, true, true, true, true, true, true, true, true, true, true, true, true, true, true, false, false, false, false, false, false, false, false, false, false, false, false, false, false] S rfl (p_move rfl) (wanted_none rfl) rfl rfl (by kernel_rfl) (fun _ _ _ h => h) ?_; clear S a; intro a S
  refine d_pure (i := 16) #[true, true, true, true, true, true, true, true, true, true, true, true, true, true, true, true, true, false, false, false, false, false, false, false, false, false, false, false, false, false] S rfl (p_nilCheck rfl) (wanted_none rfl) rfl rfl (by kernel_rfl) (fun _ _ _ h => h) ?_; clear S a; intro a S
  refine d_pure (i := 17) #[true, true, true, true, true, true, true, true, true, true, true, true, true, true, true, true, true, true, false, false, false, false, false, false, false, false, false, false, false, false] S rfl (p_fieldAddr rfl (fun w => fa168_0 w _ _)) (wanted_none rfl) rfl rfl (by kernel_rfl) (fun _ _ _ h => h) ?_; clear S a; intro a S
  refine d_pure (i := 18) #[true, true, true, true, true, true, true, true, true, true, true, true, true, true, true, true, true, true, true, false, false, false, false, false, false, false, false, false, false, false] S rfl (p_indexAddr rfl rfl (fun w => ia_array Tryz.underlying106 sz105 (by decide) (by decide))) (wanted_none rfl) rfl rfl (by kernel_rfl) (fun _ _ _ h => h) ?_; clear S a; intro a S
  refine d_read (i := 19) #[true, true, true, true, true, true, true, true, true, true, true, true, true, true, true, true, true, true, true, true, false, false, false, false, false, false, false, false, false, false] S H rfl (r_loadO hat rfl rfl (show _ = some (Value.int .u32 ((s).d.toNat : Int)) from rfl) (fun w hc => ld1 ag105 hc)) (wanted_none rfl) rfl rfl (by kernel_rfl) (fun _ _ _ h => h) ?_; clear S a; intro a S
  refine d_pure (i := 20) #[true, true, true, true, true, true, true, true, true, true, true, true, true, true, true, true, true, true, true, true, true, false, false, false, false, false, false, false, false, false] S rfl (p_move rfl) (wanted_none rfl) rfl rfl (by kernel_rfl) (fun _ _ _ h => h) ?_; clear S a; intro a S
  refine d_pure (i := 21) #[true, true, true, true, true, true, true, true, true, true, true, true, true, true, true, true, true, true, true, true, true, true, false, false, false, false, false, false, false, false] S rfl (p_nilCheck rfl) (wanted_none rfl) rfl rfl (by kernel_rfl) (fun _ _ _ h => h) ?_; clear S a; intro a S
  refine d_pure (i := 22) #[true, true, true, true, true, true, true, true, true, true, true, true, true, true, true, true, true, true, true, true, true, true, true, false, false, false, false, false, false, false] S rfl (p_fieldAddr rfl (fun w => fa168_0 w _ _)) (wanted_none rfl) rfl rfl (by kernel_rfl) (fun _ _ _ h => h) ?_; clear S a; intro a S
  refine d_pure (i := 23) #[true, true, true, true, true, true, true, true, true, true, true, true, true, true, true, true, true, true, true, true, true, true, true, true, false, false, false, false, false, false] S rfl (p_indexAddr rfl rfl (fun w => ia_array Tryz.underlying106 sz105 (by decide) (by decide))) (wanted_none rfl) rfl rfl (by kernel_rfl) (fun _ _ _ h => h) ?_; clear S a; intro a S
  refine d_read (i := 24) #[true, true, true, true, true, true, true, true, true, true, true, true, true, true, true, true, true, true, true, true, true, true, true, true, true, false, false, false, false, false] S H rfl (r_loadO hat rfl rfl (show _ = some (Value.int .u32 ((s).e.toNat : Int)) from rfl) (fun w hc => ld1 ag105 hc)) (wanted_none rfl) rfl rfl (by kernel_rfl) (fun _ _ _ h => h) ?_; clear S a; intro a S
  refine d_pure (i := 25) #[true, true, true, true, true, true, true, true, true, true, true, true, true, true, true, true, true, true, true, true, true, true, true, true, true, true, false, false, false, false] S rfl (p_assign rfl) (wanted_none rfl) rfl rfl (by kernel_rfl) (fun _ _ _ h => h) ?_; clear S a; intro a S
  refine d_pure (i := 26) #[true, true, true, true, true, true, true, true, true, true, true, true, true, true, true, true, true, true, true, true, true, true, true, true, true, true, true, false, false, false] S rfl (p_assign rfl) (wanted_none rfl) rfl rfl (by kernel_rfl) (fun _ _ _ h => h) ?_; clear S a; intro a S
  refine d_pure (i := 27) #[true, true, true, true, true, true, true, true, true, true, true, true, true, true, true, true, true, true, true, true, true, true, true, true, true, true, true, true, false, false] S rfl (p_assign rfl) (wanted_none rfl) rfl rfl (by kernel_rfl) (fun _ _ _ h => h) ?_; clear S a; intro a S
  refine d_pure (i := 28) #[true, true, true, true, true, true, true, true, true, true, true, true, true, true, true, true, true, true, true, true, true, true, true, true, true, true, true, true, true, false] S rfl (p_assign rfl) (wanted_none rfl) rfl rfl (by kernel_rfl) (fun _ _ _ h => h) ?_; clear S a; intro a S
  refine d_pure (i := 29) #[true, true, true, true, true, true, true, true, true, true, true, true, true, true, true, true, true, true, true, true, true, true, true, true, true, true, true, true, true, true] S rfl (p_assign rfl) (wanted_none rfl) rfl rfl (by kernel_rfl) (fun _ _ _ h => h) ?_; clear S a; intro a S
  refine d_done (by kernel_rfl) ?_
  refine e_then ?_
  refine wp_seq ?_
  refine wp_block ?_
  refine c_loop (σ := St × List Int × Nat × Nat × (Nat → Wd)) (fun s_ a w => match s_ with | ⟨h, r, o, c, Wf⟩ => SL a 397 [] [(0, .pointer (some ⟨g, 0, none⟩)), (1, .slice (some ⟨gp, o, none⟩) r.length c), (4, .pointer (some ⟨g1, 0, none⟩)), (5, .int .u32 (h.a.toNat : Int)), (6, .int .u32 (h.b.toNat : Int)), (7, .int .u32 (h.c.toNat : Int)), (8, .int .u32 (h.d.toNat : Int)), (9, .int .u32 (h.e.toNat : Int))] ∧ HH (w0.heap.size) w0 w [(g1, .cells (fv (w32 Wf) 16).toArray 231 (0, 0))] ∧ (blks h r = blks s l ∧ RB w0 gp o r ∧ r.length ≤ c ∧ r.length ≤ 1000000 ∧ ∀ y ∈ r, 0 ≤ y ∧ y ≤ 255)) (fun s_ => match s_ with | ⟨h, r, o, c, Wf⟩ => r.length) ⟨s, l, op, c, fun _ => 0#32⟩ ⟨S.only ⟨rfl, rfl, rfl, rfl, rfl, rfl, rfl, rfl, trivial⟩, H, ⟨rfl, hr, hc, hs, hby⟩⟩ ?_
  clear S a H; rintro ⟨h, r, o, c, Wf⟩ a w ⟨S, H, hinv⟩
  obtain ⟨hbk, hr, hrc, hrs, hby⟩ := hinv
  refine wp_seq ?_
  refine wp_seq ?_
  refine c_region ?_
  refine l_pure S (p_move rfl) rfl rfl rfl ?_; clear S a; intro a S
  refine l_pure S (p_len Tryz.underlying39 rfl) rfl rfl rfl ?_; clear S a; intro a S
  refine l_pure S (p_geq rfl rfl) rfl rfl rfl ?_; clear S a; intro a S
  refine l_nil ?_
  refine e_then ?_
  refine c_cond S rfl (fun c3 => ?_) (fun c3 => ?_)
  · skip
    have c3 := of_decide_eq_true c3
    refine wp_skip ?_
    refine e_then ?_
    refine wp_block ?_
    refine wp_seq ?_
    refine wp_seq ?_
    refine c_region ?_
    refine l_pure S (p_assign rfl) rfl rfl rfl ?_; clear S a; intro a S
    refine l_nil ?_
    refine e_then ?_
    refine wp_block ?_
    rw [← fillT0 (mw r) Wf] at H
    refine c_loop (σ := Nat) (fun s_ a w => match s_ with | t => SL a 397 [] [(0, .pointer (some ⟨g, 0, none⟩)), (1, .slice (some ⟨gp, o, none⟩) r.length c), (4, .pointer (some ⟨g1, 0, none⟩)), (5, .int .u32 (h.a.toNat : Int)), (6, .int .u32 (h.b.toNat : Int)), (7, .int .u32 (h.c.toNat : Int)), (8, .int .u32 (h.d.toNat : Int)), (9, .int .u32 (h.e.toNat : Int)), (10, .int .i64 (t : Int))] ∧ HH (w0.heap.size) w0 w [(g1, .cells (fv (w32 (fillT (mw r) Wf t)) 16).toArray 231 (0, 0))] ∧ (t ≤ 16)) (fun s_ => match s_ with | t => 16 - t) 0 ⟨S.only ⟨rfl, rfl, rfl, rfl, rfl, rfl, rfl, rfl, rfl, trivial⟩, H, Nat.zero_le _⟩ ?_
    clear S a H; rintro t a w ⟨S, H, hinv⟩
    refine wp_seq ?_
    refine wp_seq ?_
    refine c_region ?_
    refine l_pure S (p_move rfl) rfl rfl rfl ?_; clear S a; intro a S
    refine l_pure S (p_lss rfl rfl) rfl rfl rfl ?_; clear S a; intro a S
    refine l_nil ?_
    refine e_then ?_
    refine c_cond S rfl (fun c5 => ?_) (fun c5 => ?_)
    · skip
      have c5 := of_decide_eq_true c5
      refine wp_skip ?_
      refine e_then ?_
      refine wp_seq ?_
      refine wp_block ?_
      refine wp_seq ?_
      refine c_region ?_
      refine l_pure S (p_move rfl) rfl rfl rfl ?_; clear S a; intro a S
      refine l_pure S (p_mul rfl rfl (nat_mul (x := t) (y := 4) (by omega))) rfl rfl rfl ?_; clear S a; intro a S
      refine l_pure S (p_assign rfl) rfl rfl rfl ?_; clear S a; intro a S
      refine l_nil ?_
      refine e_then ?_
      refine d_start (id := 7) [31] 32 #[false, false, false, false, false, false, false, false, false, false, false, false, false, false, false, false, false, false, false, false, false, false, false, false, false, false, false, false, false, false, false, false] H rfl rfl rfl (fun w H => ?_)
      refine d_pure (i := 0) #[true, false, false, false, false, false, false, false, false, false, false, false, false, false, false, false, false, false, false, false, false, false, false, false, false, false, false, false, false, false, false, false] S rfl (p_move rfl) (wanted_none rfl) rfl rfl (by kernel_rfl) (fun _ _ _ h => h) ?_; clear S a; intro a S
      refine d_pure (i := 1) #[true, true, false, false, false, false, false, false, false, false, false, false, false, false, false, false, false, false, false, false, false, false, false, false, false, false, false, false, false, false, false, false] S rfl (p_move rfl) (wanted_none rfl) rfl rfl (by kernel_rfl) (fun _ _ _ h => h) ?_; clear S a; intro a S
      refine d_pure (i := 2) #[true, true, true, false, false, false, false, false, false, false, false, false, false, false, false, false, false, false, false, false, false, false, false, false, false, false, false, false, false, false, false, false] S rfl (p_move rfl) (wanted_none rfl) rfl rfl (by kernel_rfl) (fun _ _ _ h => h) ?_; clear S a; intro a S
      refine d_pure (i := 3) #[true, true, true, true, false, false, false, false, false, false, false, false, false, false, false, false, false, false, false, false, false, false, false, false, false, false, false, false, false, false, false, false] S rfl (p_indexAddr rfl rfl (fun w => ia_slice Tryz.underlying39 sz5 (by omega) (by omega))) (wanted_none rfl) rfl rfl (by kernel_rfl) (fun _ _ _ h => h) ?_; clear S a; intro a S
      refine d_read (i := 4) #[true, true, true, true, true, false, false, false, false, false, false, false, false, false, false, false, false, false, false, false, false, false, false, false, false, false, false, false, false, false, false, false] S H rfl (r_byte (l := r) (i := (t * 4)) (v := ((b8 r ((t * 4))).toNat : Int)) rfl (by omega) ag5 hr rfl (ints_range' r hby _ (by omega))) (wanted_none rfl) rfl rfl (by kernel_rfl) (fun _ _ _ h => h) ?_; clear S a; intro a S
      refine d_pure (i := 5) #[true, true, true, true, true, true, false, false, false, false, false, false, false, false, false, false, false, false, false, false, false, false, false, false, false, false, false, false, false, false, false, false] S rfl (p_conv rfl (fun w => cv_int (Tryz.underlying5) (Tryz.underlying105) (w8to32 (b8 r ((t * 4)))))) (wanted_none rfl) rfl rfl (by kernel_rfl) (fun _ _ _ h => h) ?_; clear S a; intro a S
      refine d_pure (i := 6) #[true, true, true, true, true, true, true, false, false, false, false, false, false, false, false, false, false, false, false, false, false, false, false, false, false, false, false, false, false, false, false, false] S rfl (p_shl rfl rfl (by decide) (shl32 ((b8 r ((t * 4))).setWidth 32) (n := 24) rfl (by decide))) (wanted_none rfl) rfl rfl (by kernel_rfl) (fun _ _ _ h => h) ?_; clear S a; intro a S
      refine d_pure (i := 7) #[true, true, true, true, true, true, true, true, false, false, false, false, false, false, false, false, false, false, false, false, false, false, false, false, false, false, false, false, false, false, false, false] S rfl (p_move rfl) (wanted_none rfl) rfl rfl (by kernel_rfl) (fun _ _ _ h => h) ?_; clear S a; intro a S
      refine d_pure (i := 8) #[true, true, true, true, true, true, true, true, true, false, false, false, false, false, false, false, false, false, false, false, false, false, false, false, false, false, false, false, false, false, false, false] S rfl (p_move rfl) (wanted_none rfl) rfl rfl (by kernel_rfl) (fun _ _ _ h => h) ?_; clear S a; intro a S
      refine d_pure (i := 9) #[true, true, true, true, true, true, true, true, true, true, false, false, false, false, false, false, false, false, false, false, false, false, false, false, false, false, false, false, false, false, false, false] S rfl (p_add rfl rfl (nat_add (x := (t * 4)) (y := 1) (by omega))) (wanted_none rfl) rfl rfl (by kernel_rfl) (fun _ _ _ h => h) ?_; clear S a; intro a S
      refine d_pure (i := 10) #[true, true, true, true, true, true, true, true, true, true, true, false, false, false, false, false, false, false, false, false, false, false, false, false, false, false, false, false, false, false, false, false] S rfl (p_indexAddr rfl rfl (fun w => ia_slice Tryz.underlying39 sz5 (by omega) (by omega))) (wanted_none rfl) rfl rfl (by kernel_rfl) (fun _ _ _ h => h) ?_; clear S a; intro a S
      refine d_read (i := 11) #[true, true, true, true, true, true, true, true, true, true, true, true, false, false, false, false, false, false, false, false, false, false, false, false, false, false, false, false, false, false, false, false] S H rfl (r_byte (l := r) (i := ((t * 4) + 1)) (v := ((b8 r (((t * 4) + 1))).toNat : Int)) rfl (by omega) ag5 hr rfl (ints_range' r hby _ (by omega))) (wanted_none rfl) rfl rfl (by kernel_rfl) (fun _ _ _ h => h) ?_; clear S a; intro a S
      refine d_pure (i := 12) #[true, true, true, true, true, true, true, true, true, true, true, true, true, false, false, false, false, false, false, false, false, false, false, false, false, false, false, false, false, false, false, false] S rfl (p_conv rfl (fun w => cv_int (Tryz.underlying5) (Tryz.underlying105) (w8to32 (b8 r (((t * 4) + 1)))))) (wanted_none rfl) rfl rfl (by kernel_rfl) (fun _ _ _ h => h) ?_; clear S a; intro a S
      refine d_pure (i := 13) #[true, true, true, true, true, true, true, true, true, true, true, true, true, true, false, false, false, false, false, false, false, false, false, false, false, false, false, false, false, false, false, false] S rfl (p_shl rfl rfl (by decide) (shl32 ((b8 r (((t * 4) + 1))).setWidth 32) (n := 16) rfl (by decide))) (wanted_none rfl) rfl rfl (by kernel_rfl) (fun _ _ _ h => h) ?_; clear S a; intro a S
      refine d_pure (i := 14) #[true, true, true, true, true, true, true, true, true, true, true, true, true, true, true, false, false, false, false, false, false, false, false, false, false, false, false, false, false, false, false, false] S rfl (p_or rfl rfl (or32 (((b8 r ((t * 4))).setWidth 32) <<< 24) (((b8 r (((t * 4) + 1))).setWidth 32) <<< 16))) (wanted_none rfl) rfl rfl (by kernel_rfl) (fun _ _ _ h => h) ?_; clear S a; intro a S
      refine d_pure (i := 15) #[true, true, true, true, true, true, true, true, true, true, true, true, true, true, true, true, false, false, false, false, false, false, false, false, false, false, false, false, false, false, false, false] S rfl (p_move rfl) (wanted_none rfl) rfl rfl (by kernel_rfl) (fun _ _ _ h => h) ?_; clear S a; intro a S
      refine d_pure (i := 16) #[true, true, true, true, true, true, true, true, true, true, true, true, true, true, true, true, true, false, false, false, false, false, false, false, false, false, false, false, false, false, false, false] S rfl (p_move rfl) (wanted_none rfl) rfl rfl (by kernel_rfl) (fun _ _ _ h => h) ?_; clear S a; intro a S
      refine d_pure (i := 17) #[true, true, true, true, true, true, true, true, true, true, true, true, true, true, true, true, true, true, false, false, false, false, false, false, false, false, false, false, false, false, false, false] S rfl (p_add rfl rfl (nat_add (x := (t * 4)) (y := 2) (by omega))) (wanted_none rfl) rfl rfl (by kernel_rfl) (fun _ _ _ h => h) ?_; clear S a; intro a S
      refine d_pure (i := 18) #[true, true, true, true, true, true, true, true, true, true, true, true, true, true, true, true, true, true, true, false, false, false, false, false, false, false, false, false, false, false, false, false] S rfl (p_indexAddr rfl rfl (fun w => ia_slice Tryz.underlying39 sz5 (by omega) (by omega))) (wanted_none rfl) rfl rfl (by kernel_rfl) (fun _ _ _ h => h) ?_; clear S a; intro a S
      refine d_read (i := 19) #[true, true, true, true, true, true, true, true, true, true, true, true, true, true, true, true, true, true, true, true, false, false, false, false, false, false, false, false, false, false, false, false] S H rfl (r_byte (l := r) (i := ((t * 4) + 2)) (v := ((b8 r (((t * 4) + 2))).toNat : Int)) rfl (by omega) ag5 hr rfl (ints_range' r hby _ (by omega))) (wanted_none rfl) rfl rfl (by kernel_rfl) (fun _ _ _ h => h) ?_; clear S a; intro a S
      refine d_pure (i := 20) #[true, true, true, true, true, true, true, true, true, true, true, true, true, true, true, true, true, true, true, true, true, false, false, false, false, false, false, false, false, false, false, false] S rfl (p_conv rfl (fun w => cv_int (Tryz.underlying5) (Tryz.underlying105) (w8to32 (b8 r (((t * 4) + 2)))))) (wanted_none rfl) rfl rfl (by kernel_rfl) (fun _ _ _ h => h) ?_; clear S a; intro a S
      refine d_pure (i := 21) #[true, true, true, true, true, true, true, true, true, true, true, true, true, true, true, true, true, true, true, true, true, true, false, false, false, false, false, false, false, false, false, false] S rfl (p_shl rfl rfl (by decide) (shl32 ((b8 r (((t * 4) + 2))).setWidth 32) (n := 8) rfl (by decide))) (wanted_none rfl) rfl rfl (by kernel_rfl) (fun _ _ _ h => h) ?_; clear S a; intro a S
      refine d_pure (i := 22) #[true, true, true, true, true, true, true, true, true, true, true, true, true, true, true, true, true, true, true, true, true, true, true, false, false, false, false, false, false, false, false, false] S rfl (p_or rfl rfl (or32 ((((b8 r ((t * 4))).setWidth 32) <<< 24) ||| (((b8 r (((t * 4) + 1))).setWidth 32) <<< 16)) (((b8 r (((t * 4) + 2))).setWidth 32) <<< 8))) (wanted_none rfl) rfl rfl (by kernel_rfl) (fun _ _ _ h => h) ?_; clear S a; intro a S
      refine d_pure (i := 23) #[true, true, true, true, true, true, true, true, true, true, true, true, true, true, true, true, true, true, true, true, true, true, true, true, false, false, false, false, false, false, false, false] S rfl (p_move rfl) (wanted_none rfl) rfl rfl (by kernel_rfl) (fun _ _ _ h => h) ?_; clear S a; intro a S
      refine d_pure (i := 24) #[true, true, true, true, true, true, true, true, true, true, true, true, true, true, true, true, true, true, true, true, true, true, true, true, true, false, false, false, false, false, false, false] S rfl (p_move rfl) (wanted_none rfl) rfl rfl (by kernel_rfl) (fun _ _ _ h => h) ?_; clear S a; intro a S
      refine d_pure (i := 25) #[true, true, true, true, true, true, true, true, true, true, true, true, true, true, true, true, true, true, true, true, true, true, true, true, true, true, false, false, false, false, false, false] S rfl (p_add rfl rfl (nat_add (x := (t * 4)) (y := 3) (by omega))) (wanted_none rfl) rfl rfl (by kernel_rfl) (fun _ _ _ h => h) ?_; clear S a; intro a S
      refine d_pure (i := 26) #[true, true, true, true, true, true, true, true, true, true, true, true, true, true, true, true, true, true, true, true, true, true, true, true, true, true, true, false, false, false, false, false] S rfl (p_indexAddr rfl rfl (fun w => ia_slice Tryz.underlying39 sz5 (by omega) (by omega))) (wanted_none rfl) rfl rfl (by kernel_rfl) (fun _ _ _ h => h) ?_; clear S a; intro a S
      refine d_read (i := 27) #[true, true, true, true, true, true, true, true, true, true, true, true, true, true, true, true, true, true, true, true, true, true, true, true, true, true, true, true, false, false, false, false] S H rfl (r_byte (l := r) (i := ((t * 4) + 3)) (v := ((b8 r (((t * 4) + 3))).toNat : Int)) rfl (by omega) ag5 hr rfl (ints_range' r hby _ (by omega))) (wanted_none rfl) rfl rfl (by kernel_rfl) (fun _ _ _ h => h) ?_; clear S a; intro a S
      refine d_pure (i := 28) #[true, true, true, true, true, true, true, true, true, true, true, true, true, true, true, true, true, true, true, true, true, true, true, true, true, true, true, true, true, false, false, false] S rfl (p_conv rfl (fun w => cv_int (Tryz.underlying5) (Tryz.underlying105) (w8to32 (b8 r (((t * 4) + 3)))))) (wanted_none rfl) rfl rfl (by kernel_rfl) (fun _ _ _ h => h) ?_; clear S a; intro a S
      refine d_pure (i := 29) #[true, true, true, true, true, true, true, true, true, true, true, true, true, true, true, true, true, true, true, true, true, true, true, true, true, true, true, true, true, true, false, false] S rfl (p_or rfl rfl (or32 (((((b8 r ((t * 4))).setWidth 32) <<< 24) ||| (((b8 r (((t * 4) + 1))).setWidth 32) <<< 16)) ||| (((b8 r (((t * 4) + 2))).setWidth 32) <<< 8)) ((b8 r (((t * 4) + 3))).setWidth 32))) (wanted_none rfl) rfl rfl (by kernel_rfl) (fun _ _ _ h => h) ?_; clear S a; intro a S
      refine d_pure (i := 30) #[true, true, true, true, true, true, true, true, true, true, true, true, true, true, true, true, true, true, true, true, true, true, true, true, true, true, true, true, true, true, true, false] S rfl (p_indexAddr rfl rfl (fun w => ia_array Tryz.underlying231 sz105 (by omega) (by omega))) (wanted_none rfl) rfl rfl (by kernel_rfl) (fun _ _ _ h => h) ?_; clear S a; intro a S
      refine d_store (i := 31) #[true, true, true, true, true, true, true, true, true, true, true, true, true, true, true, true, true, true, true, true, true, true, true, true, true, true, true, true, true, true, true, true] S H rfl rfl rfl rfl .here (by simp [fv_len]; omega) (fun w u hc hz => st1 sz105 rfl hc hz) (wanted_none rfl) rfl (by kernel_rfl) rfl ?_; clear S a H; intro w a H S
      rw [w32_set (fillT (mw r) Wf t) (i := t) ((((((b8 r ((t * 4))).setWidth 32) <<< 24) ||| (((b8 r (((t * 4) + 1))).setWidth 32) <<< 16)) ||| (((b8 r (((t * 4) + 2))).setWidth 32) <<< 8)) ||| ((b8 r (((t * 4) + 3))).setWidth 32)) (by omega)] at H
      rw [show (up (fillT (mw r) Wf t) (t) ((((((b8 r ((t * 4))).setWidth 32) <<< 24) ||| (((b8 r (((t * 4) + 1))).setWidth 32) <<< 16)) ||| (((b8 r (((t * 4) + 2))).setWidth 32) <<< 8)) ||| ((b8 r (((t * 4) + 3))).setWidth 32))) = fillT (mw r) Wf (t + 1) from fillT_up _ _ _ (by unfold mw; rw [Nat.mul_comm 4 t])] at H
      refine d_done (by kernel_rfl) ?_
      refine e_in 3 ?_
      refine e_then ?_
      refine c_region ?_
      refine l_pure S (p_move rfl) rfl rfl rfl ?_; clear S a; intro a S
      refine l_pure S (p_add rfl rfl (nat_add (x := t) (y := 1) (by omega))) rfl rfl rfl ?_; clear S a; intro a S
      refine l_pure S (p_assign rfl) rfl rfl rfl ?_; clear S a; intro a S
      refine l_nil ?_
      refine e_then ?_
      exact ⟨(t + 1), ⟨S.only ⟨rfl, rfl, rfl, rfl, rfl, rfl, rfl, rfl, rfl, trivial⟩, H, by omega⟩, by show 16 - (t + 1) < 16 - t; omega⟩
    · skip
      have c5 := of_decide_eq_false c5
      refine wp_exit ?_
      refine e_then_exit ?_
      refine e_then_exit ?_
      refine e_in_exit ?_
      refine e_then ?_
      refine wp_seq ?_
      refine c_region ?_
      refine l_pure S (p_move rfl) rfl rfl rfl ?_; clear S a; intro a S
      refine l_pure S (p_move rfl) rfl rfl rfl ?_; clear S a; intro a S
      refine l_pure S (p_move rfl) rfl rfl rfl ?_; clear S a; intro a S
      refine l_pure S (p_move rfl) rfl rfl rfl ?_; clear S a; intro a S
      refine l_pure S (p_move rfl) rfl rfl rfl ?_; clear S a; intro a S
      refine l_pure S (p_assign rfl) rfl rfl rfl ?_; clear S a; intro a S
      refine l_pure S (p_assign rfl) rfl rfl rfl ?_; clear S a; intro a S
      refine l_pure S (p_assign rfl) rfl rfl rfl ?_; clear S a; intro a S
      refine l_pure S (p_assign rfl) rfl rfl rfl ?_; clear S a; intro a S
      refine l_pure S (p_assign rfl) rfl rfl rfl ?_; clear S a; intro a S
      refine l_nil ?_
      refine e_then ?_
      refine wp_seq ?_
      refine c_region ?_
      refine l_pure S (p_assign rfl) rfl rfl rfl ?_; clear S a; intro a S
      refine l_nil ?_
      refine e_then ?_
      refine wp_seq ?_
      refine wp_block ?_
      obtain rfl : t = 16 := by omega
      rw [fill16] at H
      refine c_loop (σ := Nat) (fun s_ a w => match s_ with | t => SL a 397 [] [(0, .pointer (some ⟨g, 0, none⟩)), (1, .slice (some ⟨gp, o, none⟩) r.length c), (4, .pointer (some ⟨g1, 0, none⟩)), (5, .int .u32 (h.a.toNat : Int)), (6, .int .u32 (h.b.toNat : Int)), (7, .int .u32 (h.c.toNat : Int)), (8, .int .u32 (h.d.toNat : Int)), (9, .int .u32 (h.e.toNat : Int)), (12, .int .u32 ((rnds (mw r) t h).a.toNat : Int)), (13, .int .u32 ((rnds (mw r) t h).b.toNat : Int)), (14, .int .u32 ((rnds (mw r) t h).c.toNat : Int)), (15, .int .u32 ((rnds (mw r) t h).d.toNat : Int)), (16, .int .u32 ((rnds (mw r) t h).e.toNat : Int)), (17, .int .i64 (t : Int))] ∧ HH (w0.heap.size) w0 w [(g1, .cells (fv (w32 (cir (mw r) 16)) 16).toArray 231 (0, 0))] ∧ (t ≤ 16)) (fun s_ => match s_ with | t => 16 - t) 0 ⟨S.only ⟨rfl, rfl, rfl, rfl, rfl, rfl, rfl, rfl, rfl, rfl, rfl, rfl, rfl, rfl, trivial⟩, H, (by omega)⟩ ?_
      clear S a H; rintro t a w ⟨S, H, hinv⟩
      refine wp_seq ?_
      refine wp_seq ?_
      refine c_region ?_
      refine l_pure S (p_move rfl) rfl rfl rfl ?_; clear S a; intro a S
      refine l_pure S (p_lss rfl rfl) rfl rfl rfl ?_; clear S a; intro a S
      refine l_nil ?_
      refine e_then ?_
      refine c_cond S rfl (fun c7 => ?_) (fun c7 => ?_)
      · skip
        have c7 := of_decide_eq_true c7
        refine wp_skip ?_
        refine e_then ?_
        refine wp_seq ?_
        refine wp_block ?_
        refine wp_seq ?_
        refine c_region ?_
        refine l_pure S (p_move rfl) rfl rfl rfl ?_; clear S a; intro a S
        refine l_pure S (p_move rfl) rfl rfl rfl ?_; clear S a; intro a S
        refine l_pure S (p_and rfl rfl (and32 (rnds (mw r) t h).b (rnds (mw r) t h).c)) rfl rfl rfl ?_; clear S a; intro a S
        refine l_pure S (p_move rfl) rfl rfl rfl ?_; clear S a; intro a S
        refine l_pure S (p_un rfl (fun w => not32 (rnds (mw r) t h).b w)) rfl rfl rfl ?_; clear S a; intro a S
        refine l_pure S (p_move rfl) rfl rfl rfl ?_; clear S a; intro a S
        refine l_pure S (p_and rfl rfl (and32 (~~~ (rnds (mw r) t h).b) (rnds (mw r) t h).d)) rfl rfl rfl ?_; clear S a; intro a S
        refine l_pure S (p_or rfl rfl (or32 ((rnds (mw r) t h).b &&& (rnds (mw r) t h).c) ((~~~ (rnds (mw r) t h).b) &&& (rnds (mw r) t h).d))) rfl rfl rfl ?_; clear S a; intro a S
        refine l_pure S (p_assign rfl) rfl rfl rfl ?_; clear S a; intro a S
        refine l_nil ?_
        refine e_then ?_
        refine wp_seq ?_
        refine d_start (id := 13) [] 13 #[false, false, false, false, false, false, false, false, false, false, false, false, false] H rfl rfl rfl (fun w H => ?_)
        refine d_pure (i := 0) #[true, false, false, false, false, false, false, false, false, false, false, false, false] S rfl (p_move rfl) (wanted_none rfl) rfl rfl (by kernel_rfl) (fun _ _ _ h => h) ?_; clear S a; intro a S
        refine d_pure (i := 2) #[true, false, true, false, false, false, false, false, false, false, false, false, false] S rfl (p_move rfl) (wanted_none rfl) rfl rfl (by kernel_rfl) (fun _ _ _ h => h) ?_; clear S a; intro a S
        refine d_pure (i := 4) #[true, false, true, false, true, false, false, false, false, false, false, false, false] S rfl (p_move rfl) (wanted_none rfl) rfl rfl (by kernel_rfl) (fun _ _ _ h => h) ?_; clear S a; intro a S
        refine d_pure (i := 6) #[true, false, true, false, true, false, true, false, false, false, false, false, false] S rfl (p_move rfl) (wanted_none rfl) rfl rfl (by kernel_rfl) (fun _ _ _ h => h) ?_; clear S a; intro a S
        refine d_pure (i := 7) #[true, false, true, false, true, false, true, true, false, false, false, false, false] S rfl (p_and rfl rfl (nat_mask 4 (by decide) (x := t) (by omega) rfl)) (wanted_none rfl) rfl rfl (by kernel_rfl) (fun _ _ _ h => h) ?_; clear S a; intro a S
        refine d_pure (i := 8) #[true, false, true, false, true, false, true, true, true, false, false, false, false] S rfl (p_indexAddr rfl rfl (fun w => ia_array Tryz.underlying231 sz105 (by omega) (by omega))) (wanted_none rfl) rfl rfl (by kernel_rfl) (fun _ _ _ h => h) ?_; clear S a; intro a S
        refine d_read (i := 9) #[true, false, true, false, true, false, true, true, true, true, false, false, false] S H rfl (r_load rfl List.mem_cons_self (w32_get (cir (mw r) 16) (i := (t % 16)) (by omega) (by omega)) (fun w hc => ld1 ag105 hc)) (wanted_none rfl) rfl rfl (by kernel_rfl) (fun _ _ _ h => h) ?_; clear S a; intro a S
        refine d_call (i := 1) #[true, true, true, false, true, false, true, true, true, true, false, false, false] S rfl rfl rfl Tryz.func123 rfl rfl (rotl5 (rnds (mw r) t h).a w) (wanted_none rfl) rfl rfl (by kernel_rfl) rfl ?_
        rintro e w ⟨rfl, hb⟩
        refine ⟨_, rfl, H.later hb, ?_⟩; replace H := H.later hb; clear hb; clear S a; intro a S
        refine d_pure (i := 3) #[true, true, true, true, true, false, true, true, true, true, false, false, false] S rfl (p_add rfl rfl (add32 (rot (rnds (mw r) t h).a 5) (((rnds (mw r) t h).b &&& (rnds (mw r) t h).c) ||| ((~~~ (rnds (mw r) t h).b) &&& (rnds (mw r) t h).d)))) (wanted_none rfl) rfl rfl (by kernel_rfl) (fun _ _ _ h => h) ?_; clear S a; intro a S
        refine d_pure (i := 5) #[true, true, true, true, true, true, true, true, true, true, false, false, false] S rfl (p_add rfl rfl (add32 ((rot (rnds (mw r) t h).a 5) + (((rnds (mw r) t h).b &&& (rnds (mw r) t h).c) ||| ((~~~ (rnds (mw r) t h).b) &&& (rnds (mw r) t h).d))) (rnds (mw r) t h).e)) (wanted_none rfl) rfl rfl (by kernel_rfl) (fun _ _ _ h => h) ?_; clear S a; intro a S
        refine d_pure (i := 10) #[true, true, true, true, true, true, true, true, true, true, true, false, false] S rfl (p_add rfl rfl (add32 (((rot (rnds (mw r) t h).a 5) + (((rnds (mw r) t h).b &&& (rnds (mw r) t h).c) ||| ((~~~ (rnds (mw r) t h).b) &&& (rnds (mw r) t h).d))) + (rnds (mw r) t h).e) ((cir (mw r) 16) ((t % 16))))) (wanted_none rfl) rfl rfl (by kernel_rfl) (fun _ _ _ h => h) ?_; clear S a; intro a S
        refine d_pure (i := 11) #[true, true, true, true, true, true, true, true, true, true, true, true, false] S rfl (p_add rfl rfl (add32 ((((rot (rnds (mw r) t h).a 5) + (((rnds (mw r) t h).b &&& (rnds (mw r) t h).c) ||| ((~~~ (rnds (mw r) t h).b) &&& (rnds (mw r) t h).d))) + (rnds (mw r) t h).e) + ((cir (mw r) 16) ((t % 16)))) 1518500249#32)) (wanted_none rfl) rfl rfl (by kernel_rfl) (fun _ _ _ h => h) ?_; clear S a; intro a S
        rw [show (((((rot (rnds (mw r) t h).a 5) + (((rnds (mw r) t h).b &&& (rnds (mw r) t h).c) ||| ((~~~ (rnds (mw r) t h).b) &&& (rnds (mw r) t h).d))) + (rnds (mw r) t h).e) + ((cir (mw r) 16) ((t % 16)))) + 1518500249#32) = (rnd (mw r) t (rnds (mw r) t h)).a from next_a (fF0 (by omega) _ _ _) (kF0 (by omega)) (by unfold cir; congr 1; omega)] at S
        refine d_pure (i := 12) #[true, true, true, true, true, true, true, true, true, true, true, true, true] S rfl (p_assign rfl) (wanted_none rfl) rfl rfl (by kernel_rfl) (fun _ _ _ h => h) ?_; clear S a; intro a S
        refine d_done (by kernel_rfl) ?_
        refine e_then ?_
        refine c_region ?_
        refine l_pure S (p_move rfl) rfl rfl rfl ?_; clear S a; intro a S
        refine l_pure S (p_move rfl) rfl rfl rfl ?_; clear S a; intro a S
        refine l_pure S (p_move rfl) rfl rfl rfl ?_; clear S a; intro a S
        refine l_call S rfl rfl Tryz.func123 rfl rfl (rotl30 (rnds (mw r) t h).b w) rfl rfl rfl ?_
        rintro e w ⟨rfl, hb⟩
        refine ⟨_, rfl, ?_⟩; clear S a; intro a S
        replace H := H.later hb; clear hb
        refine l_pure S (p_move rfl) rfl rfl rfl ?_; clear S a; intro a S
        refine l_pure S (p_move rfl) rfl rfl rfl ?_; clear S a; intro a S
        refine l_pure S (p_assign rfl) rfl rfl rfl ?_; clear S a; intro a S
        refine l_pure S (p_assign rfl) rfl rfl rfl ?_; clear S a; intro a S
        refine l_pure S (p_assign rfl) rfl rfl rfl ?_; clear S a; intro a S
        refine l_pure S (p_assign rfl) rfl rfl rfl ?_; clear S a; intro a S
        refine l_pure S (p_assign rfl) rfl rfl rfl ?_; clear S a; intro a S
        refine l_nil ?_
        refine e_in 5 ?_
        refine e_then ?_
        refine c_region ?_
        refine l_pure S (p_move rfl) rfl rfl rfl ?_; clear S a; intro a S
        refine l_pure S (p_add rfl rfl (nat_add (x := t) (y := 1) (by omega))) rfl rfl rfl ?_; clear S a; intro a S
        refine l_pure S (p_assign rfl) rfl rfl rfl ?_; clear S a; intro a S
        refine l_nil ?_
        refine e_then ?_
        exact ⟨(t + 1), ⟨S.only ⟨rfl, rfl, rfl, rfl, rfl, rfl, rfl, rfl, rfl, rfl, rfl, rfl, rfl, rfl, trivial⟩, H, by omega⟩, by show 16 - (t + 1) < 16 - t; omega⟩
      · skip
        have c7 := of_decide_eq_false c7
        refine wp_exit ?_
        refine e_then_exit ?_
        refine e_then_exit ?_
        refine e_in_exit ?_
        refine e_then ?_
        refine wp_seq ?_
        refine wp_block ?_
        obtain rfl : t = 16 := by omega
        refine c_loop (σ := Nat) (fun s_ a w => match s_ with | t => SL a 397 [] [(0, .pointer (some ⟨g, 0, none⟩)), (1, .slice (some ⟨gp, o, none⟩) r.length c), (4, .pointer (some ⟨g1, 0, none⟩)), (5, .int .u32 (h.a.toNat : Int)), (6, .int .u32 (h.b.toNat : Int)), (7, .int .u32 (h.c.toNat : Int)), (8, .int .u32 (h.d.toNat : Int)), (9, .int .u32 (h.e.toNat : Int)), (12, .int .u32 ((rnds (mw r) t h).a.toNat : Int)), (13, .int .u32 ((rnds (mw r) t h).b.toNat : Int)), (14, .int .u32 ((rnds (mw r) t h).c.toNat : Int)), (15, .int .u32 ((rnds (mw r) t h).d.toNat : Int)), (16, .int .u32 ((rnds (mw r) t h).e.toNat : Int)), (17, .int .i64 (t : Int))] ∧ HH (w0.heap.size) w0 w [(g1, .cells (fv (w32 (cir (mw r) t)) 16).toArray 231 (0, 0))] ∧ (16 ≤ t ∧ t ≤ 20)) (fun s_ => match s_ with | t => 20 - t) 16 ⟨S.only ⟨rfl, rfl, rfl, rfl, rfl, rfl, rfl, rfl, rfl, rfl, rfl, rfl, rfl, rfl, trivial⟩, H, ⟨Nat.le_refl _, by omega⟩⟩ ?_
        clear S a H; rintro t a w ⟨S, H, hinv⟩
        refine wp_seq ?_
        refine wp_seq ?_
        refine c_region ?_
        refine l_pure S (p_move rfl) rfl rfl rfl ?_; clear S a; intro a S
        refine l_pure S (p_lss rfl rfl) rfl rfl rfl ?_; clear S a; intro a S
        refine l_nil ?_
        refine e_then ?_
        refine c_cond S rfl (fun c9 => ?_) (fun c9 => ?_)
        · skip
          have c9 := of_decide_eq_true c9
          refine wp_skip ?_
          refine e_then ?_
          refine wp_seq ?_
          refine wp_block ?_
          refine wp_seq ?_
          refine d_start (id := 17) [] 23 #[false, false, false, false, false, false, false, false, false, false, false, false, false, false, false, false, false, false, false, false, false, false, false] H rfl rfl rfl (fun w H => ?_)
          refine d_pure (i := 0) #[true, false, false, false, false, false, false, false, false, false, false, false, false, false, false, false, false, false, false, false, false, false, false] S rfl (p_move rfl) (wanted_none rfl) rfl rfl (by kernel_rfl) (fun _ _ _ h => h) ?_; clear S a; intro a S
          refine d_pure (i := 1) #[true, true, false, false, false, false, false, false, false, false, false, false, false, false, false, false, false, false, false, false, false, false, false] S rfl (p_sub rfl rfl (nat_sub (x := t) (y := 3) (by omega) (by omega))) (wanted_none rfl) rfl rfl (by kernel_rfl) (fun _ _ _ h => h) ?_; clear S a; intro a S
          refine d_pure (i := 2) #[true, true, true, false, false, false, false, false, false, false, false, false, false, false, false, false, false, false, false, false, false, false, false] S rfl (p_and rfl rfl (nat_mask 4 (by decide) (x := (t - 3)) (by omega) rfl)) (wanted_none rfl) rfl rfl (by kernel_rfl) (fun _ _ _ h => h) ?_; clear S a; intro a S
          refine d_pure (i := 3) #[true, true, true, true, false, false, false, false, false, false, false, false, false, false, false, false, false, false, false, false, false, false, false] S rfl (p_indexAddr rfl rfl (fun w => ia_array Tryz.underlying231 sz105 (by omega) (by omega))) (wanted_none rfl) rfl rfl (by kernel_rfl) (fun _ _ _ h => h) ?_; clear S a; intro a S
          refine d_read (i := 4) #[true, true, true, true, true, false, false, false, false, false, false, false, false, false, false, false, false, false, false, false, false, false, false] S H rfl (r_load rfl List.mem_cons_self (w32_get (cir (mw r) t) (i := ((t - 3) % 16)) (by omega) (by omega)) (fun w hc => ld1 ag105 hc)) (wanted_none rfl) rfl rfl (by kernel_rfl) (fun _ _ _ h => h) ?_; clear S a; intro a S
          refine d_pure (i := 5) #[true, true, true, true, true, true, false, false, false, false, false, false, false, false, false, false, false, false, false, false, false, false, false] S rfl (p_move rfl) (wanted_none rfl) rfl rfl (by kernel_rfl) (fun _ _ _ h => h) ?_; clear S a; intro a S
          refine d_pure (i := 6) #[true, true, true, true, true, true, true, false, false, false, false, false, false, false, false, false, false, false, false, false, false, false, false] S rfl (p_sub rfl rfl (nat_sub (x := t) (y := 8) (by omega) (by omega))) (wanted_none rfl) rfl rfl (by kernel_rfl) (fun _ _ _ h => h) ?_; clear S a; intro a S
          refine d_pure (i := 7) #[true, true, true, true, true, true, true, true, false, false, false, false, false, false, false, false, false, false, false, false, false, false, false] S rfl (p_and rfl rfl (nat_mask 4 (by decide) (x := (t - 8)) (by omega) rfl)) (wanted_none rfl) rfl rfl (by kernel_rfl) (fun _ _ _ h => h) ?_; clear S a; intro a S
          refine d_pure (i := 8) #[true, true, true, true, true, true, true, true, true, false, false, false, false, false, false, false, false, false, false, false, false, false, false] S rfl (p_indexAddr rfl rfl (fun w => ia_array Tryz.underlying231 sz105 (by omega) (by omega))) (wanted_none rfl) rfl rfl (by kernel_rfl) (fun _ _ _ h => h) ?_; clear S a; intro a S
          refine d_read (i := 9) #[true, true, true, true, true, true, true, true, true, true, false, false, false, false, false, false, false, false, false, false, false, false, false] S H rfl (r_load rfl List.mem_cons_self (w32_get (cir (mw r) t) (i := ((t - 8) % 16)) (by omega) (by omega)) (fun w hc => ld1 ag105 hc)) (wanted_none rfl) rfl rfl (by kernel_rfl) (fun _ _ _ h => h) ?_; clear S a; intro a S
          refine d_pure (i := 10) #[true, true, true, true, true, true, true, true, true, true, true, false, false, false, false, false, false, false, false, false, false, false, false] S rfl (p_xor rfl rfl (xor32 ((cir (mw r) t) (((t - 3) % 16))) ((cir (mw r) t) (((t - 8) % 16))))) (wanted_none rfl) rfl rfl (by kernel_rfl) (fun _ _ _ h => h) ?_; clear S a; intro a S
          refine d_pure (i := 11) #[true, true, true, true, true, true, true, true, true, true, true, true, false, false, false, false, false, false, false, false, false, false, false] S rfl (p_move rfl) (wanted_none rfl) rfl rfl (by kernel_rfl) (fun _ _ _ h => h) ?_; clear S a; intro a S
          refine d_pure (i := 12) #[true, true, true, true, true, true, true, true, true, true, true, true, true, false, false, false, false, false, false, false, false, false, false] S rfl (p_sub rfl rfl (nat_sub (x := t) (y := 14) (by omega) (by omega))) (wanted_none rfl) rfl rfl (by kernel_rfl) (fun _ _ _ h => h) ?_; clear S a; intro a S
          refine d_pure (i := 13) #[true, true, true, true, true, true, true, true, true, true, true, true, true, true, false, false, false, false, false, false, false, false, false] S rfl (p_and rfl rfl (nat_mask 4 (by decide) (x := (t - 14)) (by omega) rfl)) (wanted_none rfl) rfl rfl (by kernel_rfl) (fun _ _ _ h => h) ?_; clear S a; intro a S
          refine d_pure (i := 14) #[true, true, true, true, true, true, true, true, true, true, true, true, true, true, true, false, false, false, false, false, false, false, false] S rfl (p_indexAddr rfl rfl (fun w => ia_array Tryz.underlying231 sz105 (by omega) (by omega))) (wanted_none rfl) rfl rfl (by kernel_rfl) (fun _ _ _ h => h) ?_; clear S a; intro a S
          refine d_read (i := 15) #[true, true, true, true, true, true, true, true, true, true, true, true, true, true, true, true, false, false, false, false, false, false, false] S H rfl (r_load rfl List.mem_cons_self (w32_get (cir (mw r) t) (i := ((t - 14) % 16)) (by omega) (by omega)) (fun w hc => ld1 ag105 hc)) (wanted_none rfl) rfl rfl (by kernel_rfl) (fun _ _ _ h => h) ?_; clear S a; intro a S
          refine d_pure (i := 16) #[true, true, true, true, true, true, true, true, true, true, true, true, true, true, true, true, true, false, false, false, false, false, false] S rfl (p_xor rfl rfl (xor32 (((cir (mw r) t) (((t - 3) % 16))) ^^^ ((cir (mw r) t) (((t - 8) % 16)))) ((cir (mw r) t) (((t - 14) % 16))))) (wanted_none rfl) rfl rfl (by kernel_rfl) (fun _ _ _ h => h) ?_; clear S a; intro a S
          refine d_pure (i := 17) #[true, true, true, true, true, true, true, true, true, true, true, true, true, true, true, true, true, true, false, false, false, false, false] S rfl (p_move rfl) (wanted_none rfl) rfl rfl (by kernel_rfl) (fun _ _ _ h => h) ?_; clear S a; intro a S
          refine d_pure (i := 18) #[true, true, true, true, true, true, true, true, true, true, true, true, true, true, true, true, true, true, true, false, false, false, false] S rfl (p_and rfl rfl (nat_mask 4 (by decide) (x := t) (by omega) rfl)) (wanted_none rfl) rfl rfl (by kernel_rfl) (fun _ _ _ h => h) ?_; clear S a; intro a S
          refine d_pure (i := 19) #[true, true, true, true, true, true, true, true, true, true, true, true, true, true, true, true, true, true, true, true, false, false, false] S rfl (p_indexAddr rfl rfl (fun w => ia_array Tryz.underlying231 sz105 (by omega) (by omega))) (wanted_none rfl) rfl rfl (by kernel_rfl) (fun _ _ _ h => h) ?_; clear S a; intro a S
          refine d_read (i := 20) #[true, true, true, true, true, true, true, true, true, true, true, true, true, true, true, true, true, true, true, true, true, false, false] S H rfl (r_load rfl List.mem_cons_self (w32_get (cir (mw r) t) (i := (t % 16)) (by omega) (by omega)) (fun w hc => ld1 ag105 hc)) (wanted_none rfl) rfl rfl (by kernel_rfl) (fun _ _ _ h => h) ?_; clear S a; intro a S
          refine d_pure (i := 21) #[true, true, true, true, true, true, true, true, true, true, true, true, true, true, true, true, true, true, true, true, true, true, false] S rfl (p_xor rfl rfl (xor32 ((((cir (mw r) t) (((t - 3) % 16))) ^^^ ((cir (mw r) t) (((t - 8) % 16)))) ^^^ ((cir (mw r) t) (((t - 14) % 16)))) ((cir (mw r) t) ((t % 16))))) (wanted_none rfl) rfl rfl (by kernel_rfl) (fun _ _ _ h => h) ?_; clear S a; intro a S
          refine d_pure (i := 22) #[true, true, true, true, true, true, true, true, true, true, true, true, true, true, true, true, true, true, true, true, true, true, true] S rfl (p_assign rfl) (wanted_none rfl) rfl rfl (by kernel_rfl) (fun _ _ _ h => h) ?_; clear S a; intro a S
          refine d_done (by kernel_rfl) ?_
          refine e_then ?_
          refine wp_seq ?_
          refine c_region ?_
          refine l_pure S (p_move rfl) rfl rfl rfl ?_; clear S a; intro a S
          refine l_pure S (p_and rfl rfl (nat_mask 4 (by decide) (x := t) (by omega) rfl)) rfl rfl rfl ?_; clear S a; intro a S
          refine l_pure S (p_move rfl) rfl rfl rfl ?_; clear S a; intro a S
          refine l_call S rfl rfl Tryz.func123 rfl rfl (rotl1 (((((cir (mw r) t) (((t - 3) % 16))) ^^^ ((cir (mw r) t) (((t - 8) % 16)))) ^^^ ((cir (mw r) t) (((t - 14) % 16)))) ^^^ ((cir (mw r) t) ((t % 16)))) w) rfl rfl rfl ?_
          rintro e w ⟨rfl, hb⟩
          refine ⟨_, rfl, ?_⟩; clear S a; intro a S
          replace H := H.later hb; clear hb
          refine l_pure S (p_indexAddr rfl rfl (fun w => ia_array Tryz.underlying231 sz105 (by omega) (by omega))) rfl rfl rfl ?_; clear S a; intro a S
          refine l_store S H rfl rfl rfl .here (by simp [fv_len]; omega) (fun w u hc hz => st1 sz105 rfl hc hz) rfl rfl ?_; clear S a H; intro w a H S
          rw [w32_set (cir (mw r) t) (i := (t % 16)) (rot (((((cir (mw r) t) (((t - 3) % 16))) ^^^ ((cir (mw r) t) (((t - 8) % 16)))) ^^^ ((cir (mw r) t) (((t - 14) % 16)))) ^^^ ((cir (mw r) t) ((t % 16)))) 1) (by omega)] at H
          rw [show fv (w32 (up (cir (mw r) t) ((t % 16)) (rot (((((cir (mw r) t) (((t - 3) % 16))) ^^^ ((cir (mw r) t) (((t - 8) % 16)))) ^^^ ((cir (mw r) t) (((t - 14) % 16)))) ^^^ ((cir (mw r) t) ((t % 16)))) 1))) 16 = fv (w32 (cir (mw r) (t + 1))) 16 from cir_up (by omega) (by rw [ws_hi (t := t) (by omega), cir_at (by omega) (by omega) (by omega), cir_at (by omega) (by omega) (by omega), cir_at (by omega) (by omega) (by omega), show (t % 16) = (t - 16) % 16 by omega, cir_at (by omega) (by omega) (by omega)])] at H
          refine l_nil ?_
          refine e_then ?_
          refine wp_seq ?_
          refine c_region ?_
          refine l_pure S (p_move rfl) rfl rfl rfl ?_; clear S a; intro a S
          refine l_pure S (p_move rfl) rfl rfl rfl ?_; clear S a; intro a S
          refine l_pure S (p_and rfl rfl (and32 (rnds (mw r) t h).b (rnds (mw r) t h).c)) rfl rfl rfl ?_; clear S a; intro a S
          refine l_pure S (p_move rfl) rfl rfl rfl ?_; clear S a; intro a S
          refine l_pure S (p_un rfl (fun w => not32 (rnds (mw r) t h).b w)) rfl rfl rfl ?_; clear S a; intro a S
          refine l_pure S (p_move rfl) rfl rfl rfl ?_; clear S a; intro a S
          refine l_pure S (p_and rfl rfl (and32 (~~~ (rnds (mw r) t h).b) (rnds (mw r) t h).d)) rfl rfl rfl ?_; clear S a; intro a S
          refine l_pure S (p_or rfl rfl (or32 ((rnds (mw r) t h).b &&& (rnds (mw r) t h).c) ((~~~ (rnds (mw r) t h).b) &&& (rnds (mw r) t h).d))) rfl rfl rfl ?_; clear S a; intro a S
          refine l_pure S (p_assign rfl) rfl rfl rfl ?_; clear S a; intro a S
          refine l_nil ?_
          refine e_then ?_
          refine wp_seq ?_
          refine d_start (id := 20) [] 13 #[false, false, false, false, false, false, false, false, false, false, false, false, false] H rfl rfl rfl (fun w H => ?_)
          refine d_pure (i := 0) #[true, false, false, false, false, false, false, false, false, false, false, false, false] S rfl (p_move rfl) (wanted_none rfl) rfl rfl (by kernel_rfl) (fun _ _ _ h => h) ?_; clear S a; intro a S
          refine d_pure (i := 2) #[true, false, true, false, false, false, false, false, false, false, false, false, false] S rfl (p_move rfl) (wanted_none rfl) rfl rfl (by kernel_rfl) (fun _ _ _ h => h) ?_; clear S a; intro a S
          refine d_pure (i := 4) #[true, false, true, false, true, false, false, false, false, false, false, false, false] S rfl (p_move rfl) (wanted_none rfl) rfl rfl (by kernel_rfl) (fun _ _ _ h => h) ?_; clear S a; intro a S
          refine d_pure (i := 6) #[true, false, true, false, true, false, true, false, false, false, false, false, false] S rfl (p_move rfl) (wanted_none rfl) rfl rfl (by kernel_rfl) (fun _ _ _ h => h) ?_; clear S a; intro a S
          refine d_pure (i := 7) #[true, false, true, false, true, false, true, true, false, false, false, false, false] S rfl (p_and rfl rfl (nat_mask 4 (by decide) (x := t) (by omega) rfl)) (wanted_none rfl) rfl rfl (by kernel_rfl) (fun _ _ _ h => h) ?_; clear S a; intro a S
          refine d_pure (i := 8) #[true, false, true, false, true, false, true, true, true, false, false, false, false] S rfl (p_indexAddr rfl rfl (fun w => ia_array Tryz.underlying231 sz105 (by omega) (by omega))) (wanted_none rfl) rfl rfl (by kernel_rfl) (fun _ _ _ h => h) ?_; clear S a; intro a S
          refine d_read (i := 9) #[true, false, true, false, true, false, true, true, true, true, false, false, false] S H rfl (r_load rfl List.mem_cons_self (w32_get (cir (mw r) (t + 1)) (i := (t % 16)) (by omega) (by omega)) (fun w hc => ld1 ag105 hc)) (wanted_none rfl) rfl rfl (by kernel_rfl) (fun _ _ _ h => h) ?_; clear S a; intro a S
          refine d_call (i := 1) #[true, true, true, false, true, false, true, true, true, true, false, false, false] S rfl rfl rfl Tryz.func123 rfl rfl (rotl5 (rnds (mw r) t h).a w) (wanted_none rfl) rfl rfl (by kernel_rfl) rfl ?_
          rintro e w ⟨rfl, hb⟩
          refine ⟨_, rfl, H.later hb, ?_⟩; replace H := H.later hb; clear hb; clear S a; intro a S
          refine d_pure (i := 3) #[true, true, true, true, true, false, true, true, true, true, false, false, false] S rfl (p_add rfl rfl (add32 (rot (rnds (mw r) t h).a 5) (((rnds (mw r) t h).b &&& (rnds (mw r) t h).c) ||| ((~~~ (rnds (mw r) t h).b) &&& (rnds (mw r) t h).d)))) (wanted_none rfl) rfl rfl (by kernel_rfl) (fun _ _ _ h => h) ?_; clear S a; intro a S
          refine d_pure (i := 5) #[true, true, true, true, true, true, true, true, true, true, false, false, false] S rfl (p_add rfl rfl (add32 ((rot (rnds (mw r) t h).a 5) + (((rnds (mw r) t h).b &&& (rnds (mw r) t h).c) ||| ((~~~ (rnds (mw r) t h).b) &&& (rnds (mw r) t h).d))) (rnds (mw r) t h).e)) (wanted_none rfl) rfl rfl (by kernel_rfl) (fun _ _ _ h => h) ?_; clear S a; intro a S
          refine d_pure (i := 10) #[true, true, true, true, true, true, true, true, true, true, true, false, false] S rfl (p_add rfl rfl (add32 (((rot (rnds (mw r) t h).a 5) + (((rnds (mw r) t h).b &&& (rnds (mw r) t h).c) ||| ((~~~ (rnds (mw r) t h).b) &&& (rnds (mw r) t h).d))) + (rnds (mw r) t h).e) ((cir (mw r) (t + 1)) ((t % 16))))) (wanted_none rfl) rfl rfl (by kernel_rfl) (fun _ _ _ h => h) ?_; clear S a; intro a S
          refine d_pure (i := 11) #[true, true, true, true, true, true, true, true, true, true, true, true, false] S rfl (p_add rfl rfl (add32 ((((rot (rnds (mw r) t h).a 5) + (((rnds (mw r) t h).b &&& (rnds (mw r) t h).c) ||| ((~~~ (rnds (mw r) t h).b) &&& (rnds (mw r) t h).d))) + (rnds (mw r) t h).e) + ((cir (mw r) (t + 1)) ((t % 16)))) 1518500249#32)) (wanted_none rfl) rfl rfl (by kernel_rfl) (fun _ _ _ h => h) ?_; clear S a; intro a S
          rw [show (((((rot (rnds (mw r) t h).a 5) + (((rnds (mw r) t h).b &&& (rnds (mw r) t h).c) ||| ((~~~ (rnds (mw r) t h).b) &&& (rnds (mw r) t h).d))) + (rnds (mw r) t h).e) + ((cir (mw r) (t + 1)) ((t % 16)))) + 1518500249#32) = (rnd (mw r) t (rnds (mw r) t h)).a from next_a (fF0 (by omega) _ _ _) (kF0 (by omega)) (cir_at (m := mw r) (t := t + 1) (u := t) (by omega) (by omega) (by omega))] at S
          refine d_pure (i := 12) #[true, true, true, true, true, true, true, true, true, true, true, true, true] S rfl (p_assign rfl) (wanted_none rfl) rfl rfl (by kernel_rfl) (fun _ _ _ h => h) ?_; clear S a; intro a S
          refine d_done (by kernel_rfl) ?_
          refine e_then ?_
          refine c_region ?_
          refine l_pure S (p_move rfl) rfl rfl rfl ?_; clear S a; intro a S
          refine l_pure S (p_move rfl) rfl rfl rfl ?_; clear S a; intro a S
          refine l_pure S (p_move rfl) rfl rfl rfl ?_; clear S a; intro a S
          refine l_call S rfl rfl Tryz.func123 rfl rfl (rotl30 (rnds (mw r) t h).b w) rfl rfl rfl ?_
          rintro e w ⟨rfl, hb⟩
          refine ⟨_, rfl, ?_⟩; clear S a; intro a S
          replace H := H.later hb; clear hb
          refine l_pure S (p_move rfl) rfl rfl rfl ?_; clear S a; intro a S
          refine l_pure S (p_move rfl) rfl rfl rfl ?_; clear S a; intro a S
          refine l_pure S (p_assign rfl) rfl rfl rfl ?_; clear S a; intro a S
          refine l_pure S (p_assign rfl) rfl rfl rfl ?_; clear S a; intro a S
          refine l_pure S (p_assign rfl) rfl rfl rfl ?_; clear S a; intro a S
          refine l_pure S (p_assign rfl) rfl rfl rfl ?_; clear S a; intro a S
          refine l_pure S (p_assign rfl) rfl rfl rfl ?_; clear S a; intro a S
          refine l_nil ?_
          refine e_in 7 ?_
          refine e_then ?_
          refine c_region ?_
          refine l_pure S (p_move rfl) rfl rfl rfl ?_; clear S a; intro a S
          refine l_pure S (p_add rfl rfl (nat_add (x := t) (y := 1) (by omega))) rfl rfl rfl ?_; clear S a; intro a S
          refine l_pure S (p_assign rfl) rfl rfl rfl ?_; clear S a; intro a S
          refine l_nil ?_
          refine e_then ?_
          exact ⟨(t + 1), ⟨S.only ⟨rfl, rfl, rfl, rfl, rfl, rfl, rfl, rfl, rfl, rfl, rfl, rfl, rfl, rfl, trivial⟩, H, ⟨by omega, by omega⟩⟩, by show 20 - (t + 1) < 20 - t; omega⟩
        · skip
          have c9 := of_decide_eq_false c9
          refine wp_exit ?_
          refine e_then_exit ?_
          refine e_then_exit ?_
          refine e_in_exit ?_
          refine e_then ?_
          refine wp_seq ?_
          refine wp_block ?_
          obtain rfl : t = 20 := by omega
          refine c_loop (σ := Nat) (fun s_ a w => match s_ with | t => SL a 397 [] [(0, .pointer (some ⟨g, 0, none⟩)), (1, .slice (some ⟨gp, o, none⟩) r.length c), (4, .pointer (some ⟨g1, 0, none⟩)), (5, .int .u32 (h.a.toNat : Int)), (6, .int .u32 (h.b.toNat : Int)), (7, .int .u32 (h.c.toNat : Int)), (8, .int .u32 (h.d.toNat : Int)), (9, .int .u32 (h.e.toNat : Int)), (12, .int .u32 ((rnds (mw r) t h).a.toNat : Int)), (13, .int .u32 ((rnds (mw r) t h).b.toNat : Int)), (14, .int .u32 ((rnds (mw r) t h).c.toNat : Int)), (15, .int .u32 ((rnds (mw r) t h).d.toNat : Int)), (16, .int .u32 ((rnds (mw r) t h).e.toNat : Int)), (17, .int .i64 (t : Int))] ∧ HH (w0.heap.size) w0 w [(g1, .cells (fv (w32 (cir (mw r) t)) 16).toArray 231 (0, 0))] ∧ (20 ≤ t ∧ t ≤ 40)) (fun s_ => match s_ with | t => 40 - t) 20 ⟨S.only ⟨rfl, rfl, rfl, rfl, rfl, rfl, rfl, rfl, rfl, rfl, rfl, rfl, rfl, rfl, trivial⟩, H, ⟨Nat.le_refl _, by omega⟩⟩ ?_
          clear S a H; rintro t a w ⟨S, H, hinv⟩
          refine wp_seq ?_
          refine wp_seq ?_
          refine c_region ?_
          refine l_pure S (p_move rfl) rfl rfl rfl ?_; clear S a; intro a S
          refine l_pure S (p_lss rfl rfl) rfl rfl rfl ?_; clear S a; intro a S
          refine l_nil ?_
          refine e_then ?_
          refine c_cond S rfl (fun c11 => ?_) (fun c11 => ?_)
          · skip
            have c11 := of_decide_eq_true c11
            refine wp_skip ?_
            refine e_then ?_
            refine wp_seq ?_
            refine wp_block ?_
            refine wp_seq ?_
            refine d_start (id := 24) [] 23 #[false, false, false, false, false, false, false, false, false, false, false, false, false, false, false, false, false, false, false, false, false, false, false] H rfl rfl rfl (fun w H => ?_)
            refine d_pure (i := 0) #[true, false, false, false, false, false, false, false, false, false, false, false, false, false, false, false, false, false, false, false, false, false, false] S rfl (p_move rfl) (wanted_none rfl) rfl rfl (by kernel_rfl) (fun _ _ _ h => h) ?_; clear S a; intro a S
            refine d_pure (i := 1) #[true, true, false, false, false, false, false, false, false, false, false, false, false, false, false, false, false, false, false, false, false, false, false] S rfl (p_sub rfl rfl (nat_sub (x := t) (y := 3) (by omega) (by omega))) (wanted_none rfl) rfl rfl (by kernel_rfl) (fun _ _ _ h => h) ?_; clear S a; intro a S
            refine d_pure (i := 2) #[true, true, true, false, false, false, false, false, false, false, false, false, false, false, false, false, false, false, false, false, false, false, false] S rfl (p_and rfl rfl (nat_mask 4 (by decide) (x := (t - 3)) (by omega) rfl)) (wanted_none rfl) rfl rfl (by kernel_rfl) (fun _ _ _ h => h) ?_; clear S a; intro a S
            refine d_pure (i := 3) #[true, true, true, true, false, false, false, false, false, false, false, false, false, false, false, false, false, false, false, false, false, false, false] S rfl (p_indexAddr rfl rfl (fun w => ia_array Tryz.underlying231 sz105 (by omega) (by omega))) (wanted_none rfl) rfl rfl (by kernel_rfl) (fun _ _ _ h => h) ?_; clear S a; intro a S
            refine d_read (i := 4) #[true, true, true, true, true, false, false, false, false, false, false, false, false, false, false, false, false, false, false, false, false, false, false] S H rfl (r_load rfl List.mem_cons_self (w32_get (cir (mw r) t) (i := ((t - 3) % 16)) (by omega) (by omega)) (fun w hc => ld1 ag105 hc)) (wanted_none rfl) rfl rfl (by kernel_rfl) (fun _ _ _ h => h) ?_; clear S a; intro a S
            refine d_pure (i := 5) #[true, true, true, true, true, true, false, false, false, false, false, false, false, false, false, false, false, false, false, false, false, false, false] S rfl (p_move rfl) (wanted_none rfl) rfl rfl (by kernel_rfl) (fun _ _ _ h => h) ?_; clear S a; intro a S
            refine d_pure (i := 6) #[true, true, true, true, true, true, true, false, false, false, false, false, false, false, false, false, false, false, false, false, false, false, false] S rfl (p_sub rfl rfl (nat_sub (x := t) (y := 8) (by omega) (by omega))) (wanted_none rfl) rfl rfl (by kernel_rfl) (fun _ _ _ h => h) ?_; clear S a; intro a S
            refine d_pure (i := 7) #[true, true, true, true, true, true, true, true, false, false, false, false, false, false, false, false, false, false, false, false, false, false, false] S rfl (p_and rfl rfl (nat_mask 4 (by decide) (x := (t - 8)) (by omega) rfl)) (wanted_none rfl) rfl rfl (by kernel_rfl) (fun _ _ _ h => h) ?_; clear S a; intro a S
            refine d_pure (i := 8) #[true, true, true, true, true, true, true, true, true, false, false, false, false, false, false, false, false, false, false, false, false, false, false] S rfl (p_indexAddr rfl rfl (fun w => ia_array Tryz.underlying231 sz105 (by omega) (by omega))) (wanted_none rfl) rfl rfl (by kernel_rfl) (fun _ _ _ h => h) ?_; clear S a; intro a S
            refine d_read (i := 9) #[true, true, true, true, true, true, true, true, true, true, false, false, false, false, false, false, false, false, false, false, false, false, false] S H rfl (r_load rfl List.mem_cons_self (w32_get (cir (mw r) t) (i := ((t - 8) % 16)) (by omega) (by omega)) (fun w hc => ld1 ag105 hc)) (wanted_none rfl) rfl rfl (by kernel_rfl) (fun _ _ _ h => h) ?_; clear S a; intro a S
            refine d_pure (i := 10) #[true, true, true, true, true, true, true, true, true, true, true, false, false, false, false, false, false, false, false, false, false, false, false] S rfl (p_xor rfl rfl (xor32 ((cir (mw r) t) (((t - 3) % 16))) ((cir (mw r) t) (((t - 8) % 16))))) (wanted_none rfl) rfl rfl (by kernel_rfl) (fun _ _ _ h => h) ?_; clear S a; intro a S
            refine d_pure (i := 11) #[true, true, true, true, true, true, true, true, true, true, true, true, false, false, false, false, false, false, false, false, false, false, false] S rfl (p_move rfl) (wanted_none rfl) rfl rfl (by kernel_rfl) (fun _ _ _ h => h) ?_; clear S a; intro a S
            refine d_pure (i := 12) #[true, true, true, true, true, true, true, true, true, true, true, true, true, false, false, false, false, false, false, false, false, false, false] S rfl (p_sub rfl rfl (nat_sub (x := t) (y := 14) (by omega) (by omega))) (wanted_none rfl) rfl rfl (by kernel_rfl) (fun _ _ _ h => h) ?_; clear S a; intro a S
            refine d_pure (i := 13) #[true, true, true, true, true, true, true, true, true, true, true, true, true, true, false, false, false, false, false, false, false, false, false] S rfl (p_and rfl rfl (nat_mask 4 (by decide) (x := (t - 14)) (by omega) rfl)) (wanted_none rfl) rfl rfl (by kernel_rfl) (fun _ _ _ h => h) ?_; clear S a; intro a S
            refine d_pure (i := 14) #[true, true, true, true, true, true, true, true, true, true, true, true, true, true, true, false, false, false, false, false, false, false, false] S rfl (p_indexAddr rfl rfl (fun w => ia_array Tryz.underlying231 sz105 (by omega) (by omega))) (wanted_none rfl) rfl rfl (by kernel_rfl) (fun _ _ _ h => h) ?_; clear S a; intro a S
            refine d_read (i := 15) #[true, true, true, true, true, true, true, true, true, true, true, true, true, true, true, true, false, false, false, false, false, false, false] S H rfl (r_load rfl List.mem_cons_self (w32_get (cir (mw r) t) (i := ((t - 14) % 16)) (by omega) (by omega)) (fun w hc => ld1 ag105 hc)) (wanted_none rfl) rfl rfl (by kernel_rfl) (fun _ _ _ h => h) ?_; clear S a; intro a S
            refine d_pure (i := 16) #[true, true, true, true, true, true, true, true, true, true, true, true, true, true, true, true, true, false, false, false, false, false, false] S rfl (p_xor rfl rfl (xor32 (((cir (mw r) t) (((t - 3) % 16))) ^^^ ((cir (mw r) t) (((t - 8) % 16)))) ((cir (mw r) t) (((t - 14) % 16))))) (wanted_none rfl) rfl rfl (by kernel_rfl) (fun _ _ _ h => h) ?_; clear S a; intro a S
            refine d_pure (i := 17) #[true, true, true, true, true, true, true, true, true, true, true, true, true, true, true, true, true, true, false, false, false, false, false] S rfl (p_move rfl) (wanted_none rfl) rfl rfl (by kernel_rfl) (fun _ _ _ h => h) ?_; clear S a; intro a S
            refine d_pure (i := 18) #[true, true, true, true, true, true, true, true, true, true, true, true, true, true, true, true, true, true, true, false, false, false, false] S rfl (p_and rfl rfl (nat_mask 4 (by decide) (x := t) (by omega) rfl)) (wanted_none rfl) rfl rfl (by kernel_rfl) (fun _ _ _ h => h) ?_; clear S a; intro a S
            refine d_pure (i := 19) #[true, true, true, true, true, true, true, true, true, true, true, true, true, true, true, true, true, true, true, true, false, false, false] S rfl (p_indexAddr rfl rfl (fun w => ia_array Tryz.underlying231 sz105 (by omega) (by omega))) (wanted_none rfl) rfl rfl (by kernel_rfl) (fun _ _ _ h => h) ?_; clear S a; intro a S
            refine d_read (i := 20) #[true, true, true, true, true, true, true, true, true, true, true, true, true, true, true, true, true, true, true, true, true, false, false] S H rfl (r_load rfl List.mem_cons_self (w32_get (cir (mw r) t) (i := (t % 16)) (by omega) (by omega)) (fun w hc => ld1 ag105 hc)) (wanted_none rfl) rfl rfl (by kernel_rfl) (fun _ _ _ h => h) ?_; clear S a; intro a S
            refine d_pure (i := 21) #[true, true, true, true, true, true, true, true, true, true, true, true, true, true, true, true, true, true, true, true, true, true, false] S rfl (p_xor rfl rfl (xor32 ((((cir (mw r) t) (((t - 3) % 16))) ^^^ ((cir (mw r) t) (((t - 8) % 16)))) ^^^ ((cir (mw r) t) (((t - 14) % 16)))) ((cir (mw r) t) ((t % 16))))) (wanted_none rfl) rfl rfl (by kernel_rfl) (fun _ _ _ h => h) ?_; clear S a; intro a S
            refine d_pure (i := 22) #[true, true, true, true, true, true, true, true, true, true, true, true, true, true, true, true, true, true, true, true, true, true, true] S rfl (p_assign rfl) (wanted_none rfl) rfl rfl (by kernel_rfl) (fun _ _ _ h => h) ?_; clear S a; intro a S
            refine d_done (by kernel_rfl) ?_
            refine e_then ?_
            refine wp_seq ?_
            refine c_region ?_
            refine l_pure S (p_move rfl) rfl rfl rfl ?_; clear S a; intro a S
            refine l_pure S (p_and rfl rfl (nat_mask 4 (by decide) (x := t) (by omega) rfl)) rfl rfl rfl ?_; clear S a; intro a S
            refine l_pure S (p_move rfl) rfl rfl rfl ?_; clear S a; intro a S
            refine l_call S rfl rfl Tryz.func123 rfl rfl (rotl1 (((((cir (mw r) t) (((t - 3) % 16))) ^^^ ((cir (mw r) t) (((t - 8) % 16)))) ^^^ ((cir (mw r) t) (((t - 14) % 16)))) ^^^ ((cir (mw r) t) ((t % 16)))) w) rfl rfl rfl ?_
            rintro e w ⟨rfl, hb⟩
            refine ⟨_, rfl, ?_⟩; clear S a; intro a S
            replace H := H.later hb; clear hb
            refine l_pure S (p_indexAddr rfl rfl (fun w => ia_array Tryz.underlying231 sz105 (by omega) (by omega))) rfl rfl rfl ?_; clear S a; intro a S
            refine l_store S H rfl rfl rfl .here (by simp [fv_len]; omega) (fun w u hc hz => st1 sz105 rfl hc hz) rfl rfl ?_; clear S a H; intro w a H S
            rw [w32_set (cir (mw r) t) (i := (t % 16)) (rot (((((cir (mw r) t) (((t - 3) % 16))) ^^^ ((cir (mw r) t) (((t - 8) % 16)))) ^^^ ((cir (mw r) t) (((t - 14) % 16)))) ^^^ ((cir (mw r) t) ((t % 16)))) 1) (by omega)] at H
            rw [show fv (w32 (up (cir (mw r) t) ((t % 16)) (rot (((((cir (mw r) t) (((t - 3) % 16))) ^^^ ((cir (mw r) t) (((t - 8) % 16)))) ^^^ ((cir (mw r) t) (((t - 14) % 16)))) ^^^ ((cir (mw r) t) ((t % 16)))) 1))) 16 = fv (w32 (cir (mw r) (t + 1))) 16 from cir_up (by omega) (by rw [ws_hi (t := t) (by omega), cir_at (by omega) (by omega) (by omega), cir_at (by omega) (by omega) (by omega), cir_at (by omega) (by omega) (by omega), show (t % 16) = (t - 16) % 16 by omega, cir_at (by omega) (by omega) (by omega)])] at H
            refine l_nil ?_
            refine e_then ?_
            refine wp_seq ?_
            refine c_region ?_
            refine l_pure S (p_move rfl) rfl rfl rfl ?_; clear S a; intro a S
            refine l_pure S (p_move rfl) rfl rfl rfl ?_; clear S a; intro a S
            refine l_pure S (p_xor rfl rfl (xor32 (rnds (mw r) t h).b (rnds (mw r) t h).c)) rfl rfl rfl ?_; clear S a; intro a S
            refine l_pure S (p_move rfl) rfl rfl rfl ?_; clear S a; intro a S
            refine l_pure S (p_xor rfl rfl (xor32 ((rnds (mw r) t h).b ^^^ (rnds (mw r) t h).c) (rnds (mw r) t h).d)) rfl rfl rfl ?_; clear S a; intro a S
            refine l_pure S (p_assign rfl) rfl rfl rfl ?_; clear S a; intro a S
            refine l_nil ?_
            refine e_then ?_
            refine wp_seq ?_
            refine d_start (id := 27) [] 13 #[false, false, false, false, false, false, false, false, false, false, false, false, false] H rfl rfl rfl (fun w H => ?_)
            refine d_pure (i := 0) #[true, false, false, false, false, false, false, false, false, false, false, false, false] S rfl (p_move rfl) (wanted_none rfl) rfl rfl (by kernel_rfl) (fun _ _ _ h => h) ?_; clear S a; intro a S
            refine d_pure (i := 2) #[true, false, true, false, false, false, false, false, false, false, false, false, false] S rfl (p_move rfl) (wanted_none rfl) rfl rfl (by kernel_rfl) (fun _ _ _ h => h) ?_; clear S a; intro a S
            refine d_pure (i := 4) #[true, false, true, false, true, false, false, false, false, false, false, false, false] S rfl (p_move rfl) (wanted_none rfl) rfl rfl (by kernel_rfl) (fun _ _ _ h => h) ?_; clear S a; intro a S
            refine d_pure (i := 6) #[true, false, true, false, true, false, true, false, false, false, false, false, false] S rfl (p_move rfl) (wanted_none rfl) rfl rfl (by kernel_rfl) (fun _ _ _ h => h) ?_; clear S a; intro a S
            refine d_pure (i := 7) #[true, false, true, false, true, false, true, true, false, false, false, false, false] S rfl (p_and rfl rfl (nat_mask 4 (by decide) (x := t) (by omega) rfl)) (wanted_none rfl) rfl rfl (by kernel_rfl) (fun _ _ _ h => h) ?_; clear S a; intro a S
            refine d_pure (i := 8) #[true, false, true, false, true, false, true, true, true, false, false, false, false] S rfl (p_indexAddr rfl rfl (fun w => ia_array Tryz.underlying231 sz105 (by omega) (by omega))) (wanted_none rfl) rfl rfl (by kernel_rfl) (fun _ _ _ h => h) ?_; clear S a; intro a S
            refine d_read (i := 9) #[true, false, true, false, true, false, true, true, true, true, false, false, false] S H rfl (r_load rfl List.mem_cons_self (w32_get (cir (mw r) (t + 1)) (i := (t % 16)) (by omega) (by omega)) (fun w hc => ld1 ag105 hc)) (wanted_none rfl) rfl rfl (by kernel_rfl) (fun _ _ _ h => h) ?_; clear S a; intro a S
            refine d_call (i := 1) #[true, true, true, false, true, false, true, true, true, true, false, false, false] S rfl rfl rfl Tryz.func123 rfl rfl (rotl5 (rnds (mw r) t h).a w) (wanted_none rfl) rfl rfl (by kernel_rfl) rfl ?_
            rintro e w ⟨rfl, hb⟩
            refine ⟨_, rfl, H.later hb, ?_⟩; replace H := H.later hb; clear hb; clear S a; intro a S
            refine d_pure (i := 3) #[true, true, true, true, true, false, true, true, true, true, false, false, false] S rfl (p_add rfl rfl (add32 (rot (rnds (mw r) t h).a 5) (((rnds (mw r) t h).b ^^^ (rnds (mw r) t h).c) ^^^ (rnds (mw r) t h).d))) (wanted_none rfl) rfl rfl (by kernel_rfl) (fun _ _ _ h => h) ?_; clear S a; intro a S
            refine d_pure (i := 5) #[true, true, true, true, true, true, true, true, true, true, false, false, false] S rfl (p_add rfl rfl (add32 ((rot (rnds (mw r) t h).a 5) + (((rnds (mw r) t h).b ^^^ (rnds (mw r) t h).c) ^^^ (rnds (mw r) t h).d)) (rnds (mw r) t h).e)) (wanted_none rfl) rfl rfl (by kernel_rfl) (fun _ _ _ h => h) ?_; clear S a; intro a S
            refine d_pure (i := 10) #[true, true, true, true, true, true, true, true, true, true, true, false, false] S rfl (p_add rfl rfl (add32 (((rot (rnds (mw r) t h).a 5) + (((rnds (mw r) t h).b ^^^ (rnds (mw r) t h).c) ^^^ (rnds (mw r) t h).d)) + (rnds (mw r) t h).e) ((cir (mw r) (t + 1)) ((t % 16))))) (wanted_none rfl) rfl rfl (by kernel_rfl) (fun _ _ _ h => h) ?_; clear S a; intro a S
            refine d_pure (i := 11) #[true, true, true, true, true, true, true, true, true, true, true, true, false] S rfl (p_add rfl rfl (add32 ((((rot (rnds (mw r) t h).a 5) + (((rnds (mw r) t h).b ^^^ (rnds (mw r) t h).c) ^^^ (rnds (mw r) t h).d)) + (rnds (mw r) t h).e) + ((cir (mw r) (t + 1)) ((t % 16)))) 1859775393#32)) (wanted_none rfl) rfl rfl (by kernel_rfl) (fun _ _ _ h => h) ?_; clear S a; intro a S
            rw [show (((((rot (rnds (mw r) t h).a 5) + (((rnds (mw r) t h).b ^^^ (rnds (mw r) t h).c) ^^^ (rnds (mw r) t h).d)) + (rnds (mw r) t h).e) + ((cir (mw r) (t + 1)) ((t % 16)))) + 1859775393#32) = (rnd (mw r) t (rnds (mw r) t h)).a from next_a (fF1 (by omega) (by omega) _ _ _) (kF1 (by omega) (by omega)) (cir_at (m := mw r) (t := t + 1) (u := t) (by omega) (by omega) (by omega))] at S
            refine d_pure (i := 12) #[true, true, true, true, true, true, true, true, true, true, true, true, true] S rfl (p_assign rfl) (wanted_none rfl) rfl rfl (by kernel_rfl) (fun _ _ _ h => h) ?_; clear S a; intro a S
            refine d_done (by kernel_rfl) ?_
            refine e_then ?_
            refine c_region ?_
            refine l_pure S (p_move rfl) rfl rfl rfl ?_; clear S a; intro a S
            refine l_pure S (p_move rfl) rfl rfl rfl ?_; clear S a; intro a S
            refine l_pure S (p_move rfl) rfl rfl rfl ?_; clear S a; intro a S
            refine l_call S rfl rfl Tryz.func123 rfl rfl (rotl30 (rnds (mw r) t h).b w) rfl rfl rfl ?_
            rintro e w ⟨rfl, hb⟩
            refine ⟨_, rfl, ?_⟩; clear S a; intro a S
            replace H := H.later hb; clear hb
            refine l_pure S (p_move rfl) rfl rfl rfl ?_; clear S a; intro a S
            refine l_pure S (p_move rfl) rfl rfl rfl ?_; clear S a; intro a S
            refine l_pure S (p_assign rfl) rfl rfl rfl ?_; clear S a; intro a S
            refine l_pure S (p_assign rfl) rfl rfl rfl ?_; clear S a; intro a S
            refine l_pure S (p_assign rfl) rfl rfl rfl ?_; clear S a; intro a S
            refine l_pure S (p_assign rfl) rfl rfl rfl ?_; clear S a; intro a S
            refine l_pure S (p_assign rfl) rfl rfl rfl ?_; clear S a; intro a S
            refine l_nil ?_
            refine e_in 9 ?_
            refine e_then ?_
            refine c_region ?_
            refine l_pure S (p_move rfl) rfl rfl rfl ?_; clear S a; intro a S
            refine l_pure S (p_add rfl rfl (nat_add (x := t) (y := 1) (by omega))) rfl rfl rfl ?_; clear S a; intro a S
            refine l_pure S (p_assign rfl) rfl rfl rfl ?_; clear S a; intro a S
            refine l_nil ?_
            refine e_then ?_
            exact ⟨(t + 1), ⟨S.only ⟨rfl, rfl, rfl, rfl, rfl, rfl, rfl, rfl, rfl, rfl, rfl, rfl, rfl, rfl, trivial⟩, H, ⟨by omega, by omega⟩⟩, by show 40 - (t + 1) < 40 - t; omega⟩
          · skip
            have c11 := of_decide_eq_false c11
            refine wp_exit ?_
            refine e_then_exit ?_
            refine e_then_exit ?_
            refine e_in_exit ?_
            refine e_then ?_
            refine wp_seq ?_
            refine wp_block ?_
            obtain rfl : t = 40 := by omega
            refine c_loop (σ := Nat) (fun s_ a w => match s_ with | t => SL a 397 [] [(0, .pointer (some ⟨g, 0, none⟩)), (1, .slice (some ⟨gp, o, none⟩) r.length c), (4, .pointer (some ⟨g1, 0, none⟩)), (5, .int .u32 (h.a.toNat : Int)), (6, .int .u32 (h.b.toNat : Int)), (7, .int .u32 (h.c.toNat : Int)), (8, .int .u32 (h.d.toNat : Int)), (9, .int .u32 (h.e.toNat : Int)), (12, .int .u32 ((rnds (mw r) t h).a.toNat : Int)), (13, .int .u32 ((rnds (mw r) t h).b.toNat : Int)), (14, .int .u32 ((rnds (mw r) t h).c.toNat : Int)), (15, .int .u32 ((rnds (mw r) t h).d.toNat : Int)), (16, .int .u32 ((rnds (mw r) t h).e.toNat : Int)), (17, .int .i64 (t : Int))] ∧ HH (w0.heap.size) w0 w [(g1, .cells (fv (w32 (cir (mw r) t)) 16).toArray 231 (0, 0))] ∧ (40 ≤ t ∧ t ≤ 60)) (fun s_ => match s_ with | t => 60 - t) 40 ⟨S.only ⟨rfl, rfl, rfl, rfl, rfl, rfl, rfl, rfl, rfl, rfl, rfl, rfl, rfl, rfl, trivial⟩, H, ⟨Nat.le_refl _, by omega⟩⟩ ?_
            clear S a H; rintro t a w ⟨S, H, hinv⟩
            refine wp_seq ?_
            refine wp_seq ?_
            refine c_region ?_
            refine l_pure S (p_move rfl) rfl rfl rfl ?_; clear S a; intro a S
            refine l_pure S (p_lss rfl rfl) rfl rfl rfl ?_; clear S a; intro a S
            refine l_nil ?_
            refine e_then ?_
            refine c_cond S rfl (fun c13 => ?_) (fun c13 => ?_)
            · skip
              have c13 := of_decide_eq_true c13
              refine wp_skip ?_
              refine e_then ?_
              refine wp_seq ?_
              refine wp_block ?_
              refine wp_seq ?_
              refine d_start (id := 31) [] 23 #[false, false, false, false, false, false, false, false, false, false, false, false, false, false, false, false, false, false, false, false, false, false, false] H rfl rfl rfl (fun w H => ?_)
              refine d_pure (i := 0) #[true, false, false, false, false, false, false, false, false, false, false, false, false, false, false, false, false, false, false, false, false, false, false] S rfl (p_move rfl) (wanted_none rfl) rfl rfl (by kernel_rfl) (fun _ _ _ h => h) ?_; clear S a; intro a S
              refine d_pure (i := 1) #[true, true, false, false, false, false, false, false, false, false, false, false, false, false, false, false, false, false, false, false, false, false, false] S rfl (p_sub rfl rfl (nat_sub (x := t) (y := 3) (by omega) (by omega))) (wanted_none rfl) rfl rfl (by kernel_rfl) (fun _ _ _ h => h) ?_; clear S a; intro a S
              refine d_pure (i := 2) #[true, true, true, false, false, false, false, false, false, false, false, false, false, false, false, false, false, false, false, false, false, false, false] S rfl (p_and rfl rfl (nat_mask 4 (by decide) (x := (t - 3)) (by omega) rfl)) (wanted_none rfl) rfl rfl (by kernel_rfl) (fun _ _ _ h => h) ?_; clear S a; intro a S
              refine d_pure (i := 3) #[true, true, true, true, false, false, false, false, false, false, false, false, false, false, false, false, false, false, false, false, false, false, false] S rfl (p_indexAddr rfl rfl (fun w => ia_array Tryz.underlying231 sz105 (by omega) (by omega))) (wanted_none rfl) rfl rfl (by kernel_rfl) (fun _ _ _ h => h) ?_; clear S a; intro a S
              refine d_read (i := 4) #[true, true, true, true, true, false, false, false, false, false, false, false, false, false, false, false, false, false, false, false, false, false, false] S H rfl (r_load rfl List.mem_cons_self (w32_get (cir (mw r) t) (i := ((t - 3) % 16)) (by omega) (by omega)) (fun w hc => ld1 ag105 hc)) (wanted_none rfl) rfl rfl (by kernel_rfl) (fun _ _ _ h => h) ?_; clear S a; intro a S
              refine d_pure (i := 5) #[true, true, true, true, true, true, false, false, false, false, false, false, false, false, false, false, false, false, false, false, false, false, false] S rfl (p_move rfl) (wanted_none rfl) rfl rfl (by kernel_rfl) (fun _ _ _ h => h) ?_; clear S a; intro a S
              refine d_pure (i := 6) #[true, true, true, true, true, true, true, false, false, false, false, false, false, false, false, false, false, false, false, false, false, false, false] S rfl (p_sub rfl rfl (nat_sub (x := t) (y := 8) (by omega) (by omega))) (wanted_none rfl) rfl rfl (by kernel_rfl) (fun _ _ _ h => h) ?_; clear S a; intro a S
              refine d_pure (i := 7) #[true, true, true, true, true, true, true, true, false, false, false, false, false, false, false, false, false, false, false, false, false, false, false] S rfl (p_and rfl rfl (nat_mask 4 (by decide) (x := (t - 8)) (by omega) rfl)) (wanted_none rfl) rfl rfl (by kernel_rfl) (fun _ _ _ h => h) ?_; clear S a; intro a S
              refine d_pure (i := 8) #[true, true, true, true, true, true, true, true, true, false, false, false, false, false, false, false, false, false, false, false, false, false, false] S rfl (p_indexAddr rfl rfl (fun w => ia_array Tryz.underlying231 sz105 (by omega) (by omega))) (wanted_none rfl) rfl rfl (by kernel_rfl) (fun _ _ _ h => h) ?_; clear S a; intro a S
              refine d_read (i := 9) #[true, true, true, true, true, true, true, true, true, true, false, false, false, false, false, false, false, false, false, false, false, false, false] S H rfl (r_load rfl List.mem_cons_self (w32_get (cir (mw r) t) (i := ((t - 8) % 16)) (by omega) (by omega)) (fun w hc => ld1 ag105 hc)) (wanted_none rfl) rfl rfl (by kernel_rfl) (fun _ _ _ h => h) ?_; clear S a; intro a S
              refine d_pure (i := 10) #[true, true, true, true, true, true, true, true, true, true, true, false, false, false, false, false, false, false, false, false, false, false, false] S rfl (p_xor rfl rfl (xor32 ((cir (mw r) t) (((t - 3) % 16))) ((cir (mw r) t) (((t - 8) % 16))))) (wanted_none rfl) rfl rfl (by kernel_rfl) (fun _ _ _ h => h) ?_; clear S a; intro a S
              refine d_pure (i := 11) #[true, true, true, true, true, true, true, true, true, true, true, true, false, false, false, false, false, false, false, false, false, false, false] S rfl (p_move rfl) (wanted_none rfl) rfl rfl (by kernel_rfl) (fun _ _ _ h => h) ?_; clear S a; intro a S
              refine d_pure (i := 12) #[true, true, true, true, true, true, true, true, true, true, true, true, true, false, false, false, false, false, false, false, false, false, false] S rfl (p_sub rfl rfl (nat_sub (x := t) (y := 14) (by omega) (by omega))) (wanted_none rfl) rfl rfl (by kernel_rfl) (fun _ _ _ h => h) ?_; clear S a; intro a S
              refine d_pure (i := 13) #[true, true, true, true, true, true, true, true, true, true, true, true, true, true, false, false, false, false, false, false, false, false, false] S rfl (p_and rfl rfl (nat_mask 4 (by decide) (x := (t - 14)) (by omega) rfl)) (wanted_none rfl) rfl rfl (by kernel_rfl) (fun _ _ _ h => h) ?_; clear S a; intro a S
              refine d_pure (i := 14) #[true, true, true, true, true, true, true, true, true, true, true, true, true, true, true, false, false, false, false, false, false, false, false] S rfl (p_indexAddr rfl rfl (fun w => ia_array Tryz.underlying231 sz105 (by omega) (by omega))) (wanted_none rfl) rfl rfl (by kernel_rfl) (fun _ _ _ h => h) ?_; clear S a; intro a S
              refine d_read (i := 15) #[true, true, true, true, true, true, true, true, true, true, true, true, true, true, true, true, false, false, false, false, false, false, false] S H rfl (r_load rfl List.mem_cons_self (w32_get (cir (mw r) t) (i := ((t - 14) % 16)) (by omega) (by omega)) (fun w hc => ld1 ag105 hc)) (wanted_none rfl) rfl rfl (by kernel_rfl) (fun _ _ _ h => h) ?_; clear S a; intro a S
              refine d_pure (i := 16) #[true, true, true, true, true, true, true, true, true, true, true, true, true, true, true, true, true, false, false, false, false, false, false] S rfl (p_xor rfl rfl (xor32 (((cir (mw r) t) (((t - 3) % 16))) ^^^ ((cir (mw r) t) (((t - 8) % 16)))) ((cir (mw r) t) (((t - 14) % 16))))) (wanted_none rfl) rfl rfl (by kernel_rfl) (fun _ _ _ h => h) ?_; clear S a; intro a S
              refine d_pure (i := 17) #[true, true, true, true, true, true, true, true, true, true, true, true, true, true, true, true, true, true, false, false, false, false, false] S rfl (p_move rfl) (wanted_none rfl) rfl rfl (by kernel_rfl) (fun _ _ _ h => h) ?_; clear S a; intro a S
              refine d_pure (i := 18) #[true, true, true, true, true, true, true, true, true, true, true, true, true, true, true, true, true, true, true, false, false, false, false] S rfl (p_and rfl rfl (nat_mask 4 (by decide) (x := t) (by omega) rfl)) (wanted_none rfl) rfl rfl (by kernel_rfl) (fun _ _ _ h => h) ?_; clear S a; intro a S
              refine d_pure (i := 19) #[true, true, true, true, true, true, true, true, true, true, true, true, true, true, true, true, true, true, true, true, false, false, false] S rfl (p_indexAddr rfl rfl (fun w => ia_array Tryz.underlying231 sz105 (by omega) (by omega))) (wanted_none rfl) rfl rfl (by kernel_rfl) (fun _ _ _ h => h) ?_; clear S a; intro a S
              refine d_read (i := 20) #[true, true, true, true, true, true, true, true, true, true, true, true, true, true, true, true, true, true, true, true, true, false, false] S H rfl (r_load rfl List.mem_cons_self (w32_get (cir (mw r) t) (i := (t % 16)) (by omega) (by omega)) (fun w hc => ld1 ag105 hc)) (wanted_none rfl) rfl rfl (by kernel_rfl) (fun _ _ _ h => h) ?_; clear S a; intro a S
              refine d_pure (i := 21) #[true, true, true, true, true, true, true, true, true, true, true, true, true, true, true, true, true, true, true, true, true, true, false] S rfl (p_xor rfl rfl (xor32 ((((cir (mw r) t) (((t - 3) % 16))) ^^^ ((cir (mw r) t) (((t - 8) % 16)))) ^^^ ((cir (mw r) t) (((t - 14) % 16)))) ((cir (mw r) t) ((t % 16))))) (wanted_none rfl) rfl rfl (by kernel_rfl) (fun _ _ _ h => h) ?_; clear S a; intro a S
              refine d_pure (i := 22) #[true, true, true, true, true, true, true, true, true, true, true, true, true, true, true, true, true, true, true, true, true, true, true] S rfl (p_assign rfl) (wanted_none rfl) rfl rfl (by kernel_rfl) (fun _ _ _ h => h) ?_; clear S a; intro a S
              refine d_done (by kernel_rfl) ?_
              refine e_then ?_
              refine wp_seq ?_
              refine c_region ?_
              refine l_pure S (p_move rfl) rfl rfl rfl ?_; clear S a; intro a S
              refine l_pure S (p_and rfl rfl (nat_mask 4 (by decide) (x := t) (by omega) rfl)) rfl rfl rfl ?_; clear S a; intro a S
              refine l_pure S (p_move rfl) rfl rfl rfl ?_; clear S a; intro a S
              refine l_call S rfl rfl Tryz.func123 rfl rfl (rotl1 (((((cir (mw r) t) (((t - 3) % 16))) ^^^ ((cir (mw r) t) (((t - 8) % 16)))) ^^^ ((cir (mw r) t) (((t - 14) % 16)))) ^^^ ((cir (mw r) t) ((t % 16)))) w) rfl rfl rfl ?_
              rintro e w ⟨rfl, hb⟩
              refine ⟨_, rfl, ?_⟩; clear S a; intro a S
              replace H := H.later hb; clear hb
              refine l_pure S (p_indexAddr rfl rfl (fun w => ia_array Tryz.underlying231 sz105 (by omega) (by omega))) rfl rfl rfl ?_; clear S a; intro a S
              refine l_store S H rfl rfl rfl .here (by simp [fv_len]; omega) (fun w u hc hz => st1 sz105 rfl hc hz) rfl rfl ?_; clear S a H; intro w a H S
              rw [w32_set (cir (mw r) t) (i := (t % 16)) (rot (((((cir (mw r) t) (((t - 3) % 16))) ^^^ ((cir (mw r) t) (((t - 8) % 16)))) ^^^ ((cir (mw r) t) (((t - 14) % 16)))) ^^^ ((cir (mw r) t) ((t % 16)))) 1) (by omega)] at H
              rw [show fv (w32 (up (cir (mw r) t) ((t % 16)) (rot (((((cir (mw r) t) (((t - 3) % 16))) ^^^ ((cir (mw r) t) (((t - 8) % 16)))) ^^^ ((cir (mw r) t) (((t - 14) % 16)))) ^^^ ((cir (mw r) t) ((t % 16)))) 1))) 16 = fv (w32 (cir (mw r) (t + 1))) 16 from cir_up (by omega) (by rw [ws_hi (t := t) (by omega), cir_at (by omega) (by omega) (by omega), cir_at (by omega) (by omega) (by omega), cir_at (by omega) (by omega) (by omega), show (t % 16) = (t - 16) % 16 by omega, cir_at (by omega) (by omega) (by omega)])] at H
              refine l_nil ?_
              refine e_then ?_
              refine wp_seq ?_
              refine c_region ?_
              refine l_pure S (p_move rfl) rfl rfl rfl ?_; clear S a; intro a S
              refine l_pure S (p_move rfl) rfl rfl rfl ?_; clear S a; intro a S
              refine l_pure S (p_or rfl rfl (or32 (rnds (mw r) t h).b (rnds (mw r) t h).c)) rfl rfl rfl ?_; clear S a; intro a S
              refine l_pure S (p_move rfl) rfl rfl rfl ?_; clear S a; intro a S
              refine l_pure S (p_and rfl rfl (and32 ((rnds (mw r) t h).b ||| (rnds (mw r) t h).c) (rnds (mw r) t h).d)) rfl rfl rfl ?_; clear S a; intro a S
              refine l_pure S (p_move rfl) rfl rfl rfl ?_; clear S a; intro a S
              refine l_pure S (p_move rfl) rfl rfl rfl ?_; clear S a; intro a S
              refine l_pure S (p_and rfl rfl (and32 (rnds (mw r) t h).b (rnds (mw r) t h).c)) rfl rfl rfl ?_; clear S a; intro a S
              refine l_pure S (p_or rfl rfl (or32 (((rnds (mw r) t h).b ||| (rnds (mw r) t h).c) &&& (rnds (mw r) t h).d) ((rnds (mw r) t h).b &&& (rnds (mw r) t h).c))) rfl rfl rfl ?_; clear S a; intro a S
              refine l_pure S (p_assign rfl) rfl rfl rfl ?_; clear S a; intro a S
              refine l_nil ?_
              refine e_then ?_
              refine wp_seq ?_
              refine d_start (id := 34) [] 13 #[false, false, false, false, false, false, false, false, false, false, false, false, false] H rfl rfl rfl (fun w H => ?_)
              refine d_pure (i := 0) #[true, false, false, false, false, false, false, false, false, false, false, false, false] S rfl (p_move rfl) (wanted_none rfl) rfl rfl (by kernel_rfl) (fun _ _ _ h => h) ?_; clear S a; intro a S
              refine d_pure (i := 2) #[true, false, true, false, false, false, false, false, false, false, false, false, false] S rfl (p_move rfl) (wanted_none rfl) rfl rfl (by kernel_rfl) (fun _ _ _ h => h) ?_; clear S a; intro a S
              refine d_pure (i := 4) #[true, false, true, false, true, false, false, false, false, false, false, false, false] S rfl (p_move rfl) (wanted_none rfl) rfl rfl (by kernel_rfl) (fun _ _ _ h => h) ?_; clear S a; intro a S
              refine d_pure (i := 6) #[true, false, true, false, true, false, true, false, false, false, false, false, false] S rfl (p_move rfl) (wanted_none rfl) rfl rfl (by kernel_rfl) (fun _ _ _ h => h) ?_; clear S a; intro a S
              refine d_pure (i := 7) #[true, false, true, false, true, false, true, true, false, false, false, false, false] S rfl (p_and rfl rfl (nat_mask 4 (by decide) (x := t) (by omega) rfl)) (wanted_none rfl) rfl rfl (by kernel_rfl) (fun _ _ _ h => h) ?_; clear S a; intro a S
              refine d_pure (i := 8) #[true, false, true, false, true, false, true, true, true, false, false, false, false] S rfl (p_indexAddr rfl rfl (fun w => ia_array Tryz.underlying231 sz105 (by omega) (by omega))) (wanted_none rfl) rfl rfl (by kernel_rfl) (fun _ _ _ h => h) ?_; clear S a; intro a S
              refine d_read (i := 9) #[true, false, true, false, true, false, true, true, true, true, false, false, false] S H rfl (r_load rfl List.mem_cons_self (w32_get (cir (mw r) (t + 1)) (i := (t % 16)) (by omega) (by omega)) (fun w hc => ld1 ag105 hc)) (wanted_none rfl) rfl rfl (by kernel_rfl) (fun _ _ _ h => h) ?_; clear S a; intro a S
              refine d_call (i := 1) #[true, true, true, false, true, false, true, true, true, true, false, false, false] S rfl rfl rfl Tryz.func123 rfl rfl (rotl5 (rnds (mw r) t h).a w) (wanted_none rfl) rfl rfl (by kernel_rfl) rfl ?_
              rintro e w ⟨rfl, hb⟩
              refine ⟨_, rfl, H.later hb, ?_⟩; replace H := H.later hb; clear hb; clear S a; intro a S
              refine d_pure (i := 3) #[true, true, true, true, true, false, true, true, true, true, false, false, false] S rfl (p_add rfl rfl (add32 (rot (rnds (mw r) t h).a 5) ((((rnds (mw r) t h).b ||| (rnds (mw r) t h).c) &&& (rnds (mw r) t h).d) ||| ((rnds (mw r) t h).b &&& (rnds (mw r) t h).c)))) (wanted_none rfl) rfl rfl (by kernel_rfl) (fun _ _ _ h => h) ?_; clear S a; intro a S
              refine d_pure (i := 5) #[true, true, true, true, true, true, true, true, true, true, false, false, false] S rfl (p_add rfl rfl (add32 ((rot (rnds (mw r) t h).a 5) + ((((rnds (mw r) t h).b ||| (rnds (mw r) t h).c) &&& (rnds (mw r) t h).d) ||| ((rnds (mw r) t h).b &&& (rnds (mw r) t h).c))) (rnds (mw r) t h).e)) (wanted_none rfl) rfl rfl (by kernel_rfl) (fun _ _ _ h => h) ?_; clear S a; intro a S
              refine d_pure (i := 10) #[true, true, true, true, true, true, true, true, true, true, true, false, false] S rfl (p_add rfl rfl (add32 (((rot (rnds (mw r) t h).a 5) + ((((rnds (mw r) t h).b ||| (rnds (mw r) t h).c) &&& (rnds (mw r) t h).d) ||| ((rnds (mw r) t h).b &&& (rnds (mw r) t h).c))) + (rnds (mw r) t h).e) ((cir (mw r) (t + 1)) ((t % 16))))) (wanted_none rfl) rfl rfl (by kernel_rfl) (fun _ _ _ h => h) ?_; clear S a; intro a S
              refine d_pure (i := 11) #[true, true, true, true, true, true, true, true, true, true, true, true, false] S rfl (p_add rfl rfl (add32 ((((rot (rnds (mw r) t h).a 5) + ((((rnds (mw r) t h).b ||| (rnds (mw r) t h).c) &&& (rnds (mw r) t h).d) ||| ((rnds (mw r) t h).b &&& (rnds (mw r) t h).c))) + (rnds (mw r) t h).e) + ((cir (mw r) (t + 1)) ((t % 16)))) 2400959708#32)) (wanted_none rfl) rfl rfl (by kernel_rfl) (fun _ _ _ h => h) ?_; clear S a; intro a S
              rw [show (((((rot (rnds (mw r) t h).a 5) + ((((rnds (mw r) t h).b ||| (rnds (mw r) t h).c) &&& (rnds (mw r) t h).d) ||| ((rnds (mw r) t h).b &&& (rnds (mw r) t h).c))) + (rnds (mw r) t h).e) + ((cir (mw r) (t + 1)) ((t % 16)))) + 2400959708#32) = (rnd (mw r) t (rnds (mw r) t h)).a from next_a (fF2 (by omega) (by omega) _ _ _) (kF2 (by omega) (by omega)) (cir_at (m := mw r) (t := t + 1) (u := t) (by omega) (by omega) (by omega))] at S
              refine d_pure (i := 12) #[true, true, true, true, true, true, true, true, true, true, true, true, true] S rfl (p_assign rfl) (wanted_none rfl) rfl rfl (by kernel_rfl) (fun _ _ _ h => h) ?_; clear S a; intro a S
              refine d_done (by kernel_rfl) ?_
              refine e_then ?_
              refine c_region ?_
              refine l_pure S (p_move rfl) rfl rfl rfl ?_; clear S a; intro a S
              refine l_pure S (p_move rfl) rfl rfl rfl ?_; clear S a; intro a S
              refine l_pure S (p_move rfl) rfl rfl rfl ?_; clear S a; intro a S
              refine l_call S rfl rfl Tryz.func123 rfl rfl (rotl30 (rnds (mw r) t h).b w) rfl rfl rfl ?_
              rintro e w ⟨rfl, hb⟩
              refine ⟨_, rfl, ?_⟩; clear S a; intro a S
              replace H := H.later hb; clear hb
              refine l_pure S (p_move rfl) rfl rfl rfl ?_; clear S a; intro a S
              refine l_pure S (p_move rfl) rfl rfl rfl ?_; clear S a; intro a S
              refine l_pure S (p_assign rfl) rfl rfl rfl ?_; clear S a; intro a S
              refine l_pure S (p_assign rfl) rfl rfl rfl ?_; clear S a; intro a S
              refine l_pure S (p_assign rfl) rfl rfl rfl ?_; clear S a; intro a S
              refine l_pure S (p_assign rfl) rfl rfl rfl ?_; clear S a; intro a S
              refine l_pure S (p_assign rfl) rfl rfl rfl ?_; clear S a; intro a S
              refine l_nil ?_
              refine e_in 11 ?_
              refine e_then ?_
              refine c_region ?_
              refine l_pure S (p_move rfl) rfl rfl rfl ?_; clear S a; intro a S
              refine l_pure S (p_add rfl rfl (nat_add (x := t) (y := 1) (by omega))) rfl rfl rfl ?_; clear S a; intro a S
              refine l_pure S (p_assign rfl) rfl rfl rfl ?_; clear S a; intro a S
              refine l_nil ?_
              refine e_then ?_
              exact ⟨(t + 1), ⟨S.only ⟨rfl, rfl, rfl, rfl, rfl, rfl, rfl, rfl, rfl, rfl, rfl, rfl, rfl, rfl, trivial⟩, H, ⟨by omega, by omega⟩⟩, by show 60 - (t + 1) < 60 - t; omega⟩
            · skip
              have c13 := of_decide_eq_false c13
              refine wp_exit ?_
              refine e_then_exit ?_
              refine e_then_exit ?_
              refine e_in_exit ?_
              refine e_then ?_
              refine wp_seq ?_
              refine wp_block ?_
              obtain rfl : t = 60 := by omega
              refine c_loop (σ := Nat) (fun s_ a w => match s_ with | t => SL a 397 [] [(0, .pointer (some ⟨g, 0, none⟩)), (1, .slice (some ⟨gp, o, none⟩) r.length c), (4, .pointer (some ⟨g1, 0, none⟩)), (5, .int .u32 (h.a.toNat : Int)), (6, .int .u32 (h.b.toNat : Int)), (7, .int .u32 (h.c.toNat : Int)), (8, .int .u32 (h.d.toNat : Int)), (9, .int .u32 (h.e.toNat : Int)), (12, .int .u32 ((rnds (mw r) t h).a.toNat : Int)), (13, .int .u32 ((rnds (mw r) t h).b.toNat : Int)), (14, .int .u32 ((rnds (mw r) t h).c.toNat : Int)), (15, .int .u32 ((rnds (mw r) t h).d.toNat : Int)), (16, .int .u32 ((rnds (mw r) t h).e.toNat : Int)), (17, .int .i64 (t : Int))] ∧ HH (w0.heap.size) w0 w [(g1, .cells (fv (w32 (cir (mw r) t)) 16).toArray 231 (0, 0))] ∧ (60 ≤ t ∧ t ≤ 80)) (fun s_ => match s_ with | t => 80 - t) 60 ⟨S.only ⟨rfl, rfl, rfl, rfl, rfl, rfl, rfl, rfl, rfl, rfl, rfl, rfl, rfl, rfl, trivial⟩, H, ⟨Nat.le_refl _, by omega⟩⟩ ?_
              clear S a H; rintro t a w ⟨S, H, hinv⟩
              refine wp_seq ?_
              refine wp_seq ?_
              refine c_region ?_
              refine l_pure S (p_move rfl) rfl rfl rfl ?_; clear S a; intro a S
              refine l_pure S (p_lss rfl rfl) rfl rfl rfl ?_; clear S a; intro a S
              refine l_nil ?_
              refine e_then ?_
              refine c_cond S rfl (fun c15 => ?_) (fun c15 => ?_)
              · skip
                have c15 := of_decide_eq_true c15
                refine wp_skip ?_
                refine e_then ?_
                refine wp_seq ?_
                refine wp_block ?_
                refine wp_seq ?_
                refine d_start (id := 38) [] 23 #[false, false, false, false, false, false, false, false, false, false, false, false, false, false, false, false, false, false, false, false, false, false, false] H rfl rfl rfl (fun w H => ?_)
                refine d_pure (i := 0) #[true, false, false, false, false, false, false, false, false, false, false, false, false, false, false, false, false, false, false, false, false, false, false] S rfl (p_move rfl) (wanted_none rfl) rfl rfl (by kernel_rfl) (fun _ _ _ h => h) ?_; clear S a; intro a S
                refine d_pure (i := 1) #[true, true, false, false, false, false, false, false, false, false, false, false, false, false, false, false, false, false, false, false, false, false, false] S rfl (p_sub rfl rfl (nat_sub (x := t) (y := 3) (by omega) (by omega))) (wanted_none rfl) rfl rfl (by kernel_rfl) (fun _ _ _ h => h) ?_; clear S a; intro a S
                refine d_pure (i := 2) #[true, true, true, false, false, false, false, false, false, false, false, false, false, false, false, false, false, false, false, false, false, false, false] S rfl (p_and rfl rfl (nat_mask 4 (by decide) (x := (t - 3)) (by omega) rfl)) (wanted_none rfl) rfl rfl (by kernel_rfl) (fun _ _ _ h => h) ?_; clear S a; intro a S
                refine d_pure (i := 3) #[true, true, true, true, false, false, false, false, false, false, false, false, false, false, false, false, false, false, false, false, false, false, false] S rfl (p_indexAddr rfl rfl (fun w => ia_array Tryz.underlying231 sz105 (by omega) (by omega))) (wanted_none rfl) rfl rfl (by kernel_rfl) (fun _ _ _ h => h) ?_; clear S a; intro a S
                refine d_read (i := 4) #[true, true, true, true, true, false, false, false, false, false, false, false, false, false, false, false, false, false, false, false, false, false, false] S H rfl (r_load rfl List.mem_cons_self (w32_get (cir (mw r) t) (i := ((t - 3) % 16)) (by omega) (by omega)) (fun w hc => ld1 ag105 hc)) (wanted_none rfl) rfl rfl (by kernel_rfl) (fun _ _ _ h => h) ?_; clear S a; intro a S
                refine d_pure (i := 5) #[true, true, true, true, true, true, false, false, false, false, false, false, false, false, false, false, false, false, false, false, false, false, false] S rfl (p_move rfl) (wanted_none rfl) rfl rfl (by kernel_rfl) (fun _ _ _ h => h) ?_; clear S a; intro a S
                refine d_pure (i := 6) #[true, true, true, true, true, true, true, false, false, false, false, false, false, false, false, false, false, false, false, false, false, false, false] S rfl (p_sub rfl rfl (nat_sub (x := t) (y := 8) (by omega) (by omega))) (wanted_none rfl) rfl rfl (by kernel_rfl) (fun _ _ _ h => h) ?_; clear S a; intro a S
                refine d_pure (i := 7) #[true, true, true, true, true, true, true, true, false, false, false, false, false, false, false, false, false, false, false, false, false, false, false] S rfl (p_and rfl rfl (nat_mask 4 (by decide) (x := (t - 8)) (by omega) rfl)) (wanted_none rfl) rfl rfl (by kernel_rfl) (fun _ _ _ h => h) ?_; clear S a; intro a S
                refine d_pure (i := 8) #[true, true, true, true, true, true, true, true, true, false, false, false, false, false, false, false, false, false, false, false, false, false, false] S rfl (p_indexAddr rfl rfl (fun w => ia_array Tryz.underlying231 sz105 (by omega) (by omega))) (wanted_none rfl) rfl rfl (by kernel_rfl) (fun _ _ _ h => h) ?_; clear S a; intro a S
                refine d_read (i := 9) #[true, true, true, true, true, true, true, true, true, true, false, false, false, false, false, false, false, false, false, false, false, false, false] S H rfl (r_load rfl List.mem_cons_self (w32_get (cir (mw r) t) (i := ((t - 8) % 16)) (by omega) (by omega)) (fun w hc => ld1 ag105 hc)) (wanted_none rfl) rfl rfl (by kernel_rfl) (fun _ _ _ h => h) ?_; clear S a; intro a S
                refine d_pure (i := 10) #[true, true, true, true, true, true, true, true, true, true, true, false, false, false, false, false, false, false, false, false, false, false, false] S rfl (p_xor rfl rfl (xor32 ((cir (mw r) t) (((t - 3) % 16))) ((cir (mw r) t) (((t - 8) % 16))))) (wanted_none rfl) rfl rfl (by kernel_rfl) (fun _ _ _ h => h) ?_; clear S a; intro a S
                refine d_pure (i := 11) #[true, true, true, true, true, true, true, true, true, true, true, true, false, false, false, false, false, false, false, false, false, false, false] S rfl (p_move rfl) (wanted_none rfl) rfl rfl (by kernel_rfl) (fun _ _ _ h => h) ?_; clear S a; intro a S
                refine d_pure (i := 12) #[true, true, true, true, true, true, true, true, true, true, true, true, true, false, false, false, false, false, false, false, false, false, false] S rfl (p_sub rfl rfl (nat_sub (x := t) (y := 14) (by omega) (by omega))) (wanted_none rfl) rfl rfl (by kernel_rfl) (fun _ _ _ h => h) ?_; clear S a; intro a S
                refine d_pure (i := 13) #[true, true, true, true, true, true, true, true, true, true, true, true, true, true, false, false, false, false, false, false, false, false, false] S rfl (p_and rfl rfl (nat_mask 4 (by decide) (x := (t - 14)) (by omega) rfl)) (wanted_none rfl) rfl rfl (by kernel_rfl) (fun _ _ _ h => h) ?_; clear S a; intro a S
                refine d_pure (i := 14) #[true, true, true, true, true, true, true, true, true, true, true, true, true, true, true, false, false, false, false, false, false, false, false] S rfl (p_indexAddr rfl rfl (fun w => ia_array Tryz.underlying231 sz105 (by omega) (by omega))) (wanted_none rfl) rfl rfl (by kernel_rfl) (fun _ _ _ h => h) ?_; clear S a; intro a S
                refine d_read (i := 15) #[true, true, true, true, true, true, true, true, true, true, true, true, true, true, true, true, false, false, false, false, false, false, false] S H rfl (r_load rfl List.mem_cons_self (w32_get (cir (mw r) t) (i := ((t - 14) % 16)) (by omega) (by omega)) (fun w hc => ld1 ag105 hc)) (wanted_none rfl) rfl rfl (by kernel_rfl) (fun _ _ _ h => h) ?_; clear S a; intro a S
                refine d_pure (i := 16) #[true, true, true, true, true, true, true, true, true, true, true, true, true, true, true, true, true, false, false, false, false, false, false] S rfl (p_xor rfl rfl (xor32 (((cir (mw r) t) (((t - 3) % 16))) ^^^ ((cir (mw r) t) (((t - 8) % 16)))) ((cir (mw r) t) (((t - 14) % 16))))) (wanted_none rfl) rfl rfl (by kernel_rfl) (fun _ _ _ h => h) ?_; clear S a; intro a S
                refine d_pure (i := 17) #[true, true, true, true, true, true, true, true, true, true, true, true, true, true, true, true, true, true, false, false, false, false, false] S rfl (p_move rfl) (wanted_none rfl) rfl rfl (by kernel_rfl) (fun _ _ _ h => h) ?_; clear S a; intro a S
                refine d_pure (i := 18) #[true, true, true, true, true, true, true, true, true, true, true, true, true, true, true, true, true, true, true, false, false, false, false] S rfl (p_and rfl rfl (nat_mask 4 (by decide) (x := t) (by omega) rfl)) (wanted_none rfl) rfl rfl (by kernel_rfl) (fun _ _ _ h => h) ?_; clear S a; intro a S
                refine d_pure (i := 19) #[true, true, true, true, true, true, true, true, true, true, true, true, true, true, true, true, true, true, true, true, false, false, false] S rfl (p_indexAddr rfl rfl (fun w => ia_array Tryz.underlying231 sz105 (by omega) (by omega))) (wanted_none rfl) rfl rfl (by kernel_rfl) (fun _ _ _ h => h) ?_; clear S a; intro a S
                refine d_read (i := 20) #[true, true, true, true, true, true, true, true, true, true, true, true, true, true, true, true, true, true, true, true, true, false, false] S H rfl (r_load rfl List.mem_cons_self (w32_get (cir (mw r) t) (i := (t % 16)) (by omega) (by omega)) (fun w hc => ld1 ag105 hc)) (wanted_none rfl) rfl rfl (by kernel_rfl) (fun _ _ _ h => h) ?_; clear S a; intro a S
                refine d_pure (i := 21) #[true, true, true, true, true, true, true, true, true, true, true, true, true, true, true, true, true, true, true, true, true, true, false] S rfl (p_xor rfl rfl (xor32 ((((cir (mw r) t) (((t - 3) % 16))) ^^^ ((cir (mw r) t) (((t - 8) % 16)))) ^^^ ((cir (mw r) t) (((t - 14) % 16)))) ((cir (mw r) t) ((t % 16))))) (wanted_none rfl) rfl rfl (by kernel_rfl) (fun _ _ _ h => h) ?_; clear S a; intro a S
                refine d_pure (i := 22) #[true, true, true, true, true, true, true, true, true, true, true, true, true, true, true, true, true, true, true, true, true, true, true] S rfl (p_assign rfl) (wanted_none rfl) rfl rfl (by kernel_rfl) (fun _ _ _ h => h) ?_; clear S a; intro a S
                refine d_done (by kernel_rfl) ?_
                refine e_then ?_
                refine wp_seq ?_
                refine c_region ?_
                refine l_pure S (p_move rfl) rfl rfl rfl ?_; clear S a; intro a S
                refine l_pure S (p_and rfl rfl (nat_mask 4 (by decide) (x := t) (by omega) rfl)) rfl rfl rfl ?_; clear S a; intro a S
                refine l_pure S (p_move rfl) rfl rfl rfl ?_; clear S a; intro a S
                refine l_call S rfl rfl Tryz.func123 rfl rfl (rotl1 (((((cir (mw r) t) (((t - 3) % 16))) ^^^ ((cir (mw r) t) (((t - 8) % 16)))) ^^^ ((cir (mw r) t) (((t - 14) % 16)))) ^^^ ((cir (mw r) t) ((t % 16)))) w) rfl rfl rfl ?_
                rintro e w ⟨rfl, hb⟩
                refine ⟨_, rfl, ?_⟩; clear S a; intro a S
                replace H := H.later hb; clear hb
                refine l_pure S (p_indexAddr rfl rfl (fun w => ia_array Tryz.underlying231 sz105 (by omega) (by omega))) rfl rfl rfl ?_; clear S a; intro a S
                refine l_store S H rfl rfl rfl .here (by simp [fv_len]; omega) (fun w u hc hz => st1 sz105 rfl hc hz) rfl rfl ?_; clear S a H; intro w a H S
                rw [w32_set (cir (mw r) t) (i := (t % 16)) (rot (((((cir (mw r) t) (((t - 3) % 16))) ^^^ ((cir (mw r) t) (((t - 8) % 16)))) ^^^ ((cir (mw r) t) (((t - 14) % 16)))) ^^^ ((cir (mw r) t) ((t % 16)))) 1) (by omega)] at H
                rw [show fv (w32 (up (cir (mw r) t) ((t % 16)) (rot (((((cir (mw r) t) (((t - 3) % 16))) ^^^ ((cir (mw r) t) (((t - 8) % 16)))) ^^^ ((cir (mw r) t) (((t - 14) % 16)))) ^^^ ((cir (mw r) t) ((t % 16)))) 1))) 16 = fv (w32 (cir (mw r) (t + 1))) 16 from cir_up (by omega) (by rw [ws_hi (t := t) (by omega), cir_at (by omega) (by omega) (by omega), cir_at (by omega) (by omega) (by omega), cir_at (by omega) (by omega) (by omega), show (t % 16) = (t - 16) % 16 by omega, cir_at (by omega) (by omega) (by omega)])] at H
                refine l_nil ?_
                refine e_then ?_
                refine wp_seq ?_
                refine c_region ?_
                refine l_pure S (p_move rfl) rfl rfl rfl ?_; clear S a; intro a S
                refine l_pure S (p_move rfl) rfl rfl rfl ?_; clear S a; intro a S
                refine l_pure S (p_xor rfl rfl (xor32 (rnds (mw r) t h).b (rnds (mw r) t h).c)) rfl rfl rfl ?_; clear S a; intro a S
                refine l_pure S (p_move rfl) rfl rfl rfl ?_; clear S a; intro a S
                refine l_pure S (p_xor rfl rfl (xor32 ((rnds (mw r) t h).b ^^^ (rnds (mw r) t h).c) (rnds (mw r) t h).d)) rfl rfl rfl ?_; clear S a; intro a S
                refine l_pure S (p_assign rfl) rfl rfl rfl ?_; clear S a; intro a S
                refine l_nil ?_
                refine e_then ?_
                refine wp_seq ?_
                refine d_start (id := 41) [] 13 #[false, false, false, false, false, false, false, false, false, false, false, false, false] H rfl rfl rfl (fun w H => ?_)
                refine d_pure (i := 0) #[true, false, false, false, false, false, false, false, false, false, false, false, false] S rfl (p_move rfl) (wanted_none rfl) rfl rfl (by kernel_rfl) (fun _ _ _ h => h) ?_; clear S a; intro a S
                refine d_pure (i := 2) #[true, false, true, false, false, false, false, false, false, false, false, false, false] S rfl (p_move rfl) (wanted_none rfl) rfl rfl (by kernel_rfl) (fun _ _ _ h => h) ?_; clear S a; intro a S
                refine d_pure (i := 4) #[true, false, true, false, true, false, false, false, false, false, false, false, false] S rfl (p_move rfl) (wanted_none rfl) rfl rfl (by kernel_rfl) (fun _ _ _ h => h) ?_; clear S a; intro a S
                refine d_pure (i := 6) #[true, false, true, false, true, false, true, false, false, false, false, false, false] S rfl (p_move rfl) (wanted_none rfl) rfl rfl (by kernel_rfl) (fun _ _ _ h => h) ?_; clear S a; intro a S
                refine d_pure (i := 7) #[true, false, true, false, true, false, true, true, false, false, false, false, false] S rfl (p_and rfl rfl (nat_mask 4 (by decide) (x := t) (by omega) rfl)) (wanted_none rfl) rfl rfl (by kernel_rfl) (fun _ _ _ h => h) ?_; clear S a; intro a S
                refine d_pure (i := 8) #[true, false, true, false, true, false, true, true, true, false, false, false, false] S rfl (p_indexAddr rfl rfl (fun w => ia_array Tryz.underlying231 sz105 (by omega) (by omega))) (wanted_none rfl) rfl rfl (by kernel_rfl) (fun _ _ _ h => h) ?_; clear S a; intro a S
                refine d_read (i := 9) #[true, false, true, false, true, false, true, true, true, true, false, false, false] S H rfl (r_load rfl List.mem_cons_self (w32_get (cir (mw r) (t + 1)) (i := (t % 16)) (by omega) (by omega)) (fun w hc => ld1 ag105 hc)) (wanted_none rfl) rfl rfl (by kernel_rfl) (fun _ _ _ h => h) ?_; clear S a; intro a S
                refine d_call (i := 1) #[true, true, true, false, true, false, true, true, true, true, false, false, false] S rfl rfl rfl Tryz.func123 rfl rfl (rotl5 (rnds (mw r) t h).a w) (wanted_none rfl) rfl rfl (by kernel_rfl) rfl ?_
                rintro e w ⟨rfl, hb⟩
                refine ⟨_, rfl, H.later hb, ?_⟩; replace H := H.later hb; clear hb; clear S a; intro a S
                refine d_pure (i := 3) #[true, true, true, true, true, false, true, true, true, true, false, false, false] S rfl (p_add rfl rfl (add32 (rot (rnds (mw r) t h).a 5) (((rnds (mw r) t h).b ^^^ (rnds (mw r) t h).c) ^^^ (rnds (mw r) t h).d))) (wanted_none rfl) rfl rfl (by kernel_rfl) (fun _ _ _ h => h) ?_; clear S a; intro a S
                refine d_pure (i := 5) #[true, true, true, true, true, true, true, true, true, true, false, false, false] S rfl (p_add rfl rfl (add32 ((rot (rnds (mw r) t h).a 5) + (((rnds (mw r) t h).b ^^^ (rnds (mw r) t h).c) ^^^ (rnds (mw r) t h).d)) (rnds (mw r) t h).e)) (wanted_none rfl) rfl rfl (by kernel_rfl) (fun _ _ _ h => h) ?_; clear S a; intro a S
                refine d_pure (i := 10) #[true, true, true, true, true, true, true, true, true, true, true, false, false] S rfl (p_add rfl rfl (add32 (((rot (rnds (mw r) t h).a 5) + (((rnds (mw r) t h).b ^^^ (rnds (mw r) t h).c) ^^^ (rnds (mw r) t h).d)) + (rnds (mw r) t h).e) ((cir (mw r) (t + 1)) ((t % 16))))) (wanted_none rfl) rfl rfl (by kernel_rfl) (fun _ _ _ h => h) ?_; clear S a; intro a S
                refine d_pure (i := 11) #[true, true, true, true, true, true, true, true, true, true, true, true, false] S rfl (p_add rfl rfl (add32 ((((rot (rnds (mw r) t h).a 5) + (((rnds (mw r) t h).b ^^^ (rnds (mw r) t h).c) ^^^ (rnds (mw r) t h).d)) + (rnds (mw r) t h).e) + ((cir (mw r) (t + 1)) ((t % 16)))) 3395469782#32)) (wanted_none rfl) rfl rfl (by kernel_rfl) (fun _ _ _ h => h) ?_; clear S a; intro a S
                rw [show (((((rot (rnds (mw r) t h).a 5) + (((rnds (mw r) t h).b ^^^ (rnds (mw r) t h).c) ^^^ (rnds (mw r) t h).d)) + (rnds (mw r) t h).e) + ((cir (mw r) (t + 1)) ((t % 16)))) + 3395469782#32) = (rnd (mw r) t (rnds (mw r) t h)).a from next_a (fF3 (by omega) (by omega) _ _ _) (kF3 (by omega) (by omega)) (cir_at (m := mw r) (t := t + 1) (u := t) (by omega) (by omega) (by omega))] at S
                refine d_pure (i := 12) #[true, true, true, true, true, true, true, true, true, true, true, true, true] S rfl (p_assign rfl) (wanted_none rfl) rfl rfl (by kernel_rfl) (fun _ _ _ h => h) ?_; clear S a; intro a S
                refine d_done (by kernel_rfl) ?_
                refine e_then ?_
                refine c_region ?_
                refine l_pure S (p_move rfl) rfl rfl rfl ?_; clear S a; intro a S
                refine l_pure S (p_move rfl) rfl rfl rfl ?_; clear S a; intro a S
                refine l_pure S (p_move rfl) rfl rfl rfl ?_; clear S a; intro a S
                refine l_call S rfl rfl Tryz.func123 rfl rfl (rotl30 (rnds (mw r) t h).b w) rfl rfl rfl ?_
                rintro e w ⟨rfl, hb⟩
                refine ⟨_, rfl, ?_⟩; clear S a; intro a S
                replace H := H.later hb; clear hb
                refine l_pure S (p_move rfl) rfl rfl rfl ?_; clear S a; intro a S
                refine l_pure S (p_move rfl) rfl rfl rfl ?_; clear S a; intro a S
                refine l_pure S (p_assign rfl) rfl rfl rfl ?_; clear S a; intro a S
                refine l_pure S (p_assign rfl) rfl rfl rfl ?_; clear S a; intro a S
                refine l_pure S (p_assign rfl) rfl rfl rfl ?_; clear S a; intro a S
                refine l_pure S (p_assign rfl) rfl rfl rfl ?_; clear S a; intro a S
                refine l_pure S (p_assign rfl) rfl rfl rfl ?_; clear S a; intro a S
                refine l_nil ?_
                refine e_in 13 ?_
                refine e_then ?_
                refine c_region ?_
                refine l_pure S (p_move rfl) rfl rfl rfl ?_; clear S a; intro a S
                refine l_pure S (p_add rfl rfl (nat_add (x := t) (y := 1) (by omega))) rfl rfl rfl ?_; clear S a; intro a S
                refine l_pure S (p_assign rfl) rfl rfl rfl ?_; clear S a; intro a S
                refine l_nil ?_
                refine e_then ?_
                exact ⟨(t + 1), ⟨S.only ⟨rfl, rfl, rfl, rfl, rfl, rfl, rfl, rfl, rfl, rfl, rfl, rfl, rfl, rfl, trivial⟩, H, ⟨by omega, by omega⟩⟩, by show 80 - (t + 1) < 80 - t; omega⟩
              · skip
                have c15 := of_decide_eq_false c15
                refine wp_exit ?_
                refine e_then_exit ?_
                refine e_then_exit ?_
                refine e_in_exit ?_
                refine e_then ?_
                refine wp_seq ?_
                refine c_region ?_
                obtain rfl : t = 80 := by omega
                refine l_pure S (p_move rfl) rfl rfl rfl ?_; clear S a; intro a S
                refine l_pure S (p_move rfl) rfl rfl rfl ?_; clear S a; intro a S
                refine l_pure S (p_add rfl rfl (add32 h.a (rnds (mw r) 80 h).a)) rfl rfl rfl ?_; clear S a; intro a S
                refine l_pure S (p_assign rfl) rfl rfl rfl ?_; clear S a; intro a S
                refine l_nil ?_
                refine e_then ?_
                refine wp_seq ?_
                refine c_region ?_
                refine l_pure S (p_move rfl) rfl rfl rfl ?_; clear S a; intro a S
                refine l_pure S (p_move rfl) rfl rfl rfl ?_; clear S a; intro a S
                refine l_pure S (p_add rfl rfl (add32 h.b (rnds (mw r) 80 h).b)) rfl rfl rfl ?_; clear S a; intro a S
                refine l_pure S (p_assign rfl) rfl rfl rfl ?_; clear S a; intro a S
                refine l_nil ?_
                refine e_then ?_
                refine wp_seq ?_
                refine c_region ?_
                refine l_pure S (p_move rfl) rfl rfl rfl ?_; clear S a; intro a S
                refine l_pure S (p_move rfl) rfl rfl rfl ?_; clear S a; intro a S
                refine l_pure S (p_add rfl rfl (add32 h.c (rnds (mw r) 80 h).c)) rfl rfl rfl ?_; clear S a; intro a S
                refine l_pure S (p_assign rfl) rfl rfl rfl ?_; clear S a; intro a S
                refine l_nil ?_
                refine e_then ?_
                refine wp_seq ?_
                refine c_region ?_
                refine l_pure S (p_move rfl) rfl rfl rfl ?_; clear S a; intro a S
                refine l_pure S (p_move rfl) rfl rfl rfl ?_; clear S a; intro a S
                refine l_pure S (p_add rfl rfl (add32 h.d (rnds (mw r) 80 h).d)) rfl rfl rfl ?_; clear S a; intro a S
                refine l_pure S (p_assign rfl) rfl rfl rfl ?_; clear S a; intro a S
                refine l_nil ?_
                refine e_then ?_
                refine wp_seq ?_
                refine c_region ?_
                refine l_pure S (p_move rfl) rfl rfl rfl ?_; clear S a; intro a S
                refine l_pure S (p_move rfl) rfl rfl rfl ?_; clear S a; intro a S
                refine l_pure S (p_add rfl rfl (add32 h.e (rnds (mw r) 80 h).e)) rfl rfl rfl ?_; clear S a; intro a S
                refine l_pure S (p_assign rfl) rfl rfl rfl ?_; clear S a; intro a S
                refine l_nil ?_
                refine e_then ?_
                refine c_region ?_
                refine l_pure S (p_move rfl) rfl rfl rfl ?_; clear S a; intro a S
                refine l_pure S (p_slice rfl (o_some rfl) (fun _ _ => o_none) (fun _ _ => o_none) (fun w => sl_byte_lo (m := 64) (l := r) Tryz.underlying39 sz5 rfl (by omega))) rfl rfl rfl ?_; clear S a; intro a S
                refine l_pure S (p_assign rfl) rfl rfl rfl ?_; clear S a; intro a S
                refine l_nil ?_
                refine e_in 1 ?_
                refine e_then ?_
                exact ⟨⟨blk (mw r) h, r.drop 64, offAt o c 64, c - 64, cir (mw r) 80⟩, ⟨S.only ⟨rfl, rfl, rfl, rfl, rfl, rfl, rfl, rfl, trivial⟩, H, ⟨by rw [← hbk, blks_ge (l := r) (by omega)], hr.off 64 hrc, by rw [List.length_drop]; omega, by rw [List.length_drop]; omega, fun y hy => hby y (List.mem_of_mem_drop hy)⟩⟩, by show (r.drop 64).length < r.length; rw [List.length_drop]; omega⟩
  · skip
    have c3 := of_decide_eq_false c3
    refine wp_exit ?_
    refine e_then_exit ?_
    refine e_then_exit ?_
    refine e_in_exit ?_
    refine e_then ?_
    have hend : h = blks s l := by rw [← hbk, blks_lt (by omega)]
    replace H := HH.join Hc H
    refine d_start (id := 49) [13, 17, 21, 25, 29] 30 #[false, false, false, false, false, false, false, false, false, false, false, false, false, false, false, false, false, false, false, false, false, false, false, false, false, false, false, false, false, false] H rfl rfl rfl (fun w H => ?_)
    refine d_pure (i := 0) #[true, false, false, false, false, false, false, false, false, false, false, false, false, false, false, false, false, false, false, false, false, false, false, false, false, false, false, false, false, false] S rfl (p_move rfl) (wanted_none rfl) rfl rfl (by kernel_rfl) (fun _ _ _ h => h) ?_; clear S a; intro a S
    refine d_pure (i := 1) #[true, true, false, false, false, false, false, false, false, false, false, false, false, false, false, false, false, false, false, false, false, false, false, false, false, false, false, false, false, false] S rfl (p_move rfl) (wanted_none rfl) rfl rfl (by kernel_rfl) (fun _ _ _ h => h) ?_; clear S a; intro a S
    refine d_pure (i := 2) #[true, true, true, false, false, false, false, false, false, false, false, false, false, false, false, false, false, false, false, false, false, false, false, false, false, false, false, false, false, false] S rfl (p_move rfl) (wanted_none rfl) rfl rfl (by kernel_rfl) (fun _ _ _ h => h) ?_; clear S a; intro a S
    refine d_pure (i := 3) #[true, true, true, true, false, false, false, false, false, false, false, false, false, false, false, false, false, false, false, false, false, false, false, false, false, false, false, false, false, false] S rfl (p_move rfl) (wanted_none rfl) rfl rfl (by kernel_rfl) (fun _ _ _ h => h) ?_; clear S a; intro a S
    refine d_pure (i := 4) #[true, true, true, true, true, false, false, false, false, false, false, false, false, false, false, false, false, false, false, false, false, false, false, false, false, false, false, false, false, false] S rfl (p_move rfl) (wanted_none rfl) rfl rfl (by kernel_rfl) (fun _ _ _ h => h) ?_; clear S a; intro a S
    refine d_pure (i := 5) #[true, true, true, true, true, true, false, false, false, false, false, false, false, false, false, false, false, false, false, false, false, false, false, false, false, false, false, false, false, false] S rfl (p_move rfl) (wanted_none rfl) rfl rfl (by kernel_rfl) (fun _ _ _ h => h) ?_; clear S a; intro a S
    refine d_pure (i := 6) #[true, true, true, true, true, true, true, false, false, false, false, false, false, false, false, false, false, false, false, false, false, false, false, false, false, false, false, false, false, false] S rfl (p_move rfl) (wanted_none rfl) rfl rfl (by kernel_rfl) (fun _ _ _ h => h) ?_; clear S a; intro a S
    refine d_pure (i := 7) #[true, true, true, true, true, true, true, true, false, false, false, false, false, false, false, false, false, false, false, false, false, false, false, false, false, false, false, false, false, false] S rfl (p_move rfl) (wanted_none rfl) rfl rfl (by kernel_rfl) (fun _ _ _ h => h) ?_; clear S a; intro a S
    refine d_pure (i := 8) #[true, true, true, true, true, true, true, true, true, false, false, false, false, false, false, false, false, false, false, false, false, false, false, false, false, false, false, false, false, false] S rfl (p_move rfl) (wanted_none rfl) rfl rfl (by kernel_rfl) (fun _ _ _ h => h) ?_; clear S a; intro a S
    refine d_pure (i := 9) #[true, true, true, true, true, true, true, true, true, true, false, false, false, false, false, false, false, false, false, false, false, false, false, false, false, false, false, false, false, false] S rfl (p_move rfl) (wanted_none rfl) rfl rfl (by kernel_rfl) (fun _ _ _ h => h) ?_; clear S a; intro a S
    refine d_pure (i := 10) #[true, true, true, true, true, true, true, true, true, true, true, false, false, false, false, false, false, false, false, false, false, false, false, false, false, false, false, false, false, false] S rfl (p_nilCheck rfl) (wanted_none rfl) rfl rfl (by kernel_rfl) (fun _ _ _ h => h) ?_; clear S a; intro a S
    refine d_pure (i := 11) #[true, true, true, true, true, true, true, true, true, true, true, true, false, false, false, false, false, false, false, false, false, false, false, false, false, false, false, false, false, false] S rfl (p_fieldAddr rfl (fun w => fa168_0 w _ _)) (wanted_none rfl) rfl rfl (by kernel_rfl) (fun _ _ _ h => h) ?_; clear S a; intro a S
    refine d_pure (i := 12) #[true, true, true, true, true, true, true, true, true, true, true, true, true, false, false, false, false, false, false, false, false, false, false, false, false, false, false, false, false, false] S rfl (p_indexAddr rfl rfl (fun w => ia_array Tryz.underlying106 sz105 (by decide) (by decide))) (wanted_none rfl) rfl rfl (by kernel_rfl) (fun _ _ _ h => h) ?_; clear S a; intro a S
    refine d_pure (i := 14) #[true, true, true, true, true, true, true, true, true, true, true, true, true, false, true, false, false, false, false, false, false, false, false, false, false, false, false, false, false, false] S rfl (p_nilCheck rfl) (wanted_none rfl) rfl rfl (by kernel_rfl) (fun _ _ _ h => h) ?_; clear S a; intro a S
    refine d_pure (i := 15) #[true, true, true, true, true, true, true, true, true, true, true, true, true, false, true, true, false, false, false, false, false, false, false, false, false, false, false, false, false, false] S rfl (p_fieldAddr rfl (fun w => fa168_0 w _ _)) (wanted_none rfl) rfl rfl (by kernel_rfl) (fun _ _ _ h => h) ?_; clear S a; intro a S
    refine d_pure (i := 18) #[true, true, true, true, true, true, true, true, true, true, true, true, true, false, true, true, false, false, true, false, false, false, false, false, false, false, false, false, false, false] S rfl (p_nilCheck rfl) (wanted_none rfl) rfl rfl (by kernel_rfl) (fun _ _ _ h => h) ?_; clear S a; intro a S
    refine d_pure (i := 19) #[true, true, true, true, true, true, true, true, true, true, true, true, true, false, true, true, false, false, true, true, false, false, false, false, false, false, false, false, false, false] S rfl (p_fieldAddr rfl (fun w => fa168_0 w _ _)) (wanted_none rfl) rfl rfl (by kernel_rfl) (fun _ _ _ h => h) ?_; clear S a; intro a S
    refine d_pure (i := 22) #[true, true, true, true, true, true, true, true, true, true, true, true, true, false, true, true, false, false, true, true, false, false, true, false, false, false, false, false, false, false] S rfl (p_nilCheck rfl) (wanted_none rfl) rfl rfl (by kernel_rfl) (fun _ _ _ h => h) ?_; clear S a; intro a S
    refine d_pure (i := 23) #[true, true, true, true, true, true, true, true, true, true, true, true, true, false, true, true, false, false, true, true, false, false, true, true, false, false, false, false, false, false] S rfl (p_fieldAddr rfl (fun w => fa168_0 w _ _)) (wanted_none rfl) rfl rfl (by kernel_rfl) (fun _ _ _ h => h) ?_; clear S a; intro a S
    refine d_pure (i := 26) #[true, true, true, true, true, true, true, true, true, true, true, true, true, false, true, true, false, false, true, true, false, false, true, true, false, false, true, false, false, false] S rfl (p_nilCheck rfl) (wanted_none rfl) rfl rfl (by kernel_rfl) (fun _ _ _ h => h) ?_; clear S a; intro a S
    refine d_pure (i := 27) #[true, true, true, true, true, true, true, true, true, true, true, true, true, false, true, true, false, false, true, true, false, false, true, true, false, false, true, true, false, false] S rfl (p_fieldAddr rfl (fun w => fa168_0 w _ _)) (wanted_none rfl) rfl rfl (by kernel_rfl) (fun _ _ _ h => h) ?_; clear S a; intro a S
    refine d_store (i := 13) #[true, true, true, true, true, true, true, true, true, true, true, true, true, true, true, true, false, false, true, true, false, false, true, true, false, false, true, true, false, false] S H rfl rfl rfl rfl (Upd.cast (dg_set_a (s := s) (x := x) (nx := nx) (ln := ln) h.a) (.there .here)) (by rw [show (dg s x nx ln).toArray.size = 71 from dg_len hx]; decide) (fun w u hc hz => st1 sz105 rfl hc hz) (wanted_none rfl) rfl (by kernel_rfl) rfl ?_; clear S a H; intro w a H S
    refine d_pure (i := 16) #[true, true, true, true, true, true, true, true, true, true, true, true, true, true, true, true, true, false, true, true, false, false, true, true, false, false, true, true, false, false] S rfl (p_indexAddr rfl rfl (fun w => ia_array Tryz.underlying106 sz105 (by decide) (by decide))) (wanted_none rfl) rfl rfl (by kernel_rfl) (fun _ _ _ h => h) ?_; clear S a; intro a S
    refine d_store (i := 17) #[true, true, true, true, true, true, true, true, true, true, true, true, true, true, true, true, true, true, true, true, false, false, true, true, false, false, true, true, false, false] S H rfl rfl rfl rfl (Upd.cast (dg_set_b (s := (⟨h.a, (s).b, (s).c, (s).d, (s).e⟩ : St)) (x := x) (nx := nx) (ln := ln) h.b) (.there .here)) (by rw [show (dg (⟨h.a, (s).b, (s).c, (s).d, (s).e⟩ : St) x nx ln).toArray.size = 71 from dg_len hx]; decide) (fun w u hc hz => st1 sz105 rfl hc hz) (wanted_none rfl) rfl (by kernel_rfl) rfl ?_; clear S a H; intro w a H S
    refine d_pure (i := 20) #[true, true, true, true, true, true, true, true, true, true, true, true, true, true, true, true, true, true, true, true, true, false, true, true, false, false, true, true, false, false] S rfl (p_indexAddr rfl rfl (fun w => ia_array Tryz.underlying106 sz105 (by decide) (by decide))) (wanted_none rfl) rfl rfl (by kernel_rfl) (fun _ _ _ h => h) ?_; clear S a; intro a S
    refine d_store (i := 21) #[true, true, true, true, true, true, true, true, true, true, true, true, true, true, true, true, true, true, true, true, true, true, true, true, false, false, true, true, false, false] S H rfl rfl rfl rfl (Upd.cast (dg_set_c (s := (⟨h.a, h.b, (s).c, (s).d, (s).e⟩ : St)) (x := x) (nx := nx) (ln := ln) h.c) (.there .here)) (by rw [show (dg (⟨h.a, h.b, (s).c, (s).d, (s).e⟩ : St) x nx ln).toArray.size = 71 from dg_len hx]; decide) (fun w u hc hz => st1 sz105 rfl hc hz) (wanted_none rfl) rfl (by kernel_rfl) rfl ?_; clear S a H; intro w a H S
    refine d_pure (i := 24) #[true, true, true, true, true, true, true, true, true, true, true, true, true, true, true, true, true, true, true, true, true, true, true, true, true, false, true, true, false, false] S rfl (p_indexAddr rfl rfl (fun w => ia_array Tryz.underlying106 sz105 (by decide) (by decide))) (wanted_none rfl) rfl rfl (by kernel_rfl) (fun _ _ _ h => h) ?_; clear S a; intro a S
    refine d_store (i := 25) #[true, true, true, true, true, true, true, true, true, true, true, true, true, true, true, true, true, true, true, true, true, true, true, true, true, true, true, true, false, false] S H rfl rfl rfl rfl (Upd.cast (dg_set_d (s := (⟨h.a, h.b, h.c, (s).d, (s).e⟩ : St)) (x := x) (nx := nx) (ln := ln) h.d) (.there .here)) (by rw [show (dg (⟨h.a, h.b, h.c, (s).d, (s).e⟩ : St) x nx ln).toArray.size = 71 from dg_len hx]; decide) (fun w u hc hz => st1 sz105 rfl hc hz) (wanted_none rfl) rfl (by kernel_rfl) rfl ?_; clear S a H; intro w a H S
    refine d_pure (i := 28) #[true, true, true, true, true, true, true, true, true, true, true, true, true, true, true, true, true, true, true, true, true, true, true, true, true, true, true, true, true, false] S rfl (p_indexAddr rfl rfl (fun w => ia_array Tryz.underlying106 sz105 (by decide) (by decide))) (wanted_none rfl) rfl rfl (by kernel_rfl) (fun _ _ _ h => h) ?_; clear S a; intro a S
    refine d_store (i := 29) #[true, true, true, true, true, true, true, true, true, true, true, true, true, true, true, true, true, true, true, true, true, true, true, true, true, true, true, true, true, true] S H rfl rfl rfl rfl (Upd.cast (dg_set_e (s := (⟨h.a, h.b, h.c, h.d, (s).e⟩ : St)) (x := x) (nx := nx) (ln := ln) h.e) (.there .here)) (by rw [show (dg (⟨h.a, h.b, h.c, h.d, (s).e⟩ : St) x nx ln).toArray.size = 71 from dg_len hx]; decide) (fun w u hc hz => st1 sz105 rfl hc hz) (wanted_none rfl) rfl (by kernel_rfl) rfl ?_; clear S a H; intro w a H S
    refine d_done (by kernel_rfl) ?_
    subst hend
    exact r_end0 S rfl ⟨rfl, H.tail⟩
end im
end Go.Proofs.YtnmelglnkefjfaaGreatDoor.sha
