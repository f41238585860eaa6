/- Values of a line: the small functions. -/
import Derived.Test.YtmdfmdnjjklliaaDoorProg
import Derived.Test.YtmdfmdnjjklliaaDoorVp
import Derived.Test.YtmdfmdnjjklliaaDoorU8
import Derived.Test.YtmdfmdnjjklliaaDoorSv
import Derived.Test.YtmdfmdnjjklliaaDoorDf
namespace Go.Proofs.YtmdfmdnjjklliaaDoor.ve
open Go.RowKit Go.Proofs.HHW Go.Proofs.YtmdfmdnjjklliaaDoorW.PrintWords
set_option linter.unusedVariables false
set_option linter.unusedSimpArgs false
namespace sm
theorem ag22 : aggB Tryd.prog 22 = some false := by kernel_rfl
theorem ag34 : aggB Tryd.prog 34 = some false := by kernel_rfl
theorem ag36 : aggB Tryd.prog 36 = some true := by kernel_rfl
theorem fa36_0 (w : World) (g o : Nat) : (Instr.fieldAt 36 (.pointer (some ⟨g, o, none⟩)) 0).run Tryd.prog w = .ok (.pointer (some ⟨g, o + 0, none⟩)) w := by kernel_rfl
theorem fa36_2 (w : World) (g o : Nat) : (Instr.fieldAt 36 (.pointer (some ⟨g, o, none⟩)) 2).run Tryd.prog w = .ok (.pointer (some ⟨g, o + 2, none⟩)) w := by kernel_rfl
theorem sz36 : szB Tryd.prog 36 = some 3 := by kernel_rfl
theorem zv36 : zvB Tryd.prog 36 = some (.agg #[.int .u64 0, .slice none 0 0, .int .u8 0]) := by kernel_rfl
theorem bld36_  : Tryd.prog.built 36 [] = some #[.int .u64 0, .slice none 0 0, .int .u8 0] := by kernel_rfl
theorem bld36_0_2 (x0_0 : Int) (x1_0 : Int) : Tryd.prog.built 36 [(0, (.int .u64 x0_0)), (2, (.int .u8 x1_0))] = some #[.int .u64 x0_0, .slice none 0 0, .int .u8 x1_0] := by kernel_rfl
theorem bld36_1 (x0_0A : Option Addr) (x0_0n x0_0c : Nat) : Tryd.prog.built 36 [(1, (.slice x0_0A x0_0n x0_0c))] = some #[.int .u64 0, .slice x0_0A x0_0n x0_0c, .int .u8 0] := by kernel_rfl
theorem bits_run (b : Nat) (w : World) : (callFunc 24 #[.float .f64 b]).run Tryd.prog w = .ok (.value (.int .u64 (b : Int))) w := by kernel_rfl
theorem from_run (b : Int) (w : World) : (callFunc 26 #[.int .u64 b]).run Tryd.prog w = .ok (.value (.float .f64 b.toNat)) w := by kernel_rfl
theorem abs_bits {f : Nat} (hf : f < 18446744073709551616) : IntKind.u64.wrap (BitVec.ofInt IntKind.u64.bits (f : Int) &&& ~~~ BitVec.ofInt IntKind.u64.bits 9223372036854775808).toNat = ((fl.rung f : Nat) : Int) := by
  have h1 : (BitVec.ofInt 64 (f : Int) : BitVec 64) = BitVec.ofNat 64 f := BitVec.ofInt_natCast 64 f
  have h2 : (~~~ BitVec.ofInt 64 9223372036854775808 : BitVec 64) = BitVec.ofNat 64 9223372036854775807 := by decide
  show IntKind.u64.wrap (((BitVec.ofInt 64 (f : Int)) &&& (~~~ BitVec.ofInt 64 9223372036854775808)).toNat : Int) = _
  rw [h1, h2]
  have h3 : (BitVec.ofNat 64 f &&& BitVec.ofNat 64 9223372036854775807 : BitVec 64).toNat = f % 9223372036854775808 := by
    rw [BitVec.toNat_and, BitVec.toNat_ofNat, BitVec.toNat_ofNat, Nat.mod_eq_of_lt (by omega)]
    exact Nat.and_two_pow_sub_one_eq_mod f 63
  rw [h3, IntKind.wrap_u64]
  unfold fl.rung
  omega
theorem int_ (wb w0 : World) (B : Nat) (L0 : List (Nat × Obj)) (n : Int) (H : HH B wb w0 L0) : Calls Tryd.prog 14 #[.int .i64 n] w0 fun e w' => e = .returned (.agg #[.int .u64 (IntKind.u64.wrap n), .slice none 0 0, .int .u8 2]) ∧ HH B wb w' L0 := by
  refine c_enter (args := [.int .i64 n]) (k := 5) Tryd.func14 rfl rfl rfl (fun a S => ?_)
  refine wp_seq ?_
  refine c_region ?_
  refine l_alloc (cs := #[.int .u64 0, .slice none 0 0, .int .u8 0]) S H rfl (fun w => al zv36) rfl rfl rfl ?_; clear S a H; intro g1 w a H S
  refine l_nil ?_
  refine e_then ?_
  refine wp_seq ?_
  refine c_region ?_
  refine l_pure S (p_move rfl) rfl rfl rfl ?_; clear S a; intro a S
  refine l_pure S (p_conv rfl (fun w => cv_int (Tryd.underlying2) (Tryd.underlying22) rfl)) rfl rfl rfl ?_; clear S a; intro a S
  refine l_pure S (p_bld (ps := [(0, .tmp 4), (2, .const (.int .u8 2))]) rfl (bld36_0_2 _ _)) rfl rfl rfl ?_; clear S a; intro a S
  refine l_storeAll (vs := [.int .u64 (IntKind.u64.wrap n), .slice none 0 0, .int .u8 2]) S H rfl rfl rfl sz36 .here rfl (fun v hv => by simp only [List.mem_cons, List.not_mem_nil, or_false] at hv; rcases hv with rfl | rfl | rfl <;> rfl) rfl rfl ?_; clear S a H; intro w a H S
  refine l_nil ?_
  refine e_then ?_
  refine wp_ret ?_
  exact r_retc1 S rfl rfl (lva (cs := [.int .u64 (IntKind.u64.wrap n), .slice none 0 0, .int .u8 2]) ag36 sz36 rfl H List.mem_cons_self) ⟨rfl, H.tail⟩
theorem uint_ (wb w0 : World) (B : Nat) (L0 : List (Nat × Obj)) (n : Int) (H : HH B wb w0 L0) : Calls Tryd.prog 15 #[.int .u64 n] w0 fun e w' => e = .returned (.agg #[.int .u64 n, .slice none 0 0, .int .u8 3]) ∧ HH B wb w' L0 := by
  refine c_enter (args := [.int .u64 n]) (k := 4) Tryd.func15 rfl rfl rfl (fun a S => ?_)
  refine wp_seq ?_
  refine c_region ?_
  refine l_alloc (cs := #[.int .u64 0, .slice none 0 0, .int .u8 0]) S H rfl (fun w => al zv36) rfl rfl rfl ?_; clear S a H; intro g1 w a H S
  refine l_nil ?_
  refine e_then ?_
  refine wp_seq ?_
  refine c_region ?_
  refine l_pure S (p_move rfl) rfl rfl rfl ?_; clear S a; intro a S
  refine l_pure S (p_bld (ps := [(0, .tmp 3), (2, .const (.int .u8 3))]) rfl (bld36_0_2 _ _)) rfl rfl rfl ?_; clear S a; intro a S
  refine l_storeAll (vs := [.int .u64 n, .slice none 0 0, .int .u8 3]) S H rfl rfl rfl sz36 .here rfl (fun v hv => by simp only [List.mem_cons, List.not_mem_nil, or_false] at hv; rcases hv with rfl | rfl | rfl <;> rfl) rfl rfl ?_; clear S a H; intro w a H S
  refine l_nil ?_
  refine e_then ?_
  refine wp_ret ?_
  exact r_retc1 S rfl rfl (lva (cs := [.int .u64 n, .slice none 0 0, .int .u8 3]) ag36 sz36 rfl H List.mem_cons_self) ⟨rfl, H.tail⟩
theorem bool_ (wb w0 : World) (B : Nat) (L0 : List (Nat × Obj)) (b : Bool) (H : HH B wb w0 L0) : Calls Tryd.prog 17 #[.bool b] w0 fun e w' => e = .returned (.agg #[.int .u64 (if b = true then 1 else 0), .slice none 0 0, .int .u8 5]) ∧ HH B wb w' L0 := by
  refine c_enter (args := [.bool b]) (k := 6) Tryd.func17 rfl rfl rfl (fun a S => ?_)
  refine wp_seq ?_
  refine c_region ?_
  refine l_alloc (cs := #[.int .u64 0, .slice none 0 0, .int .u8 0]) S H rfl (fun w => al zv36) rfl rfl rfl ?_; clear S a H; intro g1 w a H S
  refine l_nil ?_
  refine e_then ?_
  refine wp_seq ?_
  refine c_region ?_
  refine l_pure S (p_assign rfl) rfl rfl rfl ?_; clear S a; intro a S
  refine l_nil ?_
  refine e_then ?_
  refine c_cut (fun a w => ∃ v : Int, SL a 7 [] [(2, .pointer (some ⟨g1, 0, none⟩)), (3, .int .u64 v)] ∧ HH (B) wb w ((g1, .cells #[.int .u64 0, .slice none 0 0, .int .u8 0] 36 (0, 0)) :: L0) ∧ v = (if b = true then 1 else 0)) ?_ ?_
  · clear S a H; rintro a w ⟨v, S, H, hinv⟩
    subst hinv
    refine wp_seq ?_
    refine c_region ?_
    refine l_pure S (p_move rfl) rfl rfl rfl ?_; clear S a; intro a S
    refine l_pure S (p_bld (ps := [(0, .tmp 5), (2, .const (.int .u8 5))]) rfl (bld36_0_2 _ _)) rfl rfl rfl ?_; clear S a; intro a S
    refine l_storeAll (vs := [.int .u64 (if b = true then 1 else 0), .slice none 0 0, .int .u8 5]) S H rfl rfl rfl sz36 .here rfl (fun v hv => by simp only [List.mem_cons, List.not_mem_nil, or_false] at hv; rcases hv with rfl | rfl | rfl <;> rfl) rfl rfl ?_; clear S a H; intro w a H S
    refine l_nil ?_
    refine e_then ?_
    refine wp_ret ?_
    exact r_retc1 S rfl rfl (lva (cs := [.int .u64 (if b = true then 1 else 0), .slice none 0 0, .int .u8 5]) ag36 sz36 rfl H List.mem_cons_self) ⟨rfl, H.tail⟩
  · skip
    refine wp_seq ?_
    refine c_region ?_
    refine l_pure S (p_move rfl) rfl rfl rfl ?_; clear S a; intro a S
    refine l_nil ?_
    refine e_then ?_
    refine c_cond S rfl (fun c3 => ?_) (fun c3 => ?_)
    · skip
      refine c_region ?_
      refine l_pure S (p_assign rfl) rfl rfl rfl ?_; clear S a; intro a S
      refine l_nil ?_
      refine e_then ?_
      exact ⟨1, S.only ⟨rfl, rfl, trivial⟩, H, (by simp [*])⟩
    · skip
      refine wp_skip ?_
      refine e_then ?_
      exact ⟨0, S.only ⟨rfl, rfl, trivial⟩, H, (by simp [*])⟩
theorem kind_ (wb w0 : World) (B : Nat) (L0 : List (Nat × Obj)) (N : Int) (A : Option Addr) (l : List Int) (c : Nat) (K : Int) (H : HH B wb w0 L0) : Calls Tryd.prog 18 #[.agg #[.int .u64 N, .slice A l.length c, .int .u8 K]] w0 fun e w' => e = .returned (.int .u8 (vp.kd K)) ∧ HH B wb w' L0 := by
  refine c_enter (args := [.agg #[.int .u64 N, .slice A l.length c, .int .u8 K]]) (k := 7) Tryd.func18 rfl rfl rfl (fun a S => ?_)
  refine wp_seq ?_
  refine c_region ?_
  refine l_box (cs := #[.int .u64 N, .slice A l.length c, .int .u8 K]) S H rfl rfl (fun w => bx) rfl rfl rfl ?_; clear S a H; intro g1 w a H S
  refine l_pure S (p_assign rfl) rfl rfl rfl ?_; clear S a; intro a S
  refine l_nil ?_
  refine e_then ?_
  refine wp_seq ?_
  refine wp_seq ?_
  refine c_region ?_
  refine l_pure S (p_fieldAddr rfl (fun w => fa36_2 w _ _)) rfl rfl rfl ?_; clear S a; intro a S
  refine l_read S H (r_load rfl List.mem_cons_self rfl (fun w hc => ld1 ag34 hc)) rfl rfl rfl ?_; clear S a; intro a S
  refine l_pure S (p_eql rfl rfl) rfl rfl rfl ?_; clear S a; intro a S
  refine l_nil ?_
  refine e_then ?_
  refine c_cond S rfl (fun c3 => ?_) (fun c3 => ?_)
  · skip
    have c3 := eq_of_beq c3
    refine wp_seq ?_
    refine c_region ?_
    refine l_pure S (p_assign rfl) rfl rfl rfl ?_; clear S a; intro a S
    refine l_nil ?_
    refine e_then ?_
    refine wp_ret ?_
    refine e_then_ret ?_
    exact r_ret1 S rfl rfl ⟨by unfold vp.kd; simp [*], H.tail⟩
  · skip
    have c3 := ne_of_beq_false c3
    refine wp_skip ?_
    refine e_then ?_
    refine wp_seq ?_
    refine c_region ?_
    refine l_pure S (p_fieldAddr rfl (fun w => fa36_2 w _ _)) rfl rfl rfl ?_; clear S a; intro a S
    refine l_read S H (r_load rfl List.mem_cons_self rfl (fun w hc => ld1 ag34 hc)) rfl rfl rfl ?_; clear S a; intro a S
    refine l_pure S (p_assign rfl) rfl rfl rfl ?_; clear S a; intro a S
    refine l_nil ?_
    refine e_then ?_
    refine wp_ret ?_
    exact r_ret1 S rfl rfl ⟨by unfold vp.kd; simp [*], H.tail⟩
theorem kind4_ (wb w0 : World) (B : Nat) (L0 : List (Nat × Obj)) (N : Int) (A : Option Addr) (n c : Nat) (H : HH B wb w0 L0) : Calls Tryd.prog 18 #[.agg #[.int .u64 N, .slice A n c, .int .u8 4]] w0 fun e w' => e = .returned (.int .u8 4) ∧ HH B wb w' L0 := by
  refine c_enter (args := [.agg #[.int .u64 N, .slice A n c, .int .u8 4]]) (k := 7) Tryd.func18 rfl rfl rfl (fun a S => ?_)
  refine wp_seq ?_
  refine c_region ?_
  refine l_box (cs := #[.int .u64 N, .slice A n c, .int .u8 4]) S H rfl rfl (fun w => bx) rfl rfl rfl ?_; clear S a H; intro g1 w a H S
  refine l_pure S (p_assign rfl) rfl rfl rfl ?_; clear S a; intro a S
  refine l_nil ?_
  refine e_then ?_
  refine wp_seq ?_
  refine wp_seq ?_
  refine c_region ?_
  refine l_pure S (p_fieldAddr rfl (fun w => fa36_2 w _ _)) rfl rfl rfl ?_; clear S a; intro a S
  refine l_read S H (r_load rfl List.mem_cons_self rfl (fun w hc => ld1 ag34 hc)) rfl rfl rfl ?_; clear S a; intro a S
  refine l_pure S (p_eql rfl rfl) rfl rfl rfl ?_; clear S a; intro a S
  refine l_nil ?_
  refine e_then ?_
  refine c_cond (b := false) S rfl (fun h => by cases h) (fun _ => ?_)
  refine wp_skip ?_
  refine e_then ?_
  refine wp_seq ?_
  refine c_region ?_
  refine l_pure S (p_fieldAddr rfl (fun w => fa36_2 w _ _)) rfl rfl rfl ?_; clear S a; intro a S
  refine l_read S H (r_load rfl List.mem_cons_self rfl (fun w hc => ld1 ag34 hc)) rfl rfl rfl ?_; clear S a; intro a S
  refine l_pure S (p_assign rfl) rfl rfl rfl ?_; clear S a; intro a S
  refine l_nil ?_
  refine e_then ?_
  refine wp_ret ?_
  exact r_ret1 S rfl rfl ⟨rfl, H.tail⟩
theorem must_ (wb w0 : World) (B : Nat) (L0 : List (Nat × Obj)) (N : Int) (A : Option Addr) (n c : Nat) (H : HH B wb w0 L0) : Calls Tryd.prog 25 #[.agg #[.int .u64 N, .slice A n c, .int .u8 4], .int .u8 4] w0 fun e w' => e = .returned (.tuple #[]) ∧ HH B wb w' L0 := by
  refine c_enter (args := [.agg #[.int .u64 N, .slice A n c, .int .u8 4], .int .u8 4]) (k := 7) Tryd.func25 rfl rfl rfl (fun a S => ?_)
  refine wp_seq ?_
  refine c_region ?_
  refine l_box (cs := #[.int .u64 N, .slice A n c, .int .u8 4]) S H rfl rfl (fun w => bx) rfl rfl rfl ?_; clear S a H; intro g1 w a H S
  refine l_nil ?_
  refine e_then ?_
  refine wp_seq ?_
  refine c_region ?_
  refine l_read S H (r_loadn (m := 3) (vs := [.int .u64 N, .slice A n c, .int .u8 4]) rfl List.mem_cons_self ag36 sz36 rfl rfl) rfl rfl rfl ?_; clear S a; intro a S
  refine l_call S rfl rfl Tryd.func18 rfl rfl (kind4_ wb _ _ _ N A n c H) rfl rfl rfl ?_
  rintro e w ⟨rfl, hH⟩
  refine ⟨_, rfl, ?_⟩; clear S a; intro a S
  clear H; have H := hH; clear hH
  refine l_pure S (p_move rfl) rfl rfl rfl ?_; clear S a; intro a S
  refine l_pure S (p_neq rfl rfl) rfl rfl rfl ?_; clear S a; intro a S
  refine l_nil ?_
  refine e_then ?_
  refine c_cond (b := false) S rfl (fun h => by cases h) (fun _ => ?_)
  refine wp_skip ?_
  exact r_end0 S rfl ⟨rfl, H.tail⟩
theorem floatv_ (wb w0 : World) (B : Nat) (L0 : List (Nat × Obj)) (N : Int) (A : Option Addr) (n c : Nat) (H : HH B wb w0 L0) : Calls Tryd.prog 20 #[.agg #[.int .u64 N, .slice A n c, .int .u8 4]] w0 fun e w' => e = .returned (.float .f64 N.toNat) ∧ HH B wb w' L0 := by
  refine c_enter (args := [.agg #[.int .u64 N, .slice A n c, .int .u8 4]]) (k := 7) Tryd.func20 rfl rfl rfl (fun a S => ?_)
  refine wp_seq ?_
  refine c_region ?_
  refine l_box (cs := #[.int .u64 N, .slice A n c, .int .u8 4]) S H rfl rfl (fun w => bx) rfl rfl rfl ?_; clear S a H; intro g1 w a H S
  refine l_pure S (p_assign rfl) rfl rfl rfl ?_; clear S a; intro a S
  refine l_nil ?_
  refine e_then ?_
  refine wp_seq ?_
  refine c_region ?_
  refine l_read S H (r_loadn (m := 3) (vs := [.int .u64 N, .slice A n c, .int .u8 4]) rfl List.mem_cons_self ag36 sz36 rfl rfl) rfl rfl rfl ?_; clear S a; intro a S
  refine l_call S rfl rfl Tryd.func25 rfl rfl (must_ wb _ _ _ N A n c H) rfl rfl rfl ?_
  rintro e w ⟨rfl, hH⟩
  refine ⟨_, rfl, ?_⟩; clear S a; intro a S
  clear H; have H := hH; clear hH
  refine l_nil ?_
  refine e_then ?_
  refine wp_seq ?_
  refine c_region ?_
  refine l_pure S (p_fieldAddr rfl (fun w => fa36_0 w _ _)) rfl rfl rfl ?_; clear S a; intro a S
  refine l_read S H (r_load rfl List.mem_cons_self rfl (fun w hc => ld1 ag22 hc)) rfl rfl rfl ?_; clear S a; intro a S
  refine l_pure S (p_ext rfl (fun w => from_run _ w)) rfl rfl rfl ?_; clear S a; intro a S
  refine l_pure S (p_assign rfl) rfl rfl rfl ?_; clear S a; intro a S
  refine l_nil ?_
  refine e_then ?_
  refine wp_ret ?_
  exact r_ret1 S rfl rfl ⟨rfl, H.tail⟩
theorem beq_ (wb w0 : World) (L0 : List (Nat × Obj)) (A1 : Option Addr) (l1 : List Int) (c1 : Nat) (A2 : Option Addr) (l2 : List Int) (c2 : Nat) (H : HH wb.heap.size wb w0 L0) (hC1 : (Kd.int .u8).C wb A1 l1.length l1) (hC2 : (Kd.int .u8).C wb A2 l2.length l2) : Calls Tryd.prog 19 #[.slice A1 l1.length c1, .slice A2 l2.length c2] w0 fun e w' => e = .returned (.bool ((strOfNums l1).toList == (strOfNums l2).toList)) ∧ HH wb.heap.size wb w' L0 := by
  refine c_enter (args := [.slice A1 l1.length c1, .slice A2 l2.length c2]) (k := 8) Tryd.func19 rfl rfl rfl (fun a S => ?_)
  refine wp_seq ?_
  refine c_region ?_
  refine l_pure S (p_assign rfl) rfl rfl rfl ?_; clear S a; intro a S
  refine l_nil ?_
  refine e_then ?_
  refine wp_seq ?_
  refine c_region ?_
  refine l_pure S (p_move rfl) rfl rfl rfl ?_; clear S a; intro a S
  refine l_str S rfl rfl Tryd.underlying33 Tryd.underlying5 Tryd.underlying9 (C_old hC1 H) rfl rfl rfl ?_; clear S a; intro a S
  refine l_pure S (p_move rfl) rfl rfl rfl ?_; clear S a; intro a S
  refine l_str S rfl rfl Tryd.underlying33 Tryd.underlying5 Tryd.underlying9 (C_old hC2 H) rfl rfl rfl ?_; clear S a; intro a S
  refine l_pure S (p_seql rfl rfl) rfl rfl rfl ?_; clear S a; intro a S
  refine l_pure S (p_assign rfl) rfl rfl rfl ?_; clear S a; intro a S
  refine l_nil ?_
  refine e_then ?_
  refine wp_ret ?_
  exact r_ret1 S rfl rfl ⟨rfl, H⟩
theorem abs_ (wb w0 : World) (B : Nat) (L0 : List (Nat × Obj)) (f : Nat) (hf : f < 18446744073709551616) (H : HH B wb w0 L0) : Calls Tryd.prog 28 #[.float .f64 f] w0 fun e w' => e = .returned (.float .f64 (fl.rung f)) ∧ HH B wb w' L0 := by
  refine c_enter (args := [.float .f64 f]) (k := 6) Tryd.func28 rfl rfl rfl (fun a S => ?_)
  refine wp_seq ?_
  refine c_region ?_
  refine l_pure S (p_assign rfl) rfl rfl rfl ?_; clear S a; intro a S
  refine l_nil ?_
  refine e_then ?_
  refine wp_seq ?_
  refine c_region ?_
  refine l_pure S (p_move rfl) rfl rfl rfl ?_; clear S a; intro a S
  refine l_pure S (p_ext rfl (fun w => bits_run _ w)) rfl rfl rfl ?_; clear S a; intro a S
  refine l_pure S (p_andnot rfl rfl (abs_bits hf)) rfl rfl rfl ?_; clear S a; intro a S
  refine l_pure S (p_ext rfl (fun w => from_run _ w)) rfl rfl rfl ?_; clear S a; intro a S
  refine l_pure S (p_assign rfl) rfl rfl rfl ?_; clear S a; intro a S
  refine l_nil ?_
  refine e_then ?_
  refine wp_ret ?_
  exact r_ret1 S rfl rfl ⟨rfl, H⟩
theorem inf_ (wb w0 : World) (B : Nat) (L0 : List (Nat × Obj)) (f : Nat) (hf : f < 18446744073709551616) (H : HH B wb w0 L0) : Calls Tryd.prog 22 #[.float .f64 f, .int .i64 0] w0 fun e w' => e = .returned (.bool (decide (fl.rung f = 9218868437227405312))) ∧ HH B wb w' L0 := by
  refine c_enter (args := [.float .f64 f, .int .i64 0]) (k := 13) Tryd.func22 rfl rfl rfl (fun a S => ?_)
  refine wp_seq ?_
  refine c_region ?_
  refine l_pure S (p_assign rfl) rfl rfl rfl ?_; clear S a; intro a S
  refine l_nil ?_
  refine e_then ?_
  refine wp_seq ?_
  refine wp_seq ?_
  refine c_region ?_
  refine l_pure S (p_move rfl) rfl rfl rfl ?_; clear S a; intro a S
  refine l_pure S (p_eql rfl rfl) rfl rfl rfl ?_; clear S a; intro a S
  refine l_nil ?_
  refine e_then ?_
  refine c_cond (b := true) S rfl (fun _ => ?_) (fun h => by cases h)
  refine c_region ?_
  refine l_pure S (p_move rfl) rfl rfl rfl ?_; clear S a; intro a S
  refine l_call S rfl rfl Tryd.func28 rfl rfl (abs_ wb _ _ _ f hf H) rfl rfl rfl ?_
  rintro e w ⟨rfl, hH⟩
  refine ⟨_, rfl, ?_⟩; clear S a; intro a S
  clear H; have H := hH; clear hH
  refine l_pure S (p_assign rfl) rfl rfl rfl ?_; clear S a; intro a S
  refine l_nil ?_
  refine e_then ?_
  refine wp_seq ?_
  refine c_region ?_
  refine l_pure S (p_move rfl) rfl rfl rfl ?_; clear S a; intro a S
  refine l_pure S (p_fgtr rfl rfl) rfl rfl rfl ?_; clear S a; intro a S
  refine l_pure S (p_assign rfl) rfl rfl rfl ?_; clear S a; intro a S
  refine l_nil ?_
  refine e_then ?_
  refine wp_ret ?_
  exact r_ret1 S rfl rfl ⟨by rw [← fl.above], H⟩
theorem nan_ (wb w0 : World) (B : Nat) (L0 : List (Nat × Obj)) (f : Nat) (H : HH B wb w0 L0) : Calls Tryd.prog 23 #[.float .f64 f] w0 fun e w' => e = .returned (.bool (!fl.eq f f)) ∧ HH B wb w' L0 := by
  refine c_enter (args := [.float .f64 f]) (k := 5) Tryd.func23 rfl rfl rfl (fun a S => ?_)
  refine wp_seq ?_
  refine c_region ?_
  refine l_pure S (p_assign rfl) rfl rfl rfl ?_; clear S a; intro a S
  refine l_nil ?_
  refine e_then ?_
  refine wp_seq ?_
  refine c_region ?_
  refine l_pure S (p_move rfl) rfl rfl rfl ?_; clear S a; intro a S
  refine l_pure S (p_move rfl) rfl rfl rfl ?_; clear S a; intro a S
  refine l_pure S (p_fneq rfl rfl) rfl rfl rfl ?_; clear S a; intro a S
  refine l_pure S (p_assign rfl) rfl rfl rfl ?_; clear S a; intro a S
  refine l_nil ?_
  refine e_then ?_
  refine wp_ret ?_
  exact r_ret1 S rfl rfl ⟨rfl, H⟩
theorem float_ (wb w0 : World) (B : Nat) (L0 : List (Nat × Obj)) (f : Nat) (hf : f < 18446744073709551616) (H : HH B wb w0 L0) : Calls Tryd.prog 16 #[.float .f64 f] w0 fun e w' => (fl.fin f = true ∧ e = .returned (.tuple #[.agg #[.int .u64 (f : Int), .slice none 0 0, .int .u8 4], .bool true]) ∧ HH B wb w' L0) ∨ (fl.fin f = false ∧ e = .returned (.tuple #[.agg #[.int .u64 0, .slice none 0 0, .int .u8 0], .bool false]) ∧ HH B wb w' L0) := by
  refine c_enter (args := [.float .f64 f]) (k := 13) Tryd.func16 rfl rfl rfl (fun a S => ?_)
  refine wp_seq ?_
  refine c_region ?_
  refine l_alloc (cs := #[.int .u64 0, .slice none 0 0, .int .u8 0]) S H rfl (fun w => al zv36) rfl rfl rfl ?_; clear S a H; intro g1 w a H S
  refine l_pure S (p_assign rfl) rfl rfl rfl ?_; clear S a; intro a S
  refine l_nil ?_
  refine e_then ?_
  refine wp_seq ?_
  refine wp_seq ?_
  refine c_region ?_
  refine l_pure S (p_move rfl) rfl rfl rfl ?_; clear S a; intro a S
  refine l_call S rfl rfl Tryd.func22 rfl rfl (inf_ wb _ _ _ f hf H) rfl rfl rfl ?_
  rintro e w ⟨rfl, hH⟩
  refine ⟨_, rfl, ?_⟩; clear S a; intro a S
  clear H; have H := hH; clear hH
  refine l_pure S (p_move rfl) rfl rfl rfl ?_; clear S a; intro a S
  refine l_split (S.of 6 rfl) (fun bc4 => ?_) (fun bc4 => ?_)
  · skip
    refine l_off S rfl rfl rfl rfl bc4 rfl rfl ?_; clear S a; intro a S
    refine l_off S rfl rfl rfl rfl bc4 rfl rfl ?_; clear S a; intro a S
    refine l_pure S (p_pick_t rfl bc4 rfl) rfl rfl rfl ?_; clear S a; intro a S
    refine l_nil ?_
    refine e_then ?_
    refine c_cond (b := true) S rfl (fun _ => ?_) (fun h => by cases h)
    refine wp_seq ?_
    refine c_region ?_
    refine l_pure S (p_bld (ps := []) rfl (bld36_)) rfl rfl rfl ?_; clear S a; intro a S
    refine l_storeAll (vs := [.int .u64 0, .slice none 0 0, .int .u8 0]) S H rfl rfl rfl sz36 .here rfl (fun v hv => by simp only [List.mem_cons, List.not_mem_nil, or_false] at hv; rcases hv with rfl | rfl | rfl <;> rfl) rfl rfl ?_; clear S a H; intro w a H S
    refine l_pure S (p_assign rfl) rfl rfl rfl ?_; clear S a; intro a S
    refine l_nil ?_
    refine e_then ?_
    refine wp_ret ?_
    refine e_then_ret ?_
    have hfin : fl.fin f = false := by
      rw [fl.fin_iff]
      have hs := fl.self f
      simp_all
      try omega
    exact r_retct S rfl rfl rfl (lva (cs := [.int .u64 0, .slice none 0 0, .int .u8 0]) ag36 sz36 rfl H List.mem_cons_self) (.inr ⟨hfin, rfl, H.tail⟩)
  · skip
    refine l_on S rfl rfl rfl rfl bc4 ?_
    refine l_pure S (p_move rfl) rfl rfl rfl ?_; clear S a; intro a S
    refine l_on S rfl rfl rfl rfl bc4 ?_
    refine l_call S rfl rfl Tryd.func23 rfl rfl (nan_ wb _ _ _ f H) rfl rfl rfl ?_
    rintro e w ⟨rfl, hH⟩
    refine ⟨_, rfl, ?_⟩; clear S a; intro a S
    clear H; have H := hH; clear hH
    refine l_pure S (p_pick_f rfl bc4 rfl) rfl rfl rfl ?_; clear S a; intro a S
    refine l_nil ?_
    refine e_then ?_
    refine c_cond S rfl (fun c9 => ?_) (fun c9 => ?_)
    · skip
      refine wp_seq ?_
      refine c_region ?_
      refine l_pure S (p_bld (ps := []) rfl (bld36_)) rfl rfl rfl ?_; clear S a; intro a S
      refine l_storeAll (vs := [.int .u64 0, .slice none 0 0, .int .u8 0]) S H rfl rfl rfl sz36 .here rfl (fun v hv => by simp only [List.mem_cons, List.not_mem_nil, or_false] at hv; rcases hv with rfl | rfl | rfl <;> rfl) rfl rfl ?_; clear S a H; intro w a H S
      refine l_pure S (p_assign rfl) rfl rfl rfl ?_; clear S a; intro a S
      refine l_nil ?_
      refine e_then ?_
      refine wp_ret ?_
      refine e_then_ret ?_
      have hfin : fl.fin f = false := by
        rw [fl.fin_iff]
        have hs := fl.self f
        simp_all
        try omega
      exact r_retct S rfl rfl rfl (lva (cs := [.int .u64 0, .slice none 0 0, .int .u8 0]) ag36 sz36 rfl H List.mem_cons_self) (.inr ⟨hfin, rfl, H.tail⟩)
    · skip
      refine wp_skip ?_
      refine e_then ?_
      refine wp_seq ?_
      refine c_region ?_
      refine l_pure S (p_move rfl) rfl rfl rfl ?_; clear S a; intro a S
      refine l_pure S (p_ext rfl (fun w => bits_run _ w)) rfl rfl rfl ?_; clear S a; intro a S
      refine l_pure S (p_bld (ps := [(0, .tmp 12), (2, .const (.int .u8 4))]) rfl (bld36_0_2 _ _)) rfl rfl rfl ?_; clear S a; intro a S
      refine l_storeAll (vs := [.int .u64 (f : Int), .slice none 0 0, .int .u8 4]) S H rfl rfl rfl sz36 .here rfl (fun v hv => by simp only [List.mem_cons, List.not_mem_nil, or_false] at hv; rcases hv with rfl | rfl | rfl <;> rfl) rfl rfl ?_; clear S a H; intro w a H S
      refine l_pure S (p_assign rfl) rfl rfl rfl ?_; clear S a; intro a S
      refine l_nil ?_
      refine e_then ?_
      refine wp_ret ?_
      have hfin : fl.fin f = true := by
        rw [fl.fin_iff]
        have hs := fl.self f
        simp_all
        try omega
      exact r_retct S rfl rfl rfl (lva (cs := [.int .u64 (f : Int), .slice none 0 0, .int .u8 4]) ag36 sz36 rfl H List.mem_cons_self) (.inl ⟨hfin, rfl, H.tail⟩)
theorem str_ (wb w0 : World) (B : Nat) (L0 : List (Nat × Obj)) (s : ByteArray) (H : HH B wb w0 L0) (hs : s.size ≤ 2147483647) (hT : ∀ w (L : List (Nat × Obj)), HH B wb w L → Lib.Utf8Tabs (Tryd.laysValid_ren.g 3) (Tryd.laysValid_ren.g 4) w) : Calls Tryd.prog 13 #[.string s] w0 fun e w' => ∃ A c l ow, e = .returned (.tuple #[.agg #[.int .u64 0, .slice A l.length c, .int .u8 0], .bool (up.V s 0)]) ∧ OwnB 5 (.slice A l.length c) l ow ∧ (up.V s 0 = true → l = ints s) ∧ HH B wb w' (ow ++ L0) := by
  refine c_enter (args := [.string s]) (k := 10) Tryd.func13 rfl rfl rfl (fun a S => ?_)
  refine wp_seq ?_
  refine c_region ?_
  refine l_alloc (cs := #[.int .u64 0, .slice none 0 0, .int .u8 0]) S H rfl (fun w => al zv36) rfl rfl rfl ?_; clear S a H; intro g1 w a H S
  refine l_pure S (p_assign rfl) rfl rfl rfl ?_; clear S a; intro a S
  refine l_nil ?_
  refine e_then ?_
  refine wp_seq ?_
  refine wp_seq ?_
  refine c_region ?_
  refine l_pure S (p_move rfl) rfl rfl rfl ?_; clear S a; intro a S
  refine l_call S rfl rfl Tryd.func21 rfl rfl (u8.valid_ s _ (by omega) (hT _ _ H)) rfl rfl rfl ?_
  rintro e w ⟨rfl, hb⟩
  refine ⟨_, rfl, ?_⟩; clear S a; intro a S
  replace H := H.later hb; clear hb
  rw [← up.V0] at S
  refine l_pure S (p_not rfl) rfl rfl rfl ?_; clear S a; intro a S
  refine l_nil ?_
  refine e_then ?_
  refine c_cond S rfl (fun c5 => ?_) (fun c5 => ?_)
  · skip
    replace c5 := not_eq_true_ c5
    
    refine wp_seq ?_
    refine c_region ?_
    refine l_pure S (p_bld (ps := []) rfl (bld36_)) rfl rfl rfl ?_; clear S a; intro a S
    refine l_storeAll (vs := [.int .u64 0, .slice none 0 0, .int .u8 0]) S H rfl rfl rfl sz36 .here rfl (fun v hv => by simp only [List.mem_cons, List.not_mem_nil, or_false] at hv; rcases hv with rfl | rfl | rfl <;> rfl) rfl rfl ?_; clear S a H; intro w a H S
    refine l_pure S (p_assign rfl) rfl rfl rfl ?_; clear S a; intro a S
    refine l_nil ?_
    refine e_then ?_
    refine wp_ret ?_
    refine e_then_ret ?_
    exact r_retct S rfl rfl rfl (lva (cs := [.int .u64 0, .slice none 0 0, .int .u8 0]) ag36 sz36 rfl H List.mem_cons_self) ⟨none, 0, [], [], by rw [c5]; rfl, ownB_nil _, (fun h => by rw [c5] at h; cases h), H.tail⟩
  · skip
    replace c5 := not_eq_false_ c5
    
    refine wp_skip ?_
    refine e_then ?_
    refine wp_seq ?_
    refine c_region ?_
    refine l_pure S (p_move rfl) rfl rfl rfl ?_; clear S a; intro a S
    refine l_bytesOwn (s := s) S H rfl rfl Tryd.underlying9 Tryd.underlying33 Tryd.underlying5 rfl rfl rfl ?_; clear S a H; intro v_ ow7 w a how7 H S
    rw [← ints_len s] at how7
    obtain ⟨Aow7, cow7, rfl, _⟩ := how7.slice
    refine l_pure S (p_bld (ps := [(1, .tmp 9)]) rfl (bld36_1 _ _ _)) rfl rfl rfl ?_; clear S a; intro a S
    refine l_storeAll (vs := [.int .u64 0, .slice Aow7 (ints s).length cow7, .int .u8 0]) S H rfl rfl rfl sz36 (Rep.skip ow7 .here) rfl (fun v hv => by simp only [List.mem_cons, List.not_mem_nil, or_false] at hv; rcases hv with rfl | rfl | rfl <;> rfl) rfl rfl ?_; clear S a H; intro w a H S
    refine l_pure S (p_assign rfl) rfl rfl rfl ?_; clear S a; intro a S
    refine l_nil ?_
    refine e_then ?_
    refine wp_ret ?_
    have hV := c5
    exact r_retct S rfl rfl rfl (lva (cs := [.int .u64 0, .slice Aow7 (ints s).length cow7, .int .u8 0]) ag36 sz36 rfl H (List.mem_append_right _ List.mem_cons_self)) ⟨_, _, _, ow7, by rw [hV], how7, (fun _ => rfl), H.sub ((List.sublist_cons_self _ _).append_left _)⟩
end sm
end Go.Proofs.YtmdfmdnjjklliaaDoor.ve
