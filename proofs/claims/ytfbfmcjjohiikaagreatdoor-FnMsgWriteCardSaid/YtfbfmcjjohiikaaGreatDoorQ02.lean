/- the wire of a message -/
import Derived.Test.YtfbfmcjjohiikaaGreatDoorQ01
import Derived.Test.YtfbfmcjjohiikaaGreatDoorProg
import Derived.Ground.NamesProg
import Derived.WalkKit
import Derived.Below
import Derived.Shelf.Strconv.Itoa1
import Derived.Shelf.Strconv.Itoa2
import Derived.Shelf.Bytes.GrowSlice
set_option linter.unusedVariables false
set_option linter.unusedSimpArgs false
section
namespace Go.Proofs.YtfbfmcjjohiikaaGreatDoor.fz
open Go.Proofs.YtfbfmcjjohiikaaGreatDoor.fx
open Go.RowKit Go.Proofs.HHW Go.Proofs.YtfbfmcjjohiikaaGreatDoorW.PrintWords
namespace sh
theorem zv170 : zvB Tryz.prog 170 = some (.agg #[.int .u64 0, .int .u64 0, .int .i64 0]) := by kernel_rfl
set_option maxHeartbeats 1000000 in
theorem short_ (wb w0 : World) (B : Nat) (L0 : List (Nat × Obj)) (hT : fz.PTab 3 B wb) (m : BitVec 64) (e : Int) (he : -1137 ≤ e ∧ e ≤ 1000) (H : HH B wb w0 L0) : Calls Tryz.prog 56 #[.int .u64 (m.toNat : Int), .int .i64 e] w0 fun e' w' => e' = .returned (.tuple #[.int .u64 ((fz.short m e).1.toNat : Int), .int .i64 (fz.short m e).2]) ∧ HH B wb w' L0 := by
 refine c_enter (args := [.int .u64 (m.toNat : Int), .int .i64 e]) (k := 131) Tryz.func56 rfl rfl rfl (fun a S => ?_)
 refine wp_seq ?_
 refine c_region ?_
 refine l_mv 2 S rfl ?_; clear S a; intro a S
 refine l_nil ?_
 refine e_then ?_
 refine wp_seq ?_
 refine c_region ?_
 refine l_mv 2 S rfl ?_; clear S a; intro a S
 refine l_nil ?_
 refine e_then ?_
 refine wp_seq ?_
 refine wp_seq ?_
 refine c_region ?_
 refine l_pure S (p_mul (r := 64) rfl rfl (by decide)) rfl rfl rfl ?_; clear S a; intro a S
 refine l_nil ?_
 refine e_then ?_
 refine wp_block ?_
 refine wp_seq ?_
 refine c_region ?_
 refine l_pure S (p_eql rfl rfl) rfl rfl rfl ?_; clear S a; intro a S
 refine l_mv 1 S rfl ?_; clear S a; intro a S
 refine l_nil ?_
 refine e_then ?_
 refine c_cond (b := false) S rfl (fun h => by cases h) (fun _ => ?_)
 refine wp_seq ?_
 refine c_region ?_
 refine l_pure S (p_eql rfl rfl) rfl rfl rfl ?_; clear S a; intro a S
 refine l_mv 1 S rfl ?_; clear S a; intro a S
 refine l_nil ?_
 refine e_then ?_
 refine c_cond (b := true) S rfl (fun _ => ?_) (fun h => by cases h)
 refine wp_seq ?_
 refine c_region ?_
 refine l_mv 1 S rfl ?_; clear S a; intro a S
 refine l_nil ?_
 refine e_then ?_
 refine c_region ?_
 refine l_mv 1 S rfl ?_; clear S a; intro a S
 refine l_nil ?_
 refine e_in 0 ?_
 refine e_then ?_
 refine wp_seq ?_
 refine c_region ?_
 refine l_mv 2 S rfl ?_; clear S a; intro a S
 refine l_nil ?_
 refine e_then ?_
 refine wp_seq ?_
 refine c_region ?_
 refine l_mv 1 S rfl ?_; clear S a; intro a S
 refine l_nil ?_
 refine e_then ?_
 refine wp_seq ?_
 refine c_region ?_
 refine l_mv 1 S rfl ?_; clear S a; intro a S
 refine l_pure S (p_sub (r := 11) rfl rfl (by decide)) rfl rfl rfl ?_; clear S a; intro a S
 refine l_mv 1 S rfl ?_; clear S a; intro a S
 refine l_nil ?_
 refine e_then ?_
 refine wp_seq ?_
 refine wp_seq ?_
 refine c_region ?_
 refine l_mv 1 S rfl ?_; clear S a; intro a S
 refine l_pure S (p_eql rfl rfl) rfl rfl rfl ?_; clear S a; intro a S
 refine l_mv 1 S rfl ?_; clear S a; intro a S
 refine l_split (S.of 24 rfl) (fun bc6 => ?_) (fun bc6 => ?_)
 ·
  have c6 := bc6
  have c6 := eq_of_beq c6
  refine l_on S rfl rfl rfl rfl bc6 ?_
  refine l_pure S (p_move rfl) rfl rfl rfl ?_; clear S a; intro a S
  refine l_on S rfl rfl rfl rfl bc6 ?_
  refine l_pure S (p_move rfl) rfl rfl rfl ?_; clear S a; intro a S
  refine l_on S rfl rfl rfl rfl bc6 ?_
  refine l_pure S (p_gtr rfl rfl) rfl rfl rfl ?_; clear S a; intro a S
  refine l_pure S (p_pick_t rfl bc6 rfl) rfl rfl rfl ?_; clear S a; intro a S
  refine l_nil ?_
  refine e_then ?_
  refine c_cond S rfl (fun bc8 => ?_) (fun bc8 => ?_)
  ·
   have c8 := bc8
   have c8 := of_decide_eq_true c8
   refine wp_seq ?_
   refine c_region ?_
   refine l_mv 2 S rfl ?_; clear S a; intro a S
   refine l_pure S (p_add (r := (e + 11)) rfl rfl (IntWalk.i64_in _ (by omega))) rfl rfl rfl ?_; clear S a; intro a S
   have hcon := sm.skw_ wb _ B _ (e + 11) (by omega) H
   refine l_call S rfl rfl Tryz.func60 rfl rfl (hcon) rfl rfl rfl ?_
   rintro e w ⟨rfl, hH⟩
   refine ⟨_, rfl, ?_⟩; clear S a; intro a S
   clear H hcon; have H := hH; clear hH
   have hbd := fz.skw_bd (x := (e + 11)) (by omega)
   refine l_pure S (p_un rfl (fun w => fz.neg64 (by omega) w)) rfl rfl rfl ?_; clear S a; intro a S
   refine l_mv 1 S rfl ?_; clear S a; intro a S
   refine l_nil ?_
   refine e_then ?_
   refine wp_seq ?_
   refine c_region ?_
   refine l_mv 2 S rfl ?_; clear S a; intro a S
   refine l_pure S (p_sub (r := 9) rfl rfl (by decide)) rfl rfl rfl ?_; clear S a; intro a S
   refine l_pure S (p_shl rfl rfl (by decide) (shl64 1#64 (n := (9 : Nat)) rfl (by decide))) rfl rfl rfl ?_; clear S a; intro a S
   refine l_pure S (p_sub rfl rfl (sub64 m (1#64 <<< (9 : Nat)))) rfl rfl rfl ?_; clear S a; intro a S
   refine l_mv 1 S rfl ?_; clear S a; intro a S
   refine l_nil ?_
   refine e_then ?_
   refine wp_seq ?_
   refine c_region ?_
   refine l_mv 2 S rfl ?_; clear S a; intro a S
   refine l_pure S (p_sub (r := 10) rfl rfl (by decide)) rfl rfl rfl ?_; clear S a; intro a S
   refine l_pure S (p_shl rfl rfl (by decide) (shl64 1#64 (n := (10 : Nat)) rfl (by decide))) rfl rfl rfl ?_; clear S a; intro a S
   refine l_pure S (p_add rfl rfl (add64 m (1#64 <<< (10 : Nat)))) rfl rfl rfl ?_; clear S a; intro a S
   refine l_mv 1 S rfl ?_; clear S a; intro a S
   refine l_nil ?_
   refine e_then ?_
   refine c_region ?_
   refine l_mv 2 S rfl ?_; clear S a; intro a S
   refine l_pure S (p_shr rfl rfl (by decide) (shr64 m (n := (11 : Nat)) rfl (by decide))) rfl rfl rfl ?_; clear S a; intro a S
   have hsr := fz.shr_le m (z := 11) (by omega)
   refine l_pure S (p_conv rfl (fun w => cv_int (Tryz.underlying107) (Tryz.underlying3) (fz.toI64 (x := (m >>> (11 : Nat))) (by omega)))) rfl rfl rfl ?_; clear S a; intro a S
   refine l_pure S (p_and rfl rfl (nat_mask 1 (by decide) (x := (((m >>> (11 : Nat))).toNat)) (by omega) rfl)) rfl rfl rfl ?_; clear S a; intro a S
   refine l_mv 1 S rfl ?_; clear S a; intro a S
   refine l_nil ?_
   refine e_then ?_
   refine wp_seq ?_
   refine c_region ?_
   refine l_alloc (cs := #[.int .u64 0, .int .u64 0, .int .i64 0]) S H rfl (fun w => al zv170) rfl rfl rfl ?_; clear S a H; intro g9 w a H S
   refine l_nil ?_
   refine e_then ?_
   refine wp_seq ?_
   refine c_region ?_
   refine l_mv 3 S rfl ?_; clear S a; intro a S
   obtain ⟨hp, hs⟩ := fz.ok1 (e := e) (by omega)
   have hlb := fz.lg2_bd (x := (-(fz.skw (e + 11)))) (by omega)
   have hcon := sm.lg2_ wb _ B _ (-(fz.skw (e + 11))) (by omega) H
   refine l_call S rfl rfl Tryz.func62 rfl rfl (hcon) rfl rfl rfl ?_
   rintro e w ⟨rfl, hH⟩
   refine ⟨_, rfl, ?_⟩; clear S a; intro a S
   clear H hcon; have H := hH; clear hH
   have hcon := sm.prescale_ wb _ B _ hT g9 e (-(fz.skw (e + 11))) (fz.lg2 (-(fz.skw (e + 11)))) (by omega) hp (by omega) H
   refine l_call S rfl rfl Tryz.func61 rfl rfl (hcon) rfl rfl rfl ?_
   rintro e w ⟨rfl, hH⟩
   refine ⟨_, rfl, ?_⟩; clear S a; intro a S
   clear H hcon; have H := hH; clear hH
   rw [← Int.toNat_of_nonneg (show 0 ≤ -(e + (fz.lg2 (-(fz.skw (e + 11)))) + 3) by omega)] at H
   refine l_nil ?_
   refine e_then ?_
   refine wp_seq ?_
   refine c_region ?_
   refine l_mv 1 S rfl ?_; clear S a; intro a S
   have hcon := sm.uscale_ wb _ B _ g9 (m - (1#64 <<< (9 : Nat))) (fz.pHi (-(fz.skw (e + 11)))) (fz.pLo (-(fz.skw (e + 11)))) ((-(e + (fz.lg2 (-(fz.skw (e + 11)))) + 3)).toNat) (by omega) H
   refine l_call S rfl rfl Tryz.func63 rfl rfl (hcon) rfl rfl rfl ?_
   rintro e w ⟨rfl, hH⟩
   refine ⟨_, rfl, ?_⟩; clear S a; intro a S
   clear H hcon; have H := hH; clear hH
   refine l_mv 1 S rfl ?_; clear S a; intro a S
   have hcon := sm.nudge_ wb _ B _ (fz.usc (m - (1#64 <<< (9 : Nat))) (fz.pHi (-(fz.skw (e + 11)))) (fz.pLo (-(fz.skw (e + 11)))) ((-(e + (fz.lg2 (-(fz.skw (e + 11)))) + 3)).toNat % 64)) ((((((m >>> (11 : Nat))).toNat) % 2) : Nat) : Int) H
   refine l_call S rfl rfl Tryz.func64 rfl rfl (hcon) rfl rfl rfl ?_
   rintro e w ⟨rfl, hH⟩
   refine ⟨_, rfl, ?_⟩; clear S a; intro a S
   clear H hcon; have H := hH; clear hH
   have hcon := sm.ceil_ wb _ B _ (fz.nudge (fz.usc (m - (1#64 <<< (9 : Nat))) (fz.pHi (-(fz.skw (e + 11)))) (fz.pLo (-(fz.skw (e + 11)))) ((-(e + (fz.lg2 (-(fz.skw (e + 11)))) + 3)).toNat % 64)) ((((((m >>> (11 : Nat))).toNat) % 2) : Nat) : Int)) H
   refine l_call S rfl rfl Tryz.func65 rfl rfl (hcon) rfl rfl rfl ?_
   rintro e w ⟨rfl, hH⟩
   refine ⟨_, rfl, ?_⟩; clear S a; intro a S
   clear H hcon; have H := hH; clear hH
   refine l_mv 1 S rfl ?_; clear S a; intro a S
   refine l_nil ?_
   refine e_then ?_
   refine wp_seq ?_
   refine c_region ?_
   refine l_mv 1 S rfl ?_; clear S a; intro a S
   have hcon := sm.uscale_ wb _ B _ g9 (m + (1#64 <<< (10 : Nat))) (fz.pHi (-(fz.skw (e + 11)))) (fz.pLo (-(fz.skw (e + 11)))) ((-(e + (fz.lg2 (-(fz.skw (e + 11)))) + 3)).toNat) (by omega) H
   refine l_call S rfl rfl Tryz.func63 rfl rfl (hcon) rfl rfl rfl ?_
   rintro e w ⟨rfl, hH⟩
   refine ⟨_, rfl, ?_⟩; clear S a; intro a S
   clear H hcon; have H := hH; clear hH
   refine l_mv 1 S rfl ?_; clear S a; intro a S
   refine l_pure S (p_un rfl (fun w => fz.neg64 (by omega) w)) rfl rfl rfl ?_; clear S a; intro a S
   have hcon := sm.nudge_ wb _ B _ (fz.usc (m + (1#64 <<< (10 : Nat))) (fz.pHi (-(fz.skw (e + 11)))) (fz.pLo (-(fz.skw (e + 11)))) ((-(e + (fz.lg2 (-(fz.skw (e + 11)))) + 3)).toNat % 64)) (-((((((m >>> (11 : Nat))).toNat) % 2) : Nat) : Int)) H
   refine l_call S rfl rfl Tryz.func64 rfl rfl (hcon) rfl rfl rfl ?_
   rintro e w ⟨rfl, hH⟩
   refine ⟨_, rfl, ?_⟩; clear S a; intro a S
   clear H hcon; have H := hH; clear hH
   have hcon := sm.floor_ wb _ B _ (fz.nudge (fz.usc (m + (1#64 <<< (10 : Nat))) (fz.pHi (-(fz.skw (e + 11)))) (fz.pLo (-(fz.skw (e + 11)))) ((-(e + (fz.lg2 (-(fz.skw (e + 11)))) + 3)).toNat % 64)) (-((((((m >>> (11 : Nat))).toNat) % 2) : Nat) : Int))) H
   refine l_call S rfl rfl Tryz.func66 rfl rfl (hcon) rfl rfl rfl ?_
   rintro e w ⟨rfl, hH⟩
   refine ⟨_, rfl, ?_⟩; clear S a; intro a S
   clear H hcon; have H := hH; clear hH
   refine l_mv 1 S rfl ?_; clear S a; intro a S
   refine l_nil ?_
   refine e_then ?_
   refine wp_seq ?_
   refine wp_seq ?_
   refine c_region ?_
   refine l_mv 1 S rfl ?_; clear S a; intro a S
   refine l_pure S (p_quo rfl rfl (by decide) (fz.quo64 (fz.floor (fz.nudge (fz.usc (m + (1#64 <<< (10 : Nat))) (fz.pHi (-(fz.skw (e + 11)))) (fz.pLo (-(fz.skw (e + 11)))) ((-(e + (fz.lg2 (-(fz.skw (e + 11)))) + 3)).toNat % 64)) (-((((((m >>> (11 : Nat))).toNat) % 2) : Nat) : Int)))) 10#64)) rfl rfl rfl ?_; clear S a; intro a S
   refine l_mv 1 S rfl ?_; clear S a; intro a S
   refine l_nil ?_
   refine e_then ?_
   refine wp_seq ?_
   refine c_region ?_
   refine l_mv 1 S rfl ?_; clear S a; intro a S
   refine l_pure S (p_mul rfl rfl (mul64 ((fz.floor (fz.nudge (fz.usc (m + (1#64 <<< (10 : Nat))) (fz.pHi (-(fz.skw (e + 11)))) (fz.pLo (-(fz.skw (e + 11)))) ((-(e + (fz.lg2 (-(fz.skw (e + 11)))) + 3)).toNat % 64)) (-((((((m >>> (11 : Nat))).toNat) % 2) : Nat) : Int)))) / 10#64) 10#64)) rfl rfl rfl ?_; clear S a; intro a S
   refine l_mv 1 S rfl ?_; clear S a; intro a S
   refine l_pure S (p_geq rfl rfl) rfl rfl rfl ?_; clear S a; intro a S
   refine l_nil ?_
   refine e_then ?_
   refine c_cond S rfl (fun bc11 => ?_) (fun bc11 => ?_)
   ·
    have c11 := bc11
    have c11 := of_decide_eq_true c11
    refine wp_seq ?_
    refine c_region ?_
    refine l_mv 2 S rfl ?_; clear S a; intro a S
    refine l_pure S (p_sub (r := ((-(fz.skw (e + 11))) - 1)) rfl rfl (IntWalk.i64_in _ (by omega))) rfl rfl rfl ?_; clear S a; intro a S
    refine l_pure S (p_un rfl (fun w => fz.neg64 (by omega) w)) rfl rfl rfl ?_; clear S a; intro a S
    refine l_mv 2 S rfl ?_; clear S a; intro a S
    refine l_nil ?_
    refine e_then ?_
    refine wp_ret ?_
    refine e_then_ret ?_
    exact r_ret2 S rfl rfl rfl ⟨by simp only [fz.short, fz.short2, fz.sfin, bc6, bc8, bc11, cond_true, cond_false], H.tail⟩
   ·
    have c11 := bc11
    have c11 := of_decide_eq_false c11
    refine wp_skip ?_
    refine e_then ?_
    refine wp_seq ?_
    refine wp_seq ?_
    refine c_region ?_
    refine l_mv 2 S rfl ?_; clear S a; intro a S
    refine l_nil ?_
    refine e_then ?_
    refine wp_seq ?_
    refine c_region ?_
    refine l_mv 2 S rfl ?_; clear S a; intro a S
    refine l_pure S (p_lss rfl rfl) rfl rfl rfl ?_; clear S a; intro a S
    refine l_nil ?_
    refine e_then ?_
    refine c_cond S rfl (fun bc13 => ?_) (fun bc13 => ?_)
    ·
     have c13 := bc13
     have c13 := of_decide_eq_true c13
     refine c_region ?_
     refine l_mv 1 S rfl ?_; clear S a; intro a S
     have hcon := sm.uscale_ wb _ B _ g9 m (fz.pHi (-(fz.skw (e + 11)))) (fz.pLo (-(fz.skw (e + 11)))) ((-(e + (fz.lg2 (-(fz.skw (e + 11)))) + 3)).toNat) (by omega) H
     refine l_call S rfl rfl Tryz.func63 rfl rfl (hcon) rfl rfl rfl ?_
     rintro e w ⟨rfl, hH⟩
     refine ⟨_, rfl, ?_⟩; clear S a; intro a S
     clear H hcon; have H := hH; clear hH
     have hcon := sm.rnd_ wb _ B _ (fz.usc m (fz.pHi (-(fz.skw (e + 11)))) (fz.pLo (-(fz.skw (e + 11)))) ((-(e + (fz.lg2 (-(fz.skw (e + 11)))) + 3)).toNat % 64)) H
     refine l_call S rfl rfl Tryz.func67 rfl rfl (hcon) rfl rfl rfl ?_
     rintro e w ⟨rfl, hH⟩
     refine ⟨_, rfl, ?_⟩; clear S a; intro a S
     clear H hcon; have H := hH; clear hH
     refine l_mv 1 S rfl ?_; clear S a; intro a S
     refine l_nil ?_
     refine e_then ?_
     refine wp_seq ?_
     refine c_region ?_
     refine l_mv 2 S rfl ?_; clear S a; intro a S
     refine l_pure S (p_un rfl (fun w => fz.neg64 (by omega) w)) rfl rfl rfl ?_; clear S a; intro a S
     refine l_mv 2 S rfl ?_; clear S a; intro a S
     refine l_nil ?_
     refine e_then ?_
     refine wp_ret ?_
     exact r_ret2 S rfl rfl rfl ⟨by simp only [fz.short, fz.short2, fz.sfin, bc6, bc8, bc11, bc13, cond_true, cond_false], H.tail⟩
    ·
     have c13 := bc13
     have c13 := of_decide_eq_false c13
     refine wp_skip ?_
     refine e_then ?_
     refine wp_seq ?_
     refine c_region ?_
     refine l_mv 2 S rfl ?_; clear S a; intro a S
     refine l_pure S (p_un rfl (fun w => fz.neg64 (by omega) w)) rfl rfl rfl ?_; clear S a; intro a S
     refine l_mv 2 S rfl ?_; clear S a; intro a S
     refine l_nil ?_
     refine e_then ?_
     refine wp_ret ?_
     exact r_ret2 S rfl rfl rfl ⟨by simp only [fz.short, fz.short2, fz.sfin, bc6, bc8, bc11, bc13, cond_true, cond_false], H.tail⟩
  ·
   have c8 := bc8
   have c8 := of_decide_eq_false c8
   refine wp_seq ?_
   refine c_region ?_
   refine l_mv 2 S rfl ?_; clear S a; intro a S
   refine l_pure S (p_geq rfl rfl) rfl rfl rfl ?_; clear S a; intro a S
   refine l_nil ?_
   refine e_then ?_
   refine c_cond S rfl (fun bc15 => ?_) (fun bc15 => ?_)
   ·
    have c15 := bc15
    have c15 := of_decide_eq_true c15
    refine wp_seq ?_
    refine c_region ?_
    refine l_mv 2 S rfl ?_; clear S a; intro a S
    refine l_pure S (p_add (r := (e + 11)) rfl rfl (IntWalk.i64_in _ (by omega))) rfl rfl rfl ?_; clear S a; intro a S
    have hcon := sm.lg10_ wb _ B _ (e + 11) (by omega) H
    refine l_call S rfl rfl Tryz.func51 rfl rfl (hcon) rfl rfl rfl ?_
    rintro e w ⟨rfl, hH⟩
    refine ⟨_, rfl, ?_⟩; clear S a; intro a S
    clear H hcon; have H := hH; clear hH
    have hbd := fz.lg10_bd (x := (e + 11)) (by omega)
    refine l_pure S (p_un rfl (fun w => fz.neg64 (by omega) w)) rfl rfl rfl ?_; clear S a; intro a S
    refine l_mv 1 S rfl ?_; clear S a; intro a S
    refine l_nil ?_
    refine e_then ?_
    refine wp_seq ?_
    refine c_region ?_
    refine l_mv 2 S rfl ?_; clear S a; intro a S
    refine l_pure S (p_sub (r := 10) rfl rfl (by decide)) rfl rfl rfl ?_; clear S a; intro a S
    refine l_pure S (p_shl rfl rfl (by decide) (shl64 1#64 (n := (10 : Nat)) rfl (by decide))) rfl rfl rfl ?_; clear S a; intro a S
    refine l_pure S (p_sub rfl rfl (sub64 m (1#64 <<< (10 : Nat)))) rfl rfl rfl ?_; clear S a; intro a S
    refine l_mv 1 S rfl ?_; clear S a; intro a S
    refine l_nil ?_
    refine e_then ?_
    refine wp_seq ?_
    refine c_region ?_
    refine l_mv 2 S rfl ?_; clear S a; intro a S
    refine l_pure S (p_sub (r := 10) rfl rfl (by decide)) rfl rfl rfl ?_; clear S a; intro a S
    refine l_pure S (p_shl rfl rfl (by decide) (shl64 1#64 (n := (10 : Nat)) rfl (by decide))) rfl rfl rfl ?_; clear S a; intro a S
    refine l_pure S (p_add rfl rfl (add64 m (1#64 <<< (10 : Nat)))) rfl rfl rfl ?_; clear S a; intro a S
    refine l_mv 1 S rfl ?_; clear S a; intro a S
    refine l_nil ?_
    refine e_then ?_
    refine c_region ?_
    refine l_mv 2 S rfl ?_; clear S a; intro a S
    refine l_pure S (p_shr rfl rfl (by decide) (shr64 m (n := (11 : Nat)) rfl (by decide))) rfl rfl rfl ?_; clear S a; intro a S
    have hsr := fz.shr_le m (z := 11) (by omega)
    refine l_pure S (p_conv rfl (fun w => cv_int (Tryz.underlying107) (Tryz.underlying3) (fz.toI64 (x := (m >>> (11 : Nat))) (by omega)))) rfl rfl rfl ?_; clear S a; intro a S
    refine l_pure S (p_and rfl rfl (nat_mask 1 (by decide) (x := (((m >>> (11 : Nat))).toNat)) (by omega) rfl)) rfl rfl rfl ?_; clear S a; intro a S
    refine l_mv 1 S rfl ?_; clear S a; intro a S
    refine l_nil ?_
    refine e_then ?_
    refine wp_seq ?_
    refine c_region ?_
    refine l_alloc (cs := #[.int .u64 0, .int .u64 0, .int .i64 0]) S H rfl (fun w => al zv170) rfl rfl rfl ?_; clear S a H; intro g16 w a H S
    refine l_nil ?_
    refine e_then ?_
    refine wp_seq ?_
    refine c_region ?_
    refine l_mv 3 S rfl ?_; clear S a; intro a S
    obtain ⟨hp, hs⟩ := fz.ok2 (e := e) (by omega)
    have hlb := fz.lg2_bd (x := (-(fz.lg10 (e + 11)))) (by omega)
    have hcon := sm.lg2_ wb _ B _ (-(fz.lg10 (e + 11))) (by omega) H
    refine l_call S rfl rfl Tryz.func62 rfl rfl (hcon) rfl rfl rfl ?_
    rintro e w ⟨rfl, hH⟩
    refine ⟨_, rfl, ?_⟩; clear S a; intro a S
    clear H hcon; have H := hH; clear hH
    have hcon := sm.prescale_ wb _ B _ hT g16 e (-(fz.lg10 (e + 11))) (fz.lg2 (-(fz.lg10 (e + 11)))) (by omega) hp (by omega) H
    refine l_call S rfl rfl Tryz.func61 rfl rfl (hcon) rfl rfl rfl ?_
    rintro e w ⟨rfl, hH⟩
    refine ⟨_, rfl, ?_⟩; clear S a; intro a S
    clear H hcon; have H := hH; clear hH
    rw [← Int.toNat_of_nonneg (show 0 ≤ -(e + (fz.lg2 (-(fz.lg10 (e + 11)))) + 3) by omega)] at H
    refine l_nil ?_
    refine e_then ?_
    refine wp_seq ?_
    refine c_region ?_
    refine l_mv 1 S rfl ?_; clear S a; intro a S
    have hcon := sm.uscale_ wb _ B _ g16 (m - (1#64 <<< (10 : Nat))) (fz.pHi (-(fz.lg10 (e + 11)))) (fz.pLo (-(fz.lg10 (e + 11)))) ((-(e + (fz.lg2 (-(fz.lg10 (e + 11)))) + 3)).toNat) (by omega) H
    refine l_call S rfl rfl Tryz.func63 rfl rfl (hcon) rfl rfl rfl ?_
    rintro e w ⟨rfl, hH⟩
    refine ⟨_, rfl, ?_⟩; clear S a; intro a S
    clear H hcon; have H := hH; clear hH
    refine l_mv 1 S rfl ?_; clear S a; intro a S
    have hcon := sm.nudge_ wb _ B _ (fz.usc (m - (1#64 <<< (10 : Nat))) (fz.pHi (-(fz.lg10 (e + 11)))) (fz.pLo (-(fz.lg10 (e + 11)))) ((-(e + (fz.lg2 (-(fz.lg10 (e + 11)))) + 3)).toNat % 64)) ((((((m >>> (11 : Nat))).toNat) % 2) : Nat) : Int) H
    refine l_call S rfl rfl Tryz.func64 rfl rfl (hcon) rfl rfl rfl ?_
    rintro e w ⟨rfl, hH⟩
    refine ⟨_, rfl, ?_⟩; clear S a; intro a S
    clear H hcon; have H := hH; clear hH
    have hcon := sm.ceil_ wb _ B _ (fz.nudge (fz.usc (m - (1#64 <<< (10 : Nat))) (fz.pHi (-(fz.lg10 (e + 11)))) (fz.pLo (-(fz.lg10 (e + 11)))) ((-(e + (fz.lg2 (-(fz.lg10 (e + 11)))) + 3)).toNat % 64)) ((((((m >>> (11 : Nat))).toNat) % 2) : Nat) : Int)) H
    refine l_call S rfl rfl Tryz.func65 rfl rfl (hcon) rfl rfl rfl ?_
    rintro e w ⟨rfl, hH⟩
    refine ⟨_, rfl, ?_⟩; clear S a; intro a S
    clear H hcon; have H := hH; clear hH
    refine l_mv 1 S rfl ?_; clear S a; intro a S
    refine l_nil ?_
    refine e_then ?_
    refine wp_seq ?_
    refine c_region ?_
    refine l_mv 1 S rfl ?_; clear S a; intro a S
    have hcon := sm.uscale_ wb _ B _ g16 (m + (1#64 <<< (10 : Nat))) (fz.pHi (-(fz.lg10 (e + 11)))) (fz.pLo (-(fz.lg10 (e + 11)))) ((-(e + (fz.lg2 (-(fz.lg10 (e + 11)))) + 3)).toNat) (by omega) H
    refine l_call S rfl rfl Tryz.func63 rfl rfl (hcon) rfl rfl rfl ?_
    rintro e w ⟨rfl, hH⟩
    refine ⟨_, rfl, ?_⟩; clear S a; intro a S
    clear H hcon; have H := hH; clear hH
    refine l_mv 1 S rfl ?_; clear S a; intro a S
    refine l_pure S (p_un rfl (fun w => fz.neg64 (by omega) w)) rfl rfl rfl ?_; clear S a; intro a S
    have hcon := sm.nudge_ wb _ B _ (fz.usc (m + (1#64 <<< (10 : Nat))) (fz.pHi (-(fz.lg10 (e + 11)))) (fz.pLo (-(fz.lg10 (e + 11)))) ((-(e + (fz.lg2 (-(fz.lg10 (e + 11)))) + 3)).toNat % 64)) (-((((((m >>> (11 : Nat))).toNat) % 2) : Nat) : Int)) H
    refine l_call S rfl rfl Tryz.func64 rfl rfl (hcon) rfl rfl rfl ?_
    rintro e w ⟨rfl, hH⟩
    refine ⟨_, rfl, ?_⟩; clear S a; intro a S
    clear H hcon; have H := hH; clear hH
    have hcon := sm.floor_ wb _ B _ (fz.nudge (fz.usc (m + (1#64 <<< (10 : Nat))) (fz.pHi (-(fz.lg10 (e + 11)))) (fz.pLo (-(fz.lg10 (e + 11)))) ((-(e + (fz.lg2 (-(fz.lg10 (e + 11)))) + 3)).toNat % 64)) (-((((((m >>> (11 : Nat))).toNat) % 2) : Nat) : Int))) H
    refine l_call S rfl rfl Tryz.func66 rfl rfl (hcon) rfl rfl rfl ?_
    rintro e w ⟨rfl, hH⟩
    refine ⟨_, rfl, ?_⟩; clear S a; intro a S
    clear H hcon; have H := hH; clear hH
    refine l_mv 1 S rfl ?_; clear S a; intro a S
    refine l_nil ?_
    refine e_then ?_
    refine wp_seq ?_
    refine wp_seq ?_
    refine c_region ?_
    refine l_mv 1 S rfl ?_; clear S a; intro a S
    refine l_pure S (p_quo rfl rfl (by decide) (fz.quo64 (fz.floor (fz.nudge (fz.usc (m + (1#64 <<< (10 : Nat))) (fz.pHi (-(fz.lg10 (e + 11)))) (fz.pLo (-(fz.lg10 (e + 11)))) ((-(e + (fz.lg2 (-(fz.lg10 (e + 11)))) + 3)).toNat % 64)) (-((((((m >>> (11 : Nat))).toNat) % 2) : Nat) : Int)))) 10#64)) rfl rfl rfl ?_; clear S a; intro a S
    refine l_mv 1 S rfl ?_; clear S a; intro a S
    refine l_nil ?_
    refine e_then ?_
    refine wp_seq ?_
    refine c_region ?_
    refine l_mv 1 S rfl ?_; clear S a; intro a S
    refine l_pure S (p_mul rfl rfl (mul64 ((fz.floor (fz.nudge (fz.usc (m + (1#64 <<< (10 : Nat))) (fz.pHi (-(fz.lg10 (e + 11)))) (fz.pLo (-(fz.lg10 (e + 11)))) ((-(e + (fz.lg2 (-(fz.lg10 (e + 11)))) + 3)).toNat % 64)) (-((((((m >>> (11 : Nat))).toNat) % 2) : Nat) : Int)))) / 10#64) 10#64)) rfl rfl rfl ?_; clear S a; intro a S
    refine l_mv 1 S rfl ?_; clear S a; intro a S
    refine l_pure S (p_geq rfl rfl) rfl rfl rfl ?_; clear S a; intro a S
    refine l_nil ?_
    refine e_then ?_
    refine c_cond S rfl (fun bc18 => ?_) (fun bc18 => ?_)
    ·
     have c18 := bc18
     have c18 := of_decide_eq_true c18
     refine wp_seq ?_
     refine c_region ?_
     refine l_mv 2 S rfl ?_; clear S a; intro a S
     refine l_pure S (p_sub (r := ((-(fz.lg10 (e + 11))) - 1)) rfl rfl (IntWalk.i64_in _ (by omega))) rfl rfl rfl ?_; clear S a; intro a S
     refine l_pure S (p_un rfl (fun w => fz.neg64 (by omega) w)) rfl rfl rfl ?_; clear S a; intro a S
     refine l_mv 2 S rfl ?_; clear S a; intro a S
     refine l_nil ?_
     refine e_then ?_
     refine wp_ret ?_
     refine e_then_ret ?_
     exact r_ret2 S rfl rfl rfl ⟨by simp only [fz.short, fz.short2, fz.sfin, bc6, bc8, bc15, bc18, cond_true, cond_false], H.tail⟩
    ·
     have c18 := bc18
     have c18 := of_decide_eq_false c18
     refine wp_skip ?_
     refine e_then ?_
     refine wp_seq ?_
     refine wp_seq ?_
     refine c_region ?_
     refine l_mv 2 S rfl ?_; clear S a; intro a S
     refine l_nil ?_
     refine e_then ?_
     refine wp_seq ?_
     refine c_region ?_
     refine l_mv 2 S rfl ?_; clear S a; intro a S
     refine l_pure S (p_lss rfl rfl) rfl rfl rfl ?_; clear S a; intro a S
     refine l_nil ?_
     refine e_then ?_
     refine c_cond S rfl (fun bc20 => ?_) (fun bc20 => ?_)
     ·
      have c20 := bc20
      have c20 := of_decide_eq_true c20
      refine c_region ?_
      refine l_mv 1 S rfl ?_; clear S a; intro a S
      have hcon := sm.uscale_ wb _ B _ g16 m (fz.pHi (-(fz.lg10 (e + 11)))) (fz.pLo (-(fz.lg10 (e + 11)))) ((-(e + (fz.lg2 (-(fz.lg10 (e + 11)))) + 3)).toNat) (by omega) H
      refine l_call S rfl rfl Tryz.func63 rfl rfl (hcon) rfl rfl rfl ?_
      rintro e w ⟨rfl, hH⟩
      refine ⟨_, rfl, ?_⟩; clear S a; intro a S
      clear H hcon; have H := hH; clear hH
      have hcon := sm.rnd_ wb _ B _ (fz.usc m (fz.pHi (-(fz.lg10 (e + 11)))) (fz.pLo (-(fz.lg10 (e + 11)))) ((-(e + (fz.lg2 (-(fz.lg10 (e + 11)))) + 3)).toNat % 64)) H
      refine l_call S rfl rfl Tryz.func67 rfl rfl (hcon) rfl rfl rfl ?_
      rintro e w ⟨rfl, hH⟩
      refine ⟨_, rfl, ?_⟩; clear S a; intro a S
      clear H hcon; have H := hH; clear hH
      refine l_mv 1 S rfl ?_; clear S a; intro a S
      refine l_nil ?_
      refine e_then ?_
      refine wp_seq ?_
      refine c_region ?_
      refine l_mv 2 S rfl ?_; clear S a; intro a S
      refine l_pure S (p_un rfl (fun w => fz.neg64 (by omega) w)) rfl rfl rfl ?_; clear S a; intro a S
      refine l_mv 2 S rfl ?_; clear S a; intro a S
      refine l_nil ?_
      refine e_then ?_
      refine wp_ret ?_
      exact r_ret2 S rfl rfl rfl ⟨by simp only [fz.short, fz.short2, fz.sfin, bc6, bc8, bc15, bc18, bc20, cond_true, cond_false], H.tail⟩
     ·
      have c20 := bc20
      have c20 := of_decide_eq_false c20
      refine wp_skip ?_
      refine e_then ?_
      refine wp_seq ?_
      refine c_region ?_
      refine l_mv 2 S rfl ?_; clear S a; intro a S
      refine l_pure S (p_un rfl (fun w => fz.neg64 (by omega) w)) rfl rfl rfl ?_; clear S a; intro a S
      refine l_mv 2 S rfl ?_; clear S a; intro a S
      refine l_nil ?_
      refine e_then ?_
      refine wp_ret ?_
      exact r_ret2 S rfl rfl rfl ⟨by simp only [fz.short, fz.short2, fz.sfin, bc6, bc8, bc15, bc18, bc20, cond_true, cond_false], H.tail⟩
   ·
    have c15 := bc15
    have c15 := of_decide_eq_false c15
    refine wp_seq ?_
    refine c_region ?_
    refine l_mv 3 S rfl ?_; clear S a; intro a S
    refine l_pure S (p_sub (r := ((-1085) - e)) rfl rfl (IntWalk.i64_in _ (by omega))) rfl rfl rfl ?_; clear S a; intro a S
    refine l_pure S (p_add (r := (11 + ((-1085) - e))) rfl rfl (IntWalk.i64_in _ (by omega))) rfl rfl rfl ?_; clear S a; intro a S
    refine l_mv 1 S rfl ?_; clear S a; intro a S
    refine l_nil ?_
    refine e_then ?_
    refine wp_seq ?_
    refine c_region ?_
    refine l_mv 2 S rfl ?_; clear S a; intro a S
    refine l_pure S (p_add (r := (e + (11 + ((-1085) - e)))) rfl rfl (IntWalk.i64_in _ (by omega))) rfl rfl rfl ?_; clear S a; intro a S
    have hcon := sm.lg10_ wb _ B _ (e + (11 + ((-1085) - e))) (by omega) H
    refine l_call S rfl rfl Tryz.func51 rfl rfl (hcon) rfl rfl rfl ?_
    rintro e w ⟨rfl, hH⟩
    refine ⟨_, rfl, ?_⟩; clear S a; intro a S
    clear H hcon; have H := hH; clear hH
    have hbd := fz.lg10_bd (x := (e + (11 + ((-1085) - e)))) (by omega)
    refine l_pure S (p_un rfl (fun w => fz.neg64 (by omega) w)) rfl rfl rfl ?_; clear S a; intro a S
    refine l_mv 1 S rfl ?_; clear S a; intro a S
    refine l_nil ?_
    refine e_then ?_
    refine wp_seq ?_
    refine c_region ?_
    refine l_mv 2 S rfl ?_; clear S a; intro a S
    refine l_pure S (p_sub (r := ((11 + ((-1085) - e)) - 1)) rfl rfl (IntWalk.i64_in _ (by omega))) rfl rfl rfl ?_; clear S a; intro a S
    refine l_pure S (p_shl rfl rfl (by omega) (shl64 1#64 (n := (((11 + ((-1085) - e)) - 1)).toNat) (by omega) (by omega))) rfl rfl rfl ?_; clear S a; intro a S
    refine l_pure S (p_sub rfl rfl (sub64 m (1#64 <<< (((11 + ((-1085) - e)) - 1)).toNat))) rfl rfl rfl ?_; clear S a; intro a S
    refine l_mv 1 S rfl ?_; clear S a; intro a S
    refine l_nil ?_
    refine e_then ?_
    refine wp_seq ?_
    refine c_region ?_
    refine l_mv 2 S rfl ?_; clear S a; intro a S
    refine l_pure S (p_sub (r := ((11 + ((-1085) - e)) - 1)) rfl rfl (IntWalk.i64_in _ (by omega))) rfl rfl rfl ?_; clear S a; intro a S
    refine l_pure S (p_shl rfl rfl (by omega) (shl64 1#64 (n := (((11 + ((-1085) - e)) - 1)).toNat) (by omega) (by omega))) rfl rfl rfl ?_; clear S a; intro a S
    refine l_pure S (p_add rfl rfl (add64 m (1#64 <<< (((11 + ((-1085) - e)) - 1)).toNat))) rfl rfl rfl ?_; clear S a; intro a S
    refine l_mv 1 S rfl ?_; clear S a; intro a S
    refine l_nil ?_
    refine e_then ?_
    refine c_region ?_
    refine l_mv 2 S rfl ?_; clear S a; intro a S
    refine l_pure S (p_shr rfl rfl (by omega) (shr64 m (n := ((11 + ((-1085) - e))).toNat) (by omega) (by omega))) rfl rfl rfl ?_; clear S a; intro a S
    have hsr := fz.shr_le m (z := (11 + (-1085 - e)).toNat) (by omega)
    refine l_pure S (p_conv rfl (fun w => cv_int (Tryz.underlying107) (Tryz.underlying3) (fz.toI64 (x := (m >>> ((11 + ((-1085) - e))).toNat)) (by omega)))) rfl rfl rfl ?_; clear S a; intro a S
    refine l_pure S (p_and rfl rfl (nat_mask 1 (by decide) (x := (((m >>> ((11 + ((-1085) - e))).toNat)).toNat)) (by omega) rfl)) rfl rfl rfl ?_; clear S a; intro a S
    refine l_mv 1 S rfl ?_; clear S a; intro a S
    refine l_nil ?_
    refine e_then ?_
    refine wp_seq ?_
    refine c_region ?_
    refine l_alloc (cs := #[.int .u64 0, .int .u64 0, .int .i64 0]) S H rfl (fun w => al zv170) rfl rfl rfl ?_; clear S a H; intro g21 w a H S
    refine l_nil ?_
    refine e_then ?_
    refine wp_seq ?_
    refine c_region ?_
    refine l_mv 3 S rfl ?_; clear S a; intro a S
    obtain ⟨hp, hs⟩ := fz.ok3 (e := e) (by omega)
    have hlb := fz.lg2_bd (x := (-(fz.lg10 (e + (11 + ((-1085) - e)))))) (by omega)
    have hcon := sm.lg2_ wb _ B _ (-(fz.lg10 (e + (11 + ((-1085) - e))))) (by omega) H
    refine l_call S rfl rfl Tryz.func62 rfl rfl (hcon) rfl rfl rfl ?_
    rintro e w ⟨rfl, hH⟩
    refine ⟨_, rfl, ?_⟩; clear S a; intro a S
    clear H hcon; have H := hH; clear hH
    have hcon := sm.prescale_ wb _ B _ hT g21 e (-(fz.lg10 (e + (11 + ((-1085) - e))))) (fz.lg2 (-(fz.lg10 (e + (11 + ((-1085) - e)))))) (by omega) hp (by omega) H
    refine l_call S rfl rfl Tryz.func61 rfl rfl (hcon) rfl rfl rfl ?_
    rintro e w ⟨rfl, hH⟩
    refine ⟨_, rfl, ?_⟩; clear S a; intro a S
    clear H hcon; have H := hH; clear hH
    rw [← Int.toNat_of_nonneg (show 0 ≤ -(e + (fz.lg2 (-(fz.lg10 (e + (11 + ((-1085) - e)))))) + 3) by omega)] at H
    refine l_nil ?_
    refine e_then ?_
    refine wp_seq ?_
    refine c_region ?_
    refine l_mv 1 S rfl ?_; clear S a; intro a S
    have hcon := sm.uscale_ wb _ B _ g21 (m - (1#64 <<< (((11 + ((-1085) - e)) - 1)).toNat)) (fz.pHi (-(fz.lg10 (e + (11 + ((-1085) - e)))))) (fz.pLo (-(fz.lg10 (e + (11 + ((-1085) - e)))))) ((-(e + (fz.lg2 (-(fz.lg10 (e + (11 + ((-1085) - e)))))) + 3)).toNat) (by omega) H
    refine l_call S rfl rfl Tryz.func63 rfl rfl (hcon) rfl rfl rfl ?_
    rintro e w ⟨rfl, hH⟩
    refine ⟨_, rfl, ?_⟩; clear S a; intro a S
    clear H hcon; have H := hH; clear hH
    refine l_mv 1 S rfl ?_; clear S a; intro a S
    have hcon := sm.nudge_ wb _ B _ (fz.usc (m - (1#64 <<< (((11 + ((-1085) - e)) - 1)).toNat)) (fz.pHi (-(fz.lg10 (e + (11 + ((-1085) - e)))))) (fz.pLo (-(fz.lg10 (e + (11 + ((-1085) - e)))))) ((-(e + (fz.lg2 (-(fz.lg10 (e + (11 + ((-1085) - e)))))) + 3)).toNat % 64)) ((((((m >>> ((11 + ((-1085) - e))).toNat)).toNat) % 2) : Nat) : Int) H
    refine l_call S rfl rfl Tryz.func64 rfl rfl (hcon) rfl rfl rfl ?_
    rintro e w ⟨rfl, hH⟩
    refine ⟨_, rfl, ?_⟩; clear S a; intro a S
    clear H hcon; have H := hH; clear hH
    have hcon := sm.ceil_ wb _ B _ (fz.nudge (fz.usc (m - (1#64 <<< (((11 + ((-1085) - e)) - 1)).toNat)) (fz.pHi (-(fz.lg10 (e + (11 + ((-1085) - e)))))) (fz.pLo (-(fz.lg10 (e + (11 + ((-1085) - e)))))) ((-(e + (fz.lg2 (-(fz.lg10 (e + (11 + ((-1085) - e)))))) + 3)).toNat % 64)) ((((((m >>> ((11 + ((-1085) - e))).toNat)).toNat) % 2) : Nat) : Int)) H
    refine l_call S rfl rfl Tryz.func65 rfl rfl (hcon) rfl rfl rfl ?_
    rintro e w ⟨rfl, hH⟩
    refine ⟨_, rfl, ?_⟩; clear S a; intro a S
    clear H hcon; have H := hH; clear hH
    refine l_mv 1 S rfl ?_; clear S a; intro a S
    refine l_nil ?_
    refine e_then ?_
    refine wp_seq ?_
    refine c_region ?_
    refine l_mv 1 S rfl ?_; clear S a; intro a S
    have hcon := sm.uscale_ wb _ B _ g21 (m + (1#64 <<< (((11 + ((-1085) - e)) - 1)).toNat)) (fz.pHi (-(fz.lg10 (e + (11 + ((-1085) - e)))))) (fz.pLo (-(fz.lg10 (e + (11 + ((-1085) - e)))))) ((-(e + (fz.lg2 (-(fz.lg10 (e + (11 + ((-1085) - e)))))) + 3)).toNat) (by omega) H
    refine l_call S rfl rfl Tryz.func63 rfl rfl (hcon) rfl rfl rfl ?_
    rintro e w ⟨rfl, hH⟩
    refine ⟨_, rfl, ?_⟩; clear S a; intro a S
    clear H hcon; have H := hH; clear hH
    refine l_mv 1 S rfl ?_; clear S a; intro a S
    refine l_pure S (p_un rfl (fun w => fz.neg64 (by omega) w)) rfl rfl rfl ?_; clear S a; intro a S
    have hcon := sm.nudge_ wb _ B _ (fz.usc (m + (1#64 <<< (((11 + ((-1085) - e)) - 1)).toNat)) (fz.pHi (-(fz.lg10 (e + (11 + ((-1085) - e)))))) (fz.pLo (-(fz.lg10 (e + (11 + ((-1085) - e)))))) ((-(e + (fz.lg2 (-(fz.lg10 (e + (11 + ((-1085) - e)))))) + 3)).toNat % 64)) (-((((((m >>> ((11 + ((-1085) - e))).toNat)).toNat) % 2) : Nat) : Int)) H
    refine l_call S rfl rfl Tryz.func64 rfl rfl (hcon) rfl rfl rfl ?_
    rintro e w ⟨rfl, hH⟩
    refine ⟨_, rfl, ?_⟩; clear S a; intro a S
    clear H hcon; have H := hH; clear hH
    have hcon := sm.floor_ wb _ B _ (fz.nudge (fz.usc (m + (1#64 <<< (((11 + ((-1085) - e)) - 1)).toNat)) (fz.pHi (-(fz.lg10 (e + (11 + ((-1085) - e)))))) (fz.pLo (-(fz.lg10 (e + (11 + ((-1085) - e)))))) ((-(e + (fz.lg2 (-(fz.lg10 (e + (11 + ((-1085) - e)))))) + 3)).toNat % 64)) (-((((((m >>> ((11 + ((-1085) - e))).toNat)).toNat) % 2) : Nat) : Int))) H
    refine l_call S rfl rfl Tryz.func66 rfl rfl (hcon) rfl rfl rfl ?_
    rintro e w ⟨rfl, hH⟩
    refine ⟨_, rfl, ?_⟩; clear S a; intro a S
    clear H hcon; have H := hH; clear hH
    refine l_mv 1 S rfl ?_; clear S a; intro a S
    refine l_nil ?_
    refine e_then ?_
    refine wp_seq ?_
    refine wp_seq ?_
    refine c_region ?_
    refine l_mv 1 S rfl ?_; clear S a; intro a S
    refine l_pure S (p_quo rfl rfl (by decide) (fz.quo64 (fz.floor (fz.nudge (fz.usc (m + (1#64 <<< (((11 + ((-1085) - e)) - 1)).toNat)) (fz.pHi (-(fz.lg10 (e + (11 + ((-1085) - e)))))) (fz.pLo (-(fz.lg10 (e + (11 + ((-1085) - e)))))) ((-(e + (fz.lg2 (-(fz.lg10 (e + (11 + ((-1085) - e)))))) + 3)).toNat % 64)) (-((((((m >>> ((11 + ((-1085) - e))).toNat)).toNat) % 2) : Nat) : Int)))) 10#64)) rfl rfl rfl ?_; clear S a; intro a S
    refine l_mv 1 S rfl ?_; clear S a; intro a S
    refine l_nil ?_
    refine e_then ?_
    refine wp_seq ?_
    refine c_region ?_
    refine l_mv 1 S rfl ?_; clear S a; intro a S
    refine l_pure S (p_mul rfl rfl (mul64 ((fz.floor (fz.nudge (fz.usc (m + (1#64 <<< (((11 + ((-1085) - e)) - 1)).toNat)) (fz.pHi (-(fz.lg10 (e + (11 + ((-1085) - e)))))) (fz.pLo (-(fz.lg10 (e + (11 + ((-1085) - e)))))) ((-(e + (fz.lg2 (-(fz.lg10 (e + (11 + ((-1085) - e)))))) + 3)).toNat % 64)) (-((((((m >>> ((11 + ((-1085) - e))).toNat)).toNat) % 2) : Nat) : Int)))) / 10#64) 10#64)) rfl rfl rfl ?_; clear S a; intro a S
    refine l_mv 1 S rfl ?_; clear S a; intro a S
    refine l_pure S (p_geq rfl rfl) rfl rfl rfl ?_; clear S a; intro a S
    refine l_nil ?_
    refine e_then ?_
    refine c_cond S rfl (fun bc23 => ?_) (fun bc23 => ?_)
    ·
     have c23 := bc23
     have c23 := of_decide_eq_true c23
     refine wp_seq ?_
     refine c_region ?_
     refine l_mv 2 S rfl ?_; clear S a; intro a S
     refine l_pure S (p_sub (r := ((-(fz.lg10 (e + (11 + ((-1085) - e))))) - 1)) rfl rfl (IntWalk.i64_in _ (by omega))) rfl rfl rfl ?_; clear S a; intro a S
     refine l_pure S (p_un rfl (fun w => fz.neg64 (by omega) w)) rfl rfl rfl ?_; clear S a; intro a S
     refine l_mv 2 S rfl ?_; clear S a; intro a S
     refine l_nil ?_
     refine e_then ?_
     refine wp_ret ?_
     refine e_then_ret ?_
     exact r_ret2 S rfl rfl rfl ⟨by simp only [fz.short, fz.short2, fz.sfin, bc6, bc8, bc15, bc23, cond_true, cond_false], H.tail⟩
    ·
     have c23 := bc23
     have c23 := of_decide_eq_false c23
     refine wp_skip ?_
     refine e_then ?_
     refine wp_seq ?_
     refine wp_seq ?_
     refine c_region ?_
     refine l_mv 2 S rfl ?_; clear S a; intro a S
     refine l_nil ?_
     refine e_then ?_
     refine wp_seq ?_
     refine c_region ?_
     refine l_mv 2 S rfl ?_; clear S a; intro a S
     refine l_pure S (p_lss rfl rfl) rfl rfl rfl ?_; clear S a; intro a S
     refine l_nil ?_
     refine e_then ?_
     refine c_cond S rfl (fun bc25 => ?_) (fun bc25 => ?_)
     ·
      have c25 := bc25
      have c25 := of_decide_eq_true c25
      refine c_region ?_
      refine l_mv 1 S rfl ?_; clear S a; intro a S
      have hcon := sm.uscale_ wb _ B _ g21 m (fz.pHi (-(fz.lg10 (e + (11 + ((-1085) - e)))))) (fz.pLo (-(fz.lg10 (e + (11 + ((-1085) - e)))))) ((-(e + (fz.lg2 (-(fz.lg10 (e + (11 + ((-1085) - e)))))) + 3)).toNat) (by omega) H
      refine l_call S rfl rfl Tryz.func63 rfl rfl (hcon) rfl rfl rfl ?_
      rintro e w ⟨rfl, hH⟩
      refine ⟨_, rfl, ?_⟩; clear S a; intro a S
      clear H hcon; have H := hH; clear hH
      have hcon := sm.rnd_ wb _ B _ (fz.usc m (fz.pHi (-(fz.lg10 (e + (11 + ((-1085) - e)))))) (fz.pLo (-(fz.lg10 (e + (11 + ((-1085) - e)))))) ((-(e + (fz.lg2 (-(fz.lg10 (e + (11 + ((-1085) - e)))))) + 3)).toNat % 64)) H
      refine l_call S rfl rfl Tryz.func67 rfl rfl (hcon) rfl rfl rfl ?_
      rintro e w ⟨rfl, hH⟩
      refine ⟨_, rfl, ?_⟩; clear S a; intro a S
      clear H hcon; have H := hH; clear hH
      refine l_mv 1 S rfl ?_; clear S a; intro a S
      refine l_nil ?_
      refine e_then ?_
      refine wp_seq ?_
      refine c_region ?_
      refine l_mv 2 S rfl ?_; clear S a; intro a S
      refine l_pure S (p_un rfl (fun w => fz.neg64 (by omega) w)) rfl rfl rfl ?_; clear S a; intro a S
      refine l_mv 2 S rfl ?_; clear S a; intro a S
      refine l_nil ?_
      refine e_then ?_
      refine wp_ret ?_
      exact r_ret2 S rfl rfl rfl ⟨by simp only [fz.short, fz.short2, fz.sfin, bc6, bc8, bc15, bc23, bc25, cond_true, cond_false], H.tail⟩
     ·
      have c25 := bc25
      have c25 := of_decide_eq_false c25
      refine wp_skip ?_
      refine e_then ?_
      refine wp_seq ?_
      refine c_region ?_
      refine l_mv 2 S rfl ?_; clear S a; intro a S
      refine l_pure S (p_un rfl (fun w => fz.neg64 (by omega) w)) rfl rfl rfl ?_; clear S a; intro a S
      refine l_mv 2 S rfl ?_; clear S a; intro a S
      refine l_nil ?_
      refine e_then ?_
      refine wp_ret ?_
      exact r_ret2 S rfl rfl rfl ⟨by simp only [fz.short, fz.short2, fz.sfin, bc6, bc8, bc15, bc23, bc25, cond_true, cond_false], H.tail⟩
 ·
  have c6 := bc6
  have c6 := ne_of_beq_false c6
  refine l_off S rfl rfl rfl rfl bc6 rfl rfl ?_; clear S a; intro a S
  refine l_off S rfl rfl rfl rfl bc6 rfl rfl ?_; clear S a; intro a S
  refine l_off S rfl rfl rfl rfl bc6 rfl rfl ?_; clear S a; intro a S
  refine l_pure S (p_pick_f rfl bc6 rfl) rfl rfl rfl ?_; clear S a; intro a S
  refine l_nil ?_
  refine e_then ?_
  refine c_cond (b := false) S rfl (fun h => by cases h) (fun _ => ?_)
  refine wp_seq ?_
  refine c_region ?_
  refine l_mv 2 S rfl ?_; clear S a; intro a S
  refine l_pure S (p_geq rfl rfl) rfl rfl rfl ?_; clear S a; intro a S
  refine l_nil ?_
  refine e_then ?_
  refine c_cond S rfl (fun bc29 => ?_) (fun bc29 => ?_)
  ·
   have c29 := bc29
   have c29 := of_decide_eq_true c29
   refine wp_seq ?_
   refine c_region ?_
   refine l_mv 2 S rfl ?_; clear S a; intro a S
   refine l_pure S (p_add (r := (e + 11)) rfl rfl (IntWalk.i64_in _ (by omega))) rfl rfl rfl ?_; clear S a; intro a S
   have hcon := sm.lg10_ wb _ B _ (e + 11) (by omega) H
   refine l_call S rfl rfl Tryz.func51 rfl rfl (hcon) rfl rfl rfl ?_
   rintro e w ⟨rfl, hH⟩
   refine ⟨_, rfl, ?_⟩; clear S a; intro a S
   clear H hcon; have H := hH; clear hH
   have hbd := fz.lg10_bd (x := (e + 11)) (by omega)
   refine l_pure S (p_un rfl (fun w => fz.neg64 (by omega) w)) rfl rfl rfl ?_; clear S a; intro a S
   refine l_mv 1 S rfl ?_; clear S a; intro a S
   refine l_nil ?_
   refine e_then ?_
   refine wp_seq ?_
   refine c_region ?_
   refine l_mv 2 S rfl ?_; clear S a; intro a S
   refine l_pure S (p_sub (r := 10) rfl rfl (by decide)) rfl rfl rfl ?_; clear S a; intro a S
   refine l_pure S (p_shl rfl rfl (by decide) (shl64 1#64 (n := (10 : Nat)) rfl (by decide))) rfl rfl rfl ?_; clear S a; intro a S
   refine l_pure S (p_sub rfl rfl (sub64 m (1#64 <<< (10 : Nat)))) rfl rfl rfl ?_; clear S a; intro a S
   refine l_mv 1 S rfl ?_; clear S a; intro a S
   refine l_nil ?_
   refine e_then ?_
   refine wp_seq ?_
   refine c_region ?_
   refine l_mv 2 S rfl ?_; clear S a; intro a S
   refine l_pure S (p_sub (r := 10) rfl rfl (by decide)) rfl rfl rfl ?_; clear S a; intro a S
   refine l_pure S (p_shl rfl rfl (by decide) (shl64 1#64 (n := (10 : Nat)) rfl (by decide))) rfl rfl rfl ?_; clear S a; intro a S
   refine l_pure S (p_add rfl rfl (add64 m (1#64 <<< (10 : Nat)))) rfl rfl rfl ?_; clear S a; intro a S
   refine l_mv 1 S rfl ?_; clear S a; intro a S
   refine l_nil ?_
   refine e_then ?_
   refine c_region ?_
   refine l_mv 2 S rfl ?_; clear S a; intro a S
   refine l_pure S (p_shr rfl rfl (by decide) (shr64 m (n := (11 : Nat)) rfl (by decide))) rfl rfl rfl ?_; clear S a; intro a S
   have hsr := fz.shr_le m (z := 11) (by omega)
   refine l_pure S (p_conv rfl (fun w => cv_int (Tryz.underlying107) (Tryz.underlying3) (fz.toI64 (x := (m >>> (11 : Nat))) (by omega)))) rfl rfl rfl ?_; clear S a; intro a S
   refine l_pure S (p_and rfl rfl (nat_mask 1 (by decide) (x := (((m >>> (11 : Nat))).toNat)) (by omega) rfl)) rfl rfl rfl ?_; clear S a; intro a S
   refine l_mv 1 S rfl ?_; clear S a; intro a S
   refine l_nil ?_
   refine e_then ?_
   refine wp_seq ?_
   refine c_region ?_
   refine l_alloc (cs := #[.int .u64 0, .int .u64 0, .int .i64 0]) S H rfl (fun w => al zv170) rfl rfl rfl ?_; clear S a H; intro g30 w a H S
   refine l_nil ?_
   refine e_then ?_
   refine wp_seq ?_
   refine c_region ?_
   refine l_mv 3 S rfl ?_; clear S a; intro a S
   obtain ⟨hp, hs⟩ := fz.ok2 (e := e) (by omega)
   have hlb := fz.lg2_bd (x := (-(fz.lg10 (e + 11)))) (by omega)
   have hcon := sm.lg2_ wb _ B _ (-(fz.lg10 (e + 11))) (by omega) H
   refine l_call S rfl rfl Tryz.func62 rfl rfl (hcon) rfl rfl rfl ?_
   rintro e w ⟨rfl, hH⟩
   refine ⟨_, rfl, ?_⟩; clear S a; intro a S
   clear H hcon; have H := hH; clear hH
   have hcon := sm.prescale_ wb _ B _ hT g30 e (-(fz.lg10 (e + 11))) (fz.lg2 (-(fz.lg10 (e + 11)))) (by omega) hp (by omega) H
   refine l_call S rfl rfl Tryz.func61 rfl rfl (hcon) rfl rfl rfl ?_
   rintro e w ⟨rfl, hH⟩
   refine ⟨_, rfl, ?_⟩; clear S a; intro a S
   clear H hcon; have H := hH; clear hH
   rw [← Int.toNat_of_nonneg (show 0 ≤ -(e + (fz.lg2 (-(fz.lg10 (e + 11)))) + 3) by omega)] at H
   refine l_nil ?_
   refine e_then ?_
   refine wp_seq ?_
   refine c_region ?_
   refine l_mv 1 S rfl ?_; clear S a; intro a S
   have hcon := sm.uscale_ wb _ B _ g30 (m - (1#64 <<< (10 : Nat))) (fz.pHi (-(fz.lg10 (e + 11)))) (fz.pLo (-(fz.lg10 (e + 11)))) ((-(e + (fz.lg2 (-(fz.lg10 (e + 11)))) + 3)).toNat) (by omega) H
   refine l_call S rfl rfl Tryz.func63 rfl rfl (hcon) rfl rfl rfl ?_
   rintro e w ⟨rfl, hH⟩
   refine ⟨_, rfl, ?_⟩; clear S a; intro a S
   clear H hcon; have H := hH; clear hH
   refine l_mv 1 S rfl ?_; clear S a; intro a S
   have hcon := sm.nudge_ wb _ B _ (fz.usc (m - (1#64 <<< (10 : Nat))) (fz.pHi (-(fz.lg10 (e + 11)))) (fz.pLo (-(fz.lg10 (e + 11)))) ((-(e + (fz.lg2 (-(fz.lg10 (e + 11)))) + 3)).toNat % 64)) ((((((m >>> (11 : Nat))).toNat) % 2) : Nat) : Int) H
   refine l_call S rfl rfl Tryz.func64 rfl rfl (hcon) rfl rfl rfl ?_
   rintro e w ⟨rfl, hH⟩
   refine ⟨_, rfl, ?_⟩; clear S a; intro a S
   clear H hcon; have H := hH; clear hH
   have hcon := sm.ceil_ wb _ B _ (fz.nudge (fz.usc (m - (1#64 <<< (10 : Nat))) (fz.pHi (-(fz.lg10 (e + 11)))) (fz.pLo (-(fz.lg10 (e + 11)))) ((-(e + (fz.lg2 (-(fz.lg10 (e + 11)))) + 3)).toNat % 64)) ((((((m >>> (11 : Nat))).toNat) % 2) : Nat) : Int)) H
   refine l_call S rfl rfl Tryz.func65 rfl rfl (hcon) rfl rfl rfl ?_
   rintro e w ⟨rfl, hH⟩
   refine ⟨_, rfl, ?_⟩; clear S a; intro a S
   clear H hcon; have H := hH; clear hH
   refine l_mv 1 S rfl ?_; clear S a; intro a S
   refine l_nil ?_
   refine e_then ?_
   refine wp_seq ?_
   refine c_region ?_
   refine l_mv 1 S rfl ?_; clear S a; intro a S
   have hcon := sm.uscale_ wb _ B _ g30 (m + (1#64 <<< (10 : Nat))) (fz.pHi (-(fz.lg10 (e + 11)))) (fz.pLo (-(fz.lg10 (e + 11)))) ((-(e + (fz.lg2 (-(fz.lg10 (e + 11)))) + 3)).toNat) (by omega) H
   refine l_call S rfl rfl Tryz.func63 rfl rfl (hcon) rfl rfl rfl ?_
   rintro e w ⟨rfl, hH⟩
   refine ⟨_, rfl, ?_⟩; clear S a; intro a S
   clear H hcon; have H := hH; clear hH
   refine l_mv 1 S rfl ?_; clear S a; intro a S
   refine l_pure S (p_un rfl (fun w => fz.neg64 (by omega) w)) rfl rfl rfl ?_; clear S a; intro a S
   have hcon := sm.nudge_ wb _ B _ (fz.usc (m + (1#64 <<< (10 : Nat))) (fz.pHi (-(fz.lg10 (e + 11)))) (fz.pLo (-(fz.lg10 (e + 11)))) ((-(e + (fz.lg2 (-(fz.lg10 (e + 11)))) + 3)).toNat % 64)) (-((((((m >>> (11 : Nat))).toNat) % 2) : Nat) : Int)) H
   refine l_call S rfl rfl Tryz.func64 rfl rfl (hcon) rfl rfl rfl ?_
   rintro e w ⟨rfl, hH⟩
   refine ⟨_, rfl, ?_⟩; clear S a; intro a S
   clear H hcon; have H := hH; clear hH
   have hcon := sm.floor_ wb _ B _ (fz.nudge (fz.usc (m + (1#64 <<< (10 : Nat))) (fz.pHi (-(fz.lg10 (e + 11)))) (fz.pLo (-(fz.lg10 (e + 11)))) ((-(e + (fz.lg2 (-(fz.lg10 (e + 11)))) + 3)).toNat % 64)) (-((((((m >>> (11 : Nat))).toNat) % 2) : Nat) : Int))) H
   refine l_call S rfl rfl Tryz.func66 rfl rfl (hcon) rfl rfl rfl ?_
   rintro e w ⟨rfl, hH⟩
   refine ⟨_, rfl, ?_⟩; clear S a; intro a S
   clear H hcon; have H := hH; clear hH
   refine l_mv 1 S rfl ?_; clear S a; intro a S
   refine l_nil ?_
   refine e_then ?_
   refine wp_seq ?_
   refine wp_seq ?_
   refine c_region ?_
   refine l_mv 1 S rfl ?_; clear S a; intro a S
   refine l_pure S (p_quo rfl rfl (by decide) (fz.quo64 (fz.floor (fz.nudge (fz.usc (m + (1#64 <<< (10 : Nat))) (fz.pHi (-(fz.lg10 (e + 11)))) (fz.pLo (-(fz.lg10 (e + 11)))) ((-(e + (fz.lg2 (-(fz.lg10 (e + 11)))) + 3)).toNat % 64)) (-((((((m >>> (11 : Nat))).toNat) % 2) : Nat) : Int)))) 10#64)) rfl rfl rfl ?_; clear S a; intro a S
   refine l_mv 1 S rfl ?_; clear S a; intro a S
   refine l_nil ?_
   refine e_then ?_
   refine wp_seq ?_
   refine c_region ?_
   refine l_mv 1 S rfl ?_; clear S a; intro a S
   refine l_pure S (p_mul rfl rfl (mul64 ((fz.floor (fz.nudge (fz.usc (m + (1#64 <<< (10 : Nat))) (fz.pHi (-(fz.lg10 (e + 11)))) (fz.pLo (-(fz.lg10 (e + 11)))) ((-(e + (fz.lg2 (-(fz.lg10 (e + 11)))) + 3)).toNat % 64)) (-((((((m >>> (11 : Nat))).toNat) % 2) : Nat) : Int)))) / 10#64) 10#64)) rfl rfl rfl ?_; clear S a; intro a S
   refine l_mv 1 S rfl ?_; clear S a; intro a S
   refine l_pure S (p_geq rfl rfl) rfl rfl rfl ?_; clear S a; intro a S
   refine l_nil ?_
   refine e_then ?_
   refine c_cond S rfl (fun bc32 => ?_) (fun bc32 => ?_)
   ·
    have c32 := bc32
    have c32 := of_decide_eq_true c32
    refine wp_seq ?_
    refine c_region ?_
    refine l_mv 2 S rfl ?_; clear S a; intro a S
    refine l_pure S (p_sub (r := ((-(fz.lg10 (e + 11))) - 1)) rfl rfl (IntWalk.i64_in _ (by omega))) rfl rfl rfl ?_; clear S a; intro a S
    refine l_pure S (p_un rfl (fun w => fz.neg64 (by omega) w)) rfl rfl rfl ?_; clear S a; intro a S
    refine l_mv 2 S rfl ?_; clear S a; intro a S
    refine l_nil ?_
    refine e_then ?_
    refine wp_ret ?_
    refine e_then_ret ?_
    exact r_ret2 S rfl rfl rfl ⟨by simp only [fz.short, fz.short2, fz.sfin, bc6, bc29, bc32, cond_true, cond_false], H.tail⟩
   ·
    have c32 := bc32
    have c32 := of_decide_eq_false c32
    refine wp_skip ?_
    refine e_then ?_
    refine wp_seq ?_
    refine wp_seq ?_
    refine c_region ?_
    refine l_mv 2 S rfl ?_; clear S a; intro a S
    refine l_nil ?_
    refine e_then ?_
    refine wp_seq ?_
    refine c_region ?_
    refine l_mv 2 S rfl ?_; clear S a; intro a S
    refine l_pure S (p_lss rfl rfl) rfl rfl rfl ?_; clear S a; intro a S
    refine l_nil ?_
    refine e_then ?_
    refine c_cond S rfl (fun bc34 => ?_) (fun bc34 => ?_)
    ·
     have c34 := bc34
     have c34 := of_decide_eq_true c34
     refine c_region ?_
     refine l_mv 1 S rfl ?_; clear S a; intro a S
     have hcon := sm.uscale_ wb _ B _ g30 m (fz.pHi (-(fz.lg10 (e + 11)))) (fz.pLo (-(fz.lg10 (e + 11)))) ((-(e + (fz.lg2 (-(fz.lg10 (e + 11)))) + 3)).toNat) (by omega) H
     refine l_call S rfl rfl Tryz.func63 rfl rfl (hcon) rfl rfl rfl ?_
     rintro e w ⟨rfl, hH⟩
     refine ⟨_, rfl, ?_⟩; clear S a; intro a S
     clear H hcon; have H := hH; clear hH
     have hcon := sm.rnd_ wb _ B _ (fz.usc m (fz.pHi (-(fz.lg10 (e + 11)))) (fz.pLo (-(fz.lg10 (e + 11)))) ((-(e + (fz.lg2 (-(fz.lg10 (e + 11)))) + 3)).toNat % 64)) H
     refine l_call S rfl rfl Tryz.func67 rfl rfl (hcon) rfl rfl rfl ?_
     rintro e w ⟨rfl, hH⟩
     refine ⟨_, rfl, ?_⟩; clear S a; intro a S
     clear H hcon; have H := hH; clear hH
     refine l_mv 1 S rfl ?_; clear S a; intro a S
     refine l_nil ?_
     refine e_then ?_
     refine wp_seq ?_
     refine c_region ?_
     refine l_mv 2 S rfl ?_; clear S a; intro a S
     refine l_pure S (p_un rfl (fun w => fz.neg64 (by omega) w)) rfl rfl rfl ?_; clear S a; intro a S
     refine l_mv 2 S rfl ?_; clear S a; intro a S
     refine l_nil ?_
     refine e_then ?_
     refine wp_ret ?_
     exact r_ret2 S rfl rfl rfl ⟨by simp only [fz.short, fz.short2, fz.sfin, bc6, bc29, bc32, bc34, cond_true, cond_false], H.tail⟩
    ·
     have c34 := bc34
     have c34 := of_decide_eq_false c34
     refine wp_skip ?_
     refine e_then ?_
     refine wp_seq ?_
     refine c_region ?_
     refine l_mv 2 S rfl ?_; clear S a; intro a S
     refine l_pure S (p_un rfl (fun w => fz.neg64 (by omega) w)) rfl rfl rfl ?_; clear S a; intro a S
     refine l_mv 2 S rfl ?_; clear S a; intro a S
     refine l_nil ?_
     refine e_then ?_
     refine wp_ret ?_
     exact r_ret2 S rfl rfl rfl ⟨by simp only [fz.short, fz.short2, fz.sfin, bc6, bc29, bc32, bc34, cond_true, cond_false], H.tail⟩
  ·
   have c29 := bc29
   have c29 := of_decide_eq_false c29
   refine wp_seq ?_
   refine c_region ?_
   refine l_mv 3 S rfl ?_; clear S a; intro a S
   refine l_pure S (p_sub (r := ((-1085) - e)) rfl rfl (IntWalk.i64_in _ (by omega))) rfl rfl rfl ?_; clear S a; intro a S
   refine l_pure S (p_add (r := (11 + ((-1085) - e))) rfl rfl (IntWalk.i64_in _ (by omega))) rfl rfl rfl ?_; clear S a; intro a S
   refine l_mv 1 S rfl ?_; clear S a; intro a S
   refine l_nil ?_
   refine e_then ?_
   refine wp_seq ?_
   refine c_region ?_
   refine l_mv 2 S rfl ?_; clear S a; intro a S
   refine l_pure S (p_add (r := (e + (11 + ((-1085) - e)))) rfl rfl (IntWalk.i64_in _ (by omega))) rfl rfl rfl ?_; clear S a; intro a S
   have hcon := sm.lg10_ wb _ B _ (e + (11 + ((-1085) - e))) (by omega) H
   refine l_call S rfl rfl Tryz.func51 rfl rfl (hcon) rfl rfl rfl ?_
   rintro e w ⟨rfl, hH⟩
   refine ⟨_, rfl, ?_⟩; clear S a; intro a S
   clear H hcon; have H := hH; clear hH
   have hbd := fz.lg10_bd (x := (e + (11 + ((-1085) - e)))) (by omega)
   refine l_pure S (p_un rfl (fun w => fz.neg64 (by omega) w)) rfl rfl rfl ?_; clear S a; intro a S
   refine l_mv 1 S rfl ?_; clear S a; intro a S
   refine l_nil ?_
   refine e_then ?_
   refine wp_seq ?_
   refine c_region ?_
   refine l_mv 2 S rfl ?_; clear S a; intro a S
   refine l_pure S (p_sub (r := ((11 + ((-1085) - e)) - 1)) rfl rfl (IntWalk.i64_in _ (by omega))) rfl rfl rfl ?_; clear S a; intro a S
   refine l_pure S (p_shl rfl rfl (by omega) (shl64 1#64 (n := (((11 + ((-1085) - e)) - 1)).toNat) (by omega) (by omega))) rfl rfl rfl ?_; clear S a; intro a S
   refine l_pure S (p_sub rfl rfl (sub64 m (1#64 <<< (((11 + ((-1085) - e)) - 1)).toNat))) rfl rfl rfl ?_; clear S a; intro a S
   refine l_mv 1 S rfl ?_; clear S a; intro a S
   refine l_nil ?_
   refine e_then ?_
   refine wp_seq ?_
   refine c_region ?_
   refine l_mv 2 S rfl ?_; clear S a; intro a S
   refine l_pure S (p_sub (r := ((11 + ((-1085) - e)) - 1)) rfl rfl (IntWalk.i64_in _ (by omega))) rfl rfl rfl ?_; clear S a; intro a S
   refine l_pure S (p_shl rfl rfl (by omega) (shl64 1#64 (n := (((11 + ((-1085) - e)) - 1)).toNat) (by omega) (by omega))) rfl rfl rfl ?_; clear S a; intro a S
   refine l_pure S (p_add rfl rfl (add64 m (1#64 <<< (((11 + ((-1085) - e)) - 1)).toNat))) rfl rfl rfl ?_; clear S a; intro a S
   refine l_mv 1 S rfl ?_; clear S a; intro a S
   refine l_nil ?_
   refine e_then ?_
   refine c_region ?_
   refine l_mv 2 S rfl ?_; clear S a; intro a S
   refine l_pure S (p_shr rfl rfl (by omega) (shr64 m (n := ((11 + ((-1085) - e))).toNat) (by omega) (by omega))) rfl rfl rfl ?_; clear S a; intro a S
   have hsr := fz.shr_le m (z := (11 + (-1085 - e)).toNat) (by omega)
   refine l_pure S (p_conv rfl (fun w => cv_int (Tryz.underlying107) (Tryz.underlying3) (fz.toI64 (x := (m >>> ((11 + ((-1085) - e))).toNat)) (by omega)))) rfl rfl rfl ?_; clear S a; intro a S
   refine l_pure S (p_and rfl rfl (nat_mask 1 (by decide) (x := (((m >>> ((11 + ((-1085) - e))).toNat)).toNat)) (by omega) rfl)) rfl rfl rfl ?_; clear S a; intro a S
   refine l_mv 1 S rfl ?_; clear S a; intro a S
   refine l_nil ?_
   refine e_then ?_
   refine wp_seq ?_
   refine c_region ?_
   refine l_alloc (cs := #[.int .u64 0, .int .u64 0, .int .i64 0]) S H rfl (fun w => al zv170) rfl rfl rfl ?_; clear S a H; intro g35 w a H S
   refine l_nil ?_
   refine e_then ?_
   refine wp_seq ?_
   refine c_region ?_
   refine l_mv 3 S rfl ?_; clear S a; intro a S
   obtain ⟨hp, hs⟩ := fz.ok3 (e := e) (by omega)
   have hlb := fz.lg2_bd (x := (-(fz.lg10 (e + (11 + ((-1085) - e)))))) (by omega)
   have hcon := sm.lg2_ wb _ B _ (-(fz.lg10 (e + (11 + ((-1085) - e))))) (by omega) H
   refine l_call S rfl rfl Tryz.func62 rfl rfl (hcon) rfl rfl rfl ?_
   rintro e w ⟨rfl, hH⟩
   refine ⟨_, rfl, ?_⟩; clear S a; intro a S
   clear H hcon; have H := hH; clear hH
   have hcon := sm.prescale_ wb _ B _ hT g35 e (-(fz.lg10 (e + (11 + ((-1085) - e))))) (fz.lg2 (-(fz.lg10 (e + (11 + ((-1085) - e)))))) (by omega) hp (by omega) H
   refine l_call S rfl rfl Tryz.func61 rfl rfl (hcon) rfl rfl rfl ?_
   rintro e w ⟨rfl, hH⟩
   refine ⟨_, rfl, ?_⟩; clear S a; intro a S
   clear H hcon; have H := hH; clear hH
   rw [← Int.toNat_of_nonneg (show 0 ≤ -(e + (fz.lg2 (-(fz.lg10 (e + (11 + ((-1085) - e)))))) + 3) by omega)] at H
   refine l_nil ?_
   refine e_then ?_
   refine wp_seq ?_
   refine c_region ?_
   refine l_mv 1 S rfl ?_; clear S a; intro a S
   have hcon := sm.uscale_ wb _ B _ g35 (m - (1#64 <<< (((11 + ((-1085) - e)) - 1)).toNat)) (fz.pHi (-(fz.lg10 (e + (11 + ((-1085) - e)))))) (fz.pLo (-(fz.lg10 (e + (11 + ((-1085) - e)))))) ((-(e + (fz.lg2 (-(fz.lg10 (e + (11 + ((-1085) - e)))))) + 3)).toNat) (by omega) H
   refine l_call S rfl rfl Tryz.func63 rfl rfl (hcon) rfl rfl rfl ?_
   rintro e w ⟨rfl, hH⟩
   refine ⟨_, rfl, ?_⟩; clear S a; intro a S
   clear H hcon; have H := hH; clear hH
   refine l_mv 1 S rfl ?_; clear S a; intro a S
   have hcon := sm.nudge_ wb _ B _ (fz.usc (m - (1#64 <<< (((11 + ((-1085) - e)) - 1)).toNat)) (fz.pHi (-(fz.lg10 (e + (11 + ((-1085) - e)))))) (fz.pLo (-(fz.lg10 (e + (11 + ((-1085) - e)))))) ((-(e + (fz.lg2 (-(fz.lg10 (e + (11 + ((-1085) - e)))))) + 3)).toNat % 64)) ((((((m >>> ((11 + ((-1085) - e))).toNat)).toNat) % 2) : Nat) : Int) H
   refine l_call S rfl rfl Tryz.func64 rfl rfl (hcon) rfl rfl rfl ?_
   rintro e w ⟨rfl, hH⟩
   refine ⟨_, rfl, ?_⟩; clear S a; intro a S
   clear H hcon; have H := hH; clear hH
   have hcon := sm.ceil_ wb _ B _ (fz.nudge (fz.usc (m - (1#64 <<< (((11 + ((-1085) - e)) - 1)).toNat)) (fz.pHi (-(fz.lg10 (e + (11 + ((-1085) - e)))))) (fz.pLo (-(fz.lg10 (e + (11 + ((-1085) - e)))))) ((-(e + (fz.lg2 (-(fz.lg10 (e + (11 + ((-1085) - e)))))) + 3)).toNat % 64)) ((((((m >>> ((11 + ((-1085) - e))).toNat)).toNat) % 2) : Nat) : Int)) H
   refine l_call S rfl rfl Tryz.func65 rfl rfl (hcon) rfl rfl rfl ?_
   rintro e w ⟨rfl, hH⟩
   refine ⟨_, rfl, ?_⟩; clear S a; intro a S
   clear H hcon; have H := hH; clear hH
   refine l_mv 1 S rfl ?_; clear S a; intro a S
   refine l_nil ?_
   refine e_then ?_
   refine wp_seq ?_
   refine c_region ?_
   refine l_mv 1 S rfl ?_; clear S a; intro a S
   have hcon := sm.uscale_ wb _ B _ g35 (m + (1#64 <<< (((11 + ((-1085) - e)) - 1)).toNat)) (fz.pHi (-(fz.lg10 (e + (11 + ((-1085) - e)))))) (fz.pLo (-(fz.lg10 (e + (11 + ((-1085) - e)))))) ((-(e + (fz.lg2 (-(fz.lg10 (e + (11 + ((-1085) - e)))))) + 3)).toNat) (by omega) H
   refine l_call S rfl rfl Tryz.func63 rfl rfl (hcon) rfl rfl rfl ?_
   rintro e w ⟨rfl, hH⟩
   refine ⟨_, rfl, ?_⟩; clear S a; intro a S
   clear H hcon; have H := hH; clear hH
   refine l_mv 1 S rfl ?_; clear S a; intro a S
   refine l_pure S (p_un rfl (fun w => fz.neg64 (by omega) w)) rfl rfl rfl ?_; clear S a; intro a S
   have hcon := sm.nudge_ wb _ B _ (fz.usc (m + (1#64 <<< (((11 + ((-1085) - e)) - 1)).toNat)) (fz.pHi (-(fz.lg10 (e + (11 + ((-1085) - e)))))) (fz.pLo (-(fz.lg10 (e + (11 + ((-1085) - e)))))) ((-(e + (fz.lg2 (-(fz.lg10 (e + (11 + ((-1085) - e)))))) + 3)).toNat % 64)) (-((((((m >>> ((11 + ((-1085) - e))).toNat)).toNat) % 2) : Nat) : Int)) H
   refine l_call S rfl rfl Tryz.func64 rfl rfl (hcon) rfl rfl rfl ?_
   rintro e w ⟨rfl, hH⟩
   refine ⟨_, rfl, ?_⟩; clear S a; intro a S
   clear H hcon; have H := hH; clear hH
   have hcon := sm.floor_ wb _ B _ (fz.nudge (fz.usc (m + (1#64 <<< (((11 + ((-1085) - e)) - 1)).toNat)) (fz.pHi (-(fz.lg10 (e + (11 + ((-1085) - e)))))) (fz.pLo (-(fz.lg10 (e + (11 + ((-1085) - e)))))) ((-(e + (fz.lg2 (-(fz.lg10 (e + (11 + ((-1085) - e)))))) + 3)).toNat % 64)) (-((((((m >>> ((11 + ((-1085) - e))).toNat)).toNat) % 2) : Nat) : Int))) H
   refine l_call S rfl rfl Tryz.func66 rfl rfl (hcon) rfl rfl rfl ?_
   rintro e w ⟨rfl, hH⟩
   refine ⟨_, rfl, ?_⟩; clear S a; intro a S
   clear H hcon; have H := hH; clear hH
   refine l_mv 1 S rfl ?_; clear S a; intro a S
   refine l_nil ?_
   refine e_then ?_
   refine wp_seq ?_
   refine wp_seq ?_
   refine c_region ?_
   refine l_mv 1 S rfl ?_; clear S a; intro a S
   refine l_pure S (p_quo rfl rfl (by decide) (fz.quo64 (fz.floor (fz.nudge (fz.usc (m + (1#64 <<< (((11 + ((-1085) - e)) - 1)).toNat)) (fz.pHi (-(fz.lg10 (e + (11 + ((-1085) - e)))))) (fz.pLo (-(fz.lg10 (e + (11 + ((-1085) - e)))))) ((-(e + (fz.lg2 (-(fz.lg10 (e + (11 + ((-1085) - e)))))) + 3)).toNat % 64)) (-((((((m >>> ((11 + ((-1085) - e))).toNat)).toNat) % 2) : Nat) : Int)))) 10#64)) rfl rfl rfl ?_; clear S a; intro a S
   refine l_mv 1 S rfl ?_; clear S a; intro a S
   refine l_nil ?_
   refine e_then ?_
   refine wp_seq ?_
   refine c_region ?_
   refine l_mv 1 S rfl ?_; clear S a; intro a S
   refine l_pure S (p_mul rfl rfl (mul64 ((fz.floor (fz.nudge (fz.usc (m + (1#64 <<< (((11 + ((-1085) - e)) - 1)).toNat)) (fz.pHi (-(fz.lg10 (e + (11 + ((-1085) - e)))))) (fz.pLo (-(fz.lg10 (e + (11 + ((-1085) - e)))))) ((-(e + (fz.lg2 (-(fz.lg10 (e + (11 + ((-1085) - e)))))) + 3)).toNat % 64)) (-((((((m >>> ((11 + ((-1085) - e))).toNat)).toNat) % 2) : Nat) : Int)))) / 10#64) 10#64)) rfl rfl rfl ?_; clear S a; intro a S
   refine l_mv 1 S rfl ?_; clear S a; intro a S
   refine l_pure S (p_geq rfl rfl) rfl rfl rfl ?_; clear S a; intro a S
   refine l_nil ?_
   refine e_then ?_
   refine c_cond S rfl (fun bc37 => ?_) (fun bc37 => ?_)
   ·
    have c37 := bc37
    have c37 := of_decide_eq_true c37
    refine wp_seq ?_
    refine c_region ?_
    refine l_mv 2 S rfl ?_; clear S a; intro a S
    refine l_pure S (p_sub (r := ((-(fz.lg10 (e + (11 + ((-1085) - e))))) - 1)) rfl rfl (IntWalk.i64_in _ (by omega))) rfl rfl rfl ?_; clear S a; intro a S
    refine l_pure S (p_un rfl (fun w => fz.neg64 (by omega) w)) rfl rfl rfl ?_; clear S a; intro a S
    refine l_mv 2 S rfl ?_; clear S a; intro a S
    refine l_nil ?_
    refine e_then ?_
    refine wp_ret ?_
    refine e_then_ret ?_
    exact r_ret2 S rfl rfl rfl ⟨by simp only [fz.short, fz.short2, fz.sfin, bc6, bc29, bc37, cond_true, cond_false], H.tail⟩
   ·
    have c37 := bc37
    have c37 := of_decide_eq_false c37
    refine wp_skip ?_
    refine e_then ?_
    refine wp_seq ?_
    refine wp_seq ?_
    refine c_region ?_
    refine l_mv 2 S rfl ?_; clear S a; intro a S
    refine l_nil ?_
    refine e_then ?_
    refine wp_seq ?_
    refine c_region ?_
    refine l_mv 2 S rfl ?_; clear S a; intro a S
    refine l_pure S (p_lss rfl rfl) rfl rfl rfl ?_; clear S a; intro a S
    refine l_nil ?_
    refine e_then ?_
    refine c_cond S rfl (fun bc39 => ?_) (fun bc39 => ?_)
    ·
     have c39 := bc39
     have c39 := of_decide_eq_true c39
     refine c_region ?_
     refine l_mv 1 S rfl ?_; clear S a; intro a S
     have hcon := sm.uscale_ wb _ B _ g35 m (fz.pHi (-(fz.lg10 (e + (11 + ((-1085) - e)))))) (fz.pLo (-(fz.lg10 (e + (11 + ((-1085) - e)))))) ((-(e + (fz.lg2 (-(fz.lg10 (e + (11 + ((-1085) - e)))))) + 3)).toNat) (by omega) H
     refine l_call S rfl rfl Tryz.func63 rfl rfl (hcon) rfl rfl rfl ?_
     rintro e w ⟨rfl, hH⟩
     refine ⟨_, rfl, ?_⟩; clear S a; intro a S
     clear H hcon; have H := hH; clear hH
     have hcon := sm.rnd_ wb _ B _ (fz.usc m (fz.pHi (-(fz.lg10 (e + (11 + ((-1085) - e)))))) (fz.pLo (-(fz.lg10 (e + (11 + ((-1085) - e)))))) ((-(e + (fz.lg2 (-(fz.lg10 (e + (11 + ((-1085) - e)))))) + 3)).toNat % 64)) H
     refine l_call S rfl rfl Tryz.func67 rfl rfl (hcon) rfl rfl rfl ?_
     rintro e w ⟨rfl, hH⟩
     refine ⟨_, rfl, ?_⟩; clear S a; intro a S
     clear H hcon; have H := hH; clear hH
     refine l_mv 1 S rfl ?_; clear S a; intro a S
     refine l_nil ?_
     refine e_then ?_
     refine wp_seq ?_
     refine c_region ?_
     refine l_mv 2 S rfl ?_; clear S a; intro a S
     refine l_pure S (p_un rfl (fun w => fz.neg64 (by omega) w)) rfl rfl rfl ?_; clear S a; intro a S
     refine l_mv 2 S rfl ?_; clear S a; intro a S
     refine l_nil ?_
     refine e_then ?_
     refine wp_ret ?_
     exact r_ret2 S rfl rfl rfl ⟨by simp only [fz.short, fz.short2, fz.sfin, bc6, bc29, bc37, bc39, cond_true, cond_false], H.tail⟩
    ·
     have c39 := bc39
     have c39 := of_decide_eq_false c39
     refine wp_skip ?_
     refine e_then ?_
     refine wp_seq ?_
     refine c_region ?_
     refine l_mv 2 S rfl ?_; clear S a; intro a S
     refine l_pure S (p_un rfl (fun w => fz.neg64 (by omega) w)) rfl rfl rfl ?_; clear S a; intro a S
     refine l_mv 2 S rfl ?_; clear S a; intro a S
     refine l_nil ?_
     refine e_then ?_
     refine wp_ret ?_
     exact r_ret2 S rfl rfl rfl ⟨by simp only [fz.short, fz.short2, fz.sfin, bc6, bc29, bc37, bc39, cond_true, cond_false], H.tail⟩
end sh
end Go.Proofs.YtfbfmcjjohiikaaGreatDoor.fz
end
section
namespace Go.Proofs
open Go.RowKit Go.Shelf Go.Lib
def Tryz.blays283_ren : Go.Shelf.Ren := ⟨fun | 283 => 78 | n => n, fun | 3 => 3 | 9 => 9 | 4 => 4 | n => n, fun | n => n⟩
theorem Tryz.blays283 : Go.Proofs.Lays.n283 Tryz.prog Tryz.blays283_ren := {
  mixed := by kernel_rfl
  f283 := Tryz.func78.trans (congrArg some (by kernel_rfl))
  t3 := Tryz.underlying3
  a3 := Tryz.isAgg3
  z3 := Tryz.sizeOf3
  v3 := Tryz.zeroValue3
  t4 := Tryz.underlying4
  a4 := Tryz.isAgg4
  z4 := Tryz.sizeOf4
  v4 := Tryz.zeroValue4
  t9 := Tryz.underlying9
  a9 := Tryz.isAgg9
  z9 := Tryz.sizeOf9
  v9 := Tryz.zeroValue9 }
def Tryz.blays284_ren : Go.Shelf.Ren := ⟨fun | 284 => 50 | 129 => 47 | 317 => 51 | 318 => 69 | n => n, fun | 53 => 107 | 3 => 3 | 212 => 179 | 0 => 0 | 4 => 4 | 46 => 167 | 5 => 5 | 9 => 9 | n => n, fun | 17 => 2 | n => n⟩
theorem Tryz.blays284 : Go.Proofs.LaysM.n284 Tryz.prog Tryz.blays284_ren := {
  mixed := by kernel_rfl
  f129 := Tryz.func47.trans (congrArg some (by kernel_rfl))
  f284 := Tryz.func50.trans (congrArg some (by kernel_rfl))
  f317 := Tryz.func51.trans (congrArg some (by kernel_rfl))
  f318 := Tryz.func69.trans (congrArg some (by kernel_rfl))
  t0 := Tryz.underlying0
  a0 := Tryz.isAgg0
  z0 := Tryz.sizeOf0
  v0 := Tryz.zeroValue0
  t3 := Tryz.underlying3
  a3 := Tryz.isAgg3
  z3 := Tryz.sizeOf3
  v3 := Tryz.zeroValue3
  t4 := Tryz.underlying4
  a4 := Tryz.isAgg4
  z4 := Tryz.sizeOf4
  v4 := Tryz.zeroValue4
  t5 := Tryz.underlying5
  a5 := Tryz.isAgg5
  z5 := Tryz.sizeOf5
  v5 := Tryz.zeroValue5
  t9 := Tryz.underlying9
  a9 := Tryz.isAgg9
  z9 := Tryz.sizeOf9
  v9 := Tryz.zeroValue9
  t46 := Tryz.underlying167
  a46 := Tryz.isAgg167
  z46 := Tryz.sizeOf167
  v46 := Tryz.zeroValue167
  t53 := Tryz.underlying107
  a53 := Tryz.isAgg107
  z53 := Tryz.sizeOf107
  v53 := Tryz.zeroValue107
  t212 := Tryz.underlying179
  a212 := Tryz.isAgg179
  z212 := Tryz.sizeOf179
  v212 := Tryz.zeroValue179
  g17 := by kernel_rfl
  i0 := by kernel_rfl
  i3 := by kernel_rfl
  i4 := by kernel_rfl
  i5 := by kernel_rfl
  i9 := by kernel_rfl
  i46 := by kernel_rfl
  i53 := by kernel_rfl
  i212 := by kernel_rfl
  m17 := by kernel_rfl }
def Tryz.blays285_ren : Go.Shelf.Ren := ⟨fun | 285 => 68 | n => n, fun | 37 => 34 | 53 => 107 | 3 => 3 | 4 => 4 | 51 => 145 | 9 => 9 | 5 => 5 | 0 => 0 | n => n, fun | n => n⟩
theorem Tryz.blays285 : Go.Proofs.Lays.n285 Tryz.prog Tryz.blays285_ren := {
  mixed := by kernel_rfl
  f285 := Tryz.func68.trans (congrArg some (by kernel_rfl))
  t0 := Tryz.underlying0
  a0 := Tryz.isAgg0
  z0 := Tryz.sizeOf0
  v0 := Tryz.zeroValue0
  t3 := Tryz.underlying3
  a3 := Tryz.isAgg3
  z3 := Tryz.sizeOf3
  v3 := Tryz.zeroValue3
  t4 := Tryz.underlying4
  a4 := Tryz.isAgg4
  z4 := Tryz.sizeOf4
  v4 := Tryz.zeroValue4
  t5 := Tryz.underlying5
  a5 := Tryz.isAgg5
  z5 := Tryz.sizeOf5
  v5 := Tryz.zeroValue5
  t9 := Tryz.underlying9
  a9 := Tryz.isAgg9
  z9 := Tryz.sizeOf9
  v9 := Tryz.zeroValue9
  t37 := Tryz.underlying34
  a37 := Tryz.isAgg34
  z37 := Tryz.sizeOf34
  v37 := Tryz.zeroValue34
  t51 := Tryz.underlying145
  a51 := Tryz.isAgg145
  z51 := Tryz.sizeOf145
  v51 := Tryz.zeroValue145
  t53 := Tryz.underlying107
  a53 := Tryz.isAgg107
  z53 := Tryz.sizeOf107
  v53 := Tryz.zeroValue107 }
def Tryz.blays290_ren : Go.Shelf.Ren := ⟨fun | 290 => 161 | 324 => 162 | n => n, fun | 37 => 34 | 3 => 3 | 0 => 0 | 4 => 4 | 20 => 20 | 75 => 44 | 5 => 5 | 80 => 49 | 9 => 9 | n => n, fun | 14 => 8 | n => n⟩
theorem Tryz.blays290 : Go.Proofs.LaysM.n290 Tryz.prog Tryz.blays290_ren := {
  mixed := by kernel_rfl
  f290 := Tryz.func161.trans (congrArg some (by kernel_rfl))
  f324 := Tryz.func162.trans (congrArg some (by kernel_rfl))
  t0 := Tryz.underlying0
  a0 := Tryz.isAgg0
  z0 := Tryz.sizeOf0
  v0 := Tryz.zeroValue0
  t3 := Tryz.underlying3
  a3 := Tryz.isAgg3
  z3 := Tryz.sizeOf3
  v3 := Tryz.zeroValue3
  t4 := Tryz.underlying4
  a4 := Tryz.isAgg4
  z4 := Tryz.sizeOf4
  v4 := Tryz.zeroValue4
  t20 := Tryz.underlying20
  a20 := Tryz.isAgg20
  z20 := Tryz.sizeOf20
  v20 := Tryz.zeroValue20
  t37 := Tryz.underlying34
  a37 := Tryz.isAgg34
  z37 := Tryz.sizeOf34
  v37 := Tryz.zeroValue34
  t75 := Tryz.underlying44
  a75 := Tryz.isAgg44
  z75 := Tryz.sizeOf44
  v75 := Tryz.zeroValue44
  g14 := by kernel_rfl
  t5 := Tryz.underlying5
  a5 := Tryz.isAgg5
  z5 := Tryz.sizeOf5
  v5 := Tryz.zeroValue5
  t9 := Tryz.underlying9
  a9 := Tryz.isAgg9
  z9 := Tryz.sizeOf9
  v9 := Tryz.zeroValue9
  t80 := Tryz.underlying49
  a80 := Tryz.isAgg49
  z80 := Tryz.sizeOf49
  v80 := Tryz.zeroValue49
  i0 := by kernel_rfl
  i3 := by kernel_rfl
  i4 := by kernel_rfl
  i5 := by kernel_rfl
  i9 := by kernel_rfl
  i20 := by kernel_rfl
  i37 := by kernel_rfl
  i75 := by kernel_rfl
  i80 := by kernel_rfl
  m14 := by kernel_rfl }
namespace YtfbfmcjjohiikaaGreatDoor.wr.li
open Go.Proofs.HHW Go.Proofs.YtfbfmcjjohiikaaGreatDoorW.PrintWords
theorem small_ (i : Nat) (h : i < 100) (w : World) : Calls Tryz.prog 78 #[.int .i64 (i : Int)] w fun e w' => e = .returned (.string ⟨(Lib.decDigits i).toArray⟩) ∧ w' = w := Any.internal_strconv_small Tryz.blays283 i h w
theorem nd_ (u : Nat) (h1 : 1 ≤ u) (h2 : u < 18446744073709551616) (w : World) (ht : Lib.TabIs Tryz.prog w "internal/strconv.uint64pow10" .u64 Lib.pow10Tab) : Calls Tryz.prog 50 #[.int .u64 (u : Int)] w fun e w' => e = .returned (.int .i64 (Lib.nDigits u : Int)) ∧ w' = w := Any.internal_strconv_numDigits Tryz.blays284 u h1 h2 w ht
theorem fmt_ {B : Nat} {w0 w : World} {L : List (Nat × Obj)} {g off c u : Nat} {cs : Array Value} {t : TypeId} (H : HH B w0 w ((g, .cells cs t (0, 0)) :: L)) (hz : ∀ j, j < Lib.nDigits u → cs[off + j]? = some (Value.int .u8 0)) (hs : off + Lib.nDigits u ≤ cs.size) (hu64 : u < 18446744073709551616) (hc : Lib.nDigits u ≤ 20) :
  Calls Tryz.prog 68 #[.slice (some ⟨g, off, none⟩) (Lib.nDigits u) c, .int .u64 (u : Int)] w fun e w' => e = .returned (.tuple #[]) ∧ HH B w0 w' ((g, .cells (spl cs off ((wq.dec u).map (Value.int .u8))) t (0, 0)) :: L) := by
 have hat := H.at_ (g, Obj.cells cs t (0, 0)) List.mem_cons_self
 simp only at hat
 have hcon := Any.internal_strconv_formatBase10 Tryz.blays285 g off c u (Array.replicate (Lib.nDigits u) 0) w (fun j hj => by
  rw [Array.size_replicate] at hj
  refine ⟨?_, by simp [World.frozen?, hat]⟩
  simp only [World.cell?, hat]
  rw [hz j hj, getElem!_pos _ j (by simpa using hj)]
  simp) (by rw [Array.size_replicate]; exact Lib.lt_pow_nDigits u) hu64 (by rw [Array.size_replicate]; omega)
 rw [Array.size_replicate] at hcon
 refine hcon.mono ?_
 rintro e w' ⟨rfl, n, v', dk, rfl, hf⟩
 refine ⟨rfl, ?_⟩
 rw [← wq.fmt_row hf]
 exact H.putRow (by rw [hf.size]; exact hs)
theorem grow_row {B : Nat} {w0 w : World} {L : List (Nat × Obj)} {g c n : Nat} {cs : Array Value} {l : List Int} (H : HH B w0 w L) (hm : (g, Obj.cells cs 5 (0, 0)) ∈ L) (hc : cs.size = c) (hlc : l.length ≤ c) (hrow : bf.Row cs 0 l) (hn : 1 ≤ n) (hlim : l.length + n ≤ 140737488355328) (hcc : c ≤ 140737488355328) :
  Calls Tryz.prog 161 #[.slice (some ⟨g, 0, none⟩) l.length c, .int .i64 (n : Int)] w fun e w' => ∃ g' c' cs', e = .returned (.slice (some ⟨g', 0, none⟩) l.length c') ∧ HH B w0 w' ((g', .cells cs' 5 (0, 0)) :: L) ∧ cs'.size = c' ∧ bf.Row cs' 0 l ∧ l.length + n ≤ c' ∧ c' ≤ 9223372036854775807 := by
 have hcon := Any.bytes_growSlice_row Tryz.blays290 g l.length c n cs w (H.at_ _ hm) hc hlc hn hlim hcc (wq.one_row hrow (by omega))
 refine hcon.mono ?_
 rintro e w' ⟨c', cs', rfl, h1, h2, h3, h4, h5, hb⟩
 exact ⟨_, c', cs', rfl, H.push hb h1, h2, wq.row_of_list (by rw [h3]; exact wq.row_list hrow (by omega)), h4, h5⟩
theorem grow_nil {B : Nat} {w0 w : World} {L : List (Nat × Obj)} {n : Nat} (H : HH B w0 w L) (hn : 1 ≤ n) (hlim : n ≤ 140737488355328) :
  Calls Tryz.prog 161 #[.slice none 0 0, .int .i64 (n : Int)] w fun e w' => ∃ g' c' cs', e = .returned (.slice (some ⟨g', 0, none⟩) 0 c') ∧ HH B w0 w' ((g', .cells cs' 5 (0, 0)) :: L) ∧ cs'.size = c' ∧ n ≤ c' ∧ c' ≤ 9223372036854775807 := by
 have hcon := Any.bytes_growSlice_nil Tryz.blays290 n w hn hlim
 refine hcon.mono ?_
 rintro e w' ⟨c', cs', rfl, h1, h2, h4, h5, hb⟩
 exact ⟨_, c', cs', rfl, H.push hb h1, h2, h4, h5⟩
end YtfbfmcjjohiikaaGreatDoor.wr.li
end Go.Proofs
end
section
namespace Go.Proofs.YtfbfmcjjohiikaaGreatDoor.fz
open Go.Proofs.YtfbfmcjjohiikaaGreatDoor.fx
open Go.RowKit Go.Proofs.HHW Go.Proofs.YtfbfmcjjohiikaaGreatDoorW.PrintWords
namespace sd
open Go.Lib
theorem nd00_ (wb w0 : World) (B : Nat) (L0 : List (Nat × Obj)) (ht : Lib.TabBelow Tryz.prog B wb "internal/strconv.uint64pow10" .u64 Lib.pow10Tab) (H : HH B wb w0 L0) : Calls Tryz.prog 50 #[.int .u64 0] w0 fun e w' => e = .returned (.int .i64 0) ∧ HH B wb w' L0 := by
 refine c_enter (args := [.int .u64 0]) (k := 14) Tryz.func50 rfl rfl rfl (fun a S => ?_)
 refine wp_seq ?_
 refine c_region ?_
 refine l_mv 1 S rfl ?_; clear S a; intro a S
 refine l_nil ?_
 refine e_then ?_
 refine wp_seq ?_
 refine c_region ?_
 refine l_mv 1 S rfl ?_; clear S a; intro a S
 have hcon : Calls Tryz.prog 47 #[.int .u64 0] _ fun e w' => e = .returned (.int .i64 0) ∧ HH B wb w' L0 := (li.len64_ 0#64 _).mono (fun e w' h => ⟨h.1, h.2 ▸ H⟩)
 refine l_call S rfl rfl Tryz.func47 rfl rfl (hcon) rfl rfl rfl ?_
 rintro e w ⟨rfl, hH⟩
 refine ⟨_, rfl, ?_⟩; clear S a; intro a S
 clear H hcon; have H := hH; clear hH
 have hcon : Calls Tryz.prog 51 #[.int .i64 0] _ fun e w' => e = .returned (.int .i64 0) ∧ HH B wb w' L0 := sm.lg10_ wb _ B L0 0 (by decide) H
 refine l_call S rfl rfl Tryz.func51 rfl rfl (hcon) rfl rfl rfl ?_
 rintro e w ⟨rfl, hH⟩
 refine ⟨_, rfl, ?_⟩; clear S a; intro a S
 clear H hcon; have H := hH; clear hH
 refine l_mv 1 S rfl ?_; clear S a; intro a S
 refine l_nil ?_
 refine e_then ?_
 refine wp_seq ?_
 refine c_region ?_
 refine l_mv 3 S rfl ?_; clear S a; intro a S
 refine l_pure S (p_indexAddr rfl rfl (fun w => ia_array Tryz.underlying179 sz107 (by decide) (by decide))) rfl rfl rfl ?_; clear S a; intro a S
 refine l_read S H (r_loads rfl fun w H => ld1 ag107 (by have := (ht w H.below).cell (g := 2) (by kernel_rfl) 0 (by decide); exact this)) rfl rfl rfl ?_; clear S a; intro a S
 refine l_pure S (p_geq rfl rfl) rfl rfl rfl ?_; clear S a; intro a S
 have hcon : Calls Tryz.prog 69 #[.bool false] _ fun e w' => e = .returned (.int .i64 0) ∧ HH B wb w' L0 := sm.b2i_ wb _ B L0 false H
 refine l_call S rfl rfl Tryz.func69 rfl rfl (hcon) rfl rfl rfl ?_
 rintro e w ⟨rfl, hH⟩
 refine ⟨_, rfl, ?_⟩; clear S a; intro a S
 clear H hcon; have H := hH; clear hH
 refine l_pure S (p_add (r := 0) rfl rfl (by decide)) rfl rfl rfl ?_; clear S a; intro a S
 refine l_mv 1 S rfl ?_; clear S a; intro a S
 refine l_nil ?_
 refine e_then ?_
 refine wp_ret ?_
 exact r_ret1 S rfl rfl ⟨rfl, H⟩
theorem nd_ (wb w0 : World) (B : Nat) (L0 : List (Nat × Obj)) (ht : Lib.TabBelow Tryz.prog B wb "internal/strconv.uint64pow10" .u64 Lib.pow10Tab) (u : Nat) (hu : u < 18446744073709551616) (H : HH B wb w0 L0) : Calls Tryz.prog 50 #[.int .u64 (u : Int)] w0 fun e w' => e = .returned (.int .i64 (fz.nd0 u : Int)) ∧ HH B wb w' L0 := by
 by_cases h : u = 0
 ·
  subst h
  exact nd00_ wb w0 B L0 ht H
 ·
  refine (wr.li.nd_ u (by omega) hu w0 (ht w0 H.below)).mono ?_
  rintro e w' ⟨rfl, rfl⟩
  refine ⟨?_, H⟩
  unfold fz.nd0
  rw [if_neg h]
theorem fb_ (wb w0 : World) (B : Nat) (L0 : List (Nat × Obj)) (g off c u : Nat) (cs : Array Value) (t : TypeId) (hz : ∀ j, j < fz.nd0 u → cs[off + j]? = some (Value.int .u8 0)) (hs : off + fz.nd0 u ≤ cs.size) (hu : u < 18446744073709551616) (H : HH B wb w0 ((g, .cells cs t (0, 0)) :: L0)) :
  Calls Tryz.prog 68 #[.slice (some ⟨g, off, none⟩) (fz.nd0 u) c, .int .u64 (u : Int)] w0 fun e w' => e = .returned (.tuple #[]) ∧ HH B wb w' ((g, .cells (spl cs off ((fz.dg0 u).map (Value.int .u8))) t (0, 0)) :: L0) := by
 by_cases h : u = 0
 ·
  subst h
  have hcon := Any.internal_strconv_formatBase10 Tryz.blays285 g off c 0 #[] w0 (fun j hj => by simp at hj) (by decide) hu (by decide)
  refine hcon.mono ?_
  rintro e w' ⟨rfl, n, v', dk, rfl, hf⟩
  refine ⟨rfl, ?_⟩
  have h0 : dk = #[] := Array.eq_empty_of_size_eq_zero hf.size
  subst h0
  have := H.putRow (off := off) (d := #[]) (n := n) (by rw [show fz.nd0 0 = 0 from rfl] at hs; simpa using hs)
  exact this
 ·
  have e1 : fz.nd0 u = Lib.nDigits u := if_neg h
  have e2 : fz.dg0 u = wq.dec u := if_neg h
  rw [e1] at hz hs ⊢
  rw [e2]
  exact wr.li.fmt_ H hz hs hu (wq.nDigits_le (k := 19) (by omega))
theorem zeros32 {j : Nat} (h : j < 32) : (#[.int .u8 0, .int .u8 0, .int .u8 0, .int .u8 0, .int .u8 0, .int .u8 0, .int .u8 0, .int .u8 0, .int .u8 0, .int .u8 0, .int .u8 0, .int .u8 0, .int .u8 0, .int .u8 0, .int .u8 0, .int .u8 0, .int .u8 0, .int .u8 0, .int .u8 0, .int .u8 0, .int .u8 0, .int .u8 0, .int .u8 0, .int .u8 0, .int .u8 0, .int .u8 0, .int .u8 0, .int .u8 0, .int .u8 0, .int .u8 0, .int .u8 0, .int .u8 0] : Array Value)[j]? = some (Value.int .u8 0) := by
 have : (#[.int .u8 0, .int .u8 0, .int .u8 0, .int .u8 0, .int .u8 0, .int .u8 0, .int .u8 0, .int .u8 0, .int .u8 0, .int .u8 0, .int .u8 0, .int .u8 0, .int .u8 0, .int .u8 0, .int .u8 0, .int .u8 0, .int .u8 0, .int .u8 0, .int .u8 0, .int .u8 0, .int .u8 0, .int .u8 0, .int .u8 0, .int .u8 0, .int .u8 0, .int .u8 0, .int .u8 0, .int .u8 0, .int .u8 0, .int .u8 0, .int .u8 0, .int .u8 0] : Array Value) = Array.replicate 32 (Value.int .u8 0) := rfl
 rw [this, Array.getElem?_replicate, if_pos h]
theorem setd_ (wb w0 : World) (B : Nat) (L0 : List (Nat × Obj)) (gb u : Nat) (p : Int) (hp : -100000 ≤ p ∧ p ≤ 100000) (hu : u < 18446744073709551616) (H : HH B wb w0 ((gb, .cells #[.int .u8 0, .int .u8 0, .int .u8 0, .int .u8 0, .int .u8 0, .int .u8 0, .int .u8 0, .int .u8 0, .int .u8 0, .int .u8 0, .int .u8 0, .int .u8 0, .int .u8 0, .int .u8 0, .int .u8 0, .int .u8 0, .int .u8 0, .int .u8 0, .int .u8 0, .int .u8 0, .int .u8 0, .int .u8 0, .int .u8 0, .int .u8 0, .int .u8 0, .int .u8 0, .int .u8 0, .int .u8 0, .int .u8 0, .int .u8 0, .int .u8 0, .int .u8 0] 150 (0, 0)) :: L0)) : Calls Tryz.prog 49 #[.slice (some ⟨gb, 0, none⟩) 32 32, .int .u64 (u : Int), .int .i64 p, .int .i64 (fz.nd0 u : Int)] w0 fun e w' => e = .returned (.tuple #[.int .i64 ((fz.nd0 u : Int) + p), .int .i64 (fz.trz (fz.dg0 u) (fz.nd0 u) : Int)]) ∧ HH B wb w' ((gb, .cells (spl #[.int .u8 0, .int .u8 0, .int .u8 0, .int .u8 0, .int .u8 0, .int .u8 0, .int .u8 0, .int .u8 0, .int .u8 0, .int .u8 0, .int .u8 0, .int .u8 0, .int .u8 0, .int .u8 0, .int .u8 0, .int .u8 0, .int .u8 0, .int .u8 0, .int .u8 0, .int .u8 0, .int .u8 0, .int .u8 0, .int .u8 0, .int .u8 0, .int .u8 0, .int .u8 0, .int .u8 0, .int .u8 0, .int .u8 0, .int .u8 0, .int .u8 0, .int .u8 0] 0 ((fz.dg0 u).map (Value.int .u8))) 150 (0, 0)) :: L0) := by
 have hnl := fz.nd0_le hu
 refine c_enter (args := [.slice (some ⟨gb, 0, none⟩) 32 32, .int .u64 (u : Int), .int .i64 p, .int .i64 (fz.nd0 u : Int)]) (k := 32) Tryz.func49 rfl rfl rfl (fun a S => ?_)
 refine wp_seq ?_
 refine c_region ?_
 refine l_mv 2 S rfl ?_; clear S a; intro a S
 refine l_nil ?_
 refine e_then ?_
 refine wp_seq ?_
 refine wp_seq ?_
 refine c_region ?_
 refine l_mv 2 S rfl ?_; clear S a; intro a S
 refine l_pure S (p_len Tryz.underlying34 rfl) rfl rfl rfl ?_; clear S a; intro a S
 refine l_pure S (p_leq rfl rfl) rfl rfl rfl ?_; clear S a; intro a S
 refine l_nil ?_
 refine e_then ?_
 refine c_cond S rfl (fun c2 => ?_) (fun c2 => by have c2 := of_decide_eq_false c2; exfalso; omega)
 have c2 := of_decide_eq_true c2
 refine wp_seq ?_
 refine c_region ?_
 refine l_mv 2 S rfl ?_; clear S a; intro a S
 refine l_pure S (p_slice rfl (fun _ _ => o_none) (o_some rfl) (fun _ _ => o_none) (fun w => sl_hi (m := fz.nd0 u) Tryz.underlying34 sz5 rfl (by omega))) rfl rfl rfl ?_; clear S a; intro a S
 refine l_mv 1 S rfl ?_; clear S a; intro a S
 have hcon := fb_ wb _ B L0 gb 0 32 u #[.int .u8 0, .int .u8 0, .int .u8 0, .int .u8 0, .int .u8 0, .int .u8 0, .int .u8 0, .int .u8 0, .int .u8 0, .int .u8 0, .int .u8 0, .int .u8 0, .int .u8 0, .int .u8 0, .int .u8 0, .int .u8 0, .int .u8 0, .int .u8 0, .int .u8 0, .int .u8 0, .int .u8 0, .int .u8 0, .int .u8 0, .int .u8 0, .int .u8 0, .int .u8 0, .int .u8 0, .int .u8 0, .int .u8 0, .int .u8 0, .int .u8 0, .int .u8 0] 150 (fun j hj => by rw [Nat.zero_add]; exact zeros32 (by omega)) (by show 0 + fz.nd0 u ≤ 32; omega) hu H
 refine l_call S rfl rfl Tryz.func68 rfl rfl (hcon) rfl rfl rfl ?_
 rintro e w ⟨rfl, hH⟩
 refine ⟨_, rfl, ?_⟩; clear S a; intro a S
 clear H hcon; have H := hH; clear hH
 have hrow : bf.Row (spl #[.int .u8 0, .int .u8 0, .int .u8 0, .int .u8 0, .int .u8 0, .int .u8 0, .int .u8 0, .int .u8 0, .int .u8 0, .int .u8 0, .int .u8 0, .int .u8 0, .int .u8 0, .int .u8 0, .int .u8 0, .int .u8 0, .int .u8 0, .int .u8 0, .int .u8 0, .int .u8 0, .int .u8 0, .int .u8 0, .int .u8 0, .int .u8 0, .int .u8 0, .int .u8 0, .int .u8 0, .int .u8 0, .int .u8 0, .int .u8 0, .int .u8 0, .int .u8 0] 0 ((fz.dg0 u).map (Value.int .u8))) 0 (fz.dg0 u) := bf.row0_spl (by rw [fz.dg0_len]; show _ ≤ 32; omega)
 refine l_nil ?_
 refine e_then ?_
 refine wp_seq ?_
 refine c_region ?_
 refine l_mv 2 S rfl ?_; clear S a; intro a S
 refine l_pure S (p_add (r := ((((fz.nd0 u) : Nat) : Int) + p)) rfl rfl (IntWalk.i64_in _ (by omega))) rfl rfl rfl ?_; clear S a; intro a S
 refine l_mv 1 S rfl ?_; clear S a; intro a S
 refine l_nil ?_
 refine e_then ?_
 refine wp_block ?_
 have hdl := fz.dg0_len u
 refine c_loop (σ := Nat) (fun s_ a w => match s_ with | n => SL a 36 [] [(3, .int .i64 (n : Int)), (0, .slice (some ⟨gb, 0, none⟩) 32 32), (8, .int .i64 ((fz.nd0 u : Int) + p))] ∧ HH (B) wb w ((gb, .cells (spl #[.int .u8 0, .int .u8 0, .int .u8 0, .int .u8 0, .int .u8 0, .int .u8 0, .int .u8 0, .int .u8 0, .int .u8 0, .int .u8 0, .int .u8 0, .int .u8 0, .int .u8 0, .int .u8 0, .int .u8 0, .int .u8 0, .int .u8 0, .int .u8 0, .int .u8 0, .int .u8 0, .int .u8 0, .int .u8 0, .int .u8 0, .int .u8 0, .int .u8 0, .int .u8 0, .int .u8 0, .int .u8 0, .int .u8 0, .int .u8 0, .int .u8 0, .int .u8 0] 0 ((fz.dg0 u).map (Value.int .u8))) 150 (0, 0)) :: L0) ∧ (n ≤ fz.nd0 u ∧ fz.trz (fz.dg0 u) (fz.nd0 u) = fz.trz (fz.dg0 u) n)) (fun s_ => match s_ with | n => n) (fz.nd0 u) ⟨S.only ⟨rfl, rfl, rfl, trivial⟩, H, ⟨Nat.le_refl _, rfl⟩⟩ ?_
 clear S a H; rintro n a w ⟨S, H, hinv⟩
 obtain ⟨hn, htr⟩ := hinv
 refine wp_seq ?_
 refine wp_seq ?_
 refine c_region ?_
 refine l_mv 1 S rfl ?_; clear S a; intro a S
 refine l_pure S (p_gtr rfl rfl) rfl rfl rfl ?_; clear S a; intro a S
 refine l_mv 1 S rfl ?_; clear S a; intro a S
 refine l_split (S.of 24 rfl) (fun bc4 => ?_) (fun bc4 => ?_)
 ·
  have c4 := bc4
  have c4 := of_decide_eq_true c4
  refine l_on S rfl rfl rfl rfl bc4 ?_
  refine l_pure S (p_move rfl) rfl rfl rfl ?_; clear S a; intro a S
  refine l_on S rfl rfl rfl rfl bc4 ?_
  refine l_pure S (p_move rfl) rfl rfl rfl ?_; clear S a; intro a S
  refine l_on S rfl rfl rfl rfl bc4 ?_
  refine l_pure S (p_sub rfl rfl (nat_sub (x := n) (y := 1) (by omega) (by omega))) rfl rfl rfl ?_; clear S a; intro a S
  refine l_on S rfl rfl rfl rfl bc4 ?_
  refine l_pure S (p_indexAddr rfl rfl (fun w => ia_slice Tryz.underlying34 sz5 (by omega) (by omega))) rfl rfl rfl ?_; clear S a; intro a S
  refine l_on S rfl rfl rfl rfl bc4 ?_
  refine l_read S H (r_load rfl List.mem_cons_self (fz.row_cell hrow (i := n - 1) (by omega) (by omega)) (fun w hc => ld1 ag5 hc)) rfl rfl rfl ?_; clear S a; intro a S
  refine l_on S rfl rfl rfl rfl bc4 ?_
  refine l_pure S (p_eql rfl rfl) rfl rfl rfl ?_; clear S a; intro a S
  refine l_pure S (p_pick_t rfl bc4 rfl) rfl rfl rfl ?_; clear S a; intro a S
  refine l_nil ?_
  refine e_then ?_
  refine c_cond S rfl (fun bc6 => ?_) (fun bc6 => ?_)
  ·
   have c6 := bc6
   have c6 := eq_of_beq c6
   refine wp_skip ?_
   refine e_then ?_
   refine wp_block ?_
   refine c_region ?_
   refine l_mv 1 S rfl ?_; clear S a; intro a S
   refine l_pure S (p_sub rfl rfl (nat_sub (x := n) (y := 1) (by omega) (by omega))) rfl rfl rfl ?_; clear S a; intro a S
   refine l_mv 1 S rfl ?_; clear S a; intro a S
   refine l_nil ?_
   refine e_in 1 ?_
   refine e_then ?_
   exact ⟨(n - 1), ⟨S.only ⟨rfl, rfl, rfl, trivial⟩, H, ⟨by omega, by rw [htr, fz.trz_t (by omega) bc6]⟩⟩, by show n - 1 < n; omega⟩
  ·
   have c6 := bc6
   have c6 := ne_of_beq_false c6
   refine wp_exit ?_
   refine e_then_exit ?_
   refine e_then_exit ?_
   refine e_in_exit ?_
   refine e_then ?_
   refine wp_seq ?_
   refine c_region ?_
   refine l_mv 4 S rfl ?_; clear S a; intro a S
   refine l_nil ?_
   refine e_then ?_
   refine wp_ret ?_
   have htz : fz.trz (fz.dg0 u) (fz.nd0 u) = n := by rw [htr]; exact fz.trz_f (by omega) bc6
   rw [htz]; exact r_ret2 S rfl rfl rfl ⟨rfl, H⟩
 ·
  have c4 := bc4
  have c4 := of_decide_eq_false c4
  refine l_off S rfl rfl rfl rfl bc4 rfl rfl ?_; clear S a; intro a S
  refine l_off S rfl rfl rfl rfl bc4 rfl rfl ?_; clear S a; intro a S
  refine l_off S rfl rfl rfl rfl bc4 rfl rfl ?_; clear S a; intro a S
  refine l_off S rfl rfl rfl rfl bc4 rfl rfl ?_; clear S a; intro a S
  refine l_off S rfl rfl rfl rfl bc4 rfl rfl ?_; clear S a; intro a S
  refine l_off S rfl rfl rfl rfl bc4 rfl rfl ?_; clear S a; intro a S
  refine l_pure S (p_pick_f rfl bc4 rfl) rfl rfl rfl ?_; clear S a; intro a S
  refine l_nil ?_
  refine e_then ?_
  refine c_cond (b := false) S rfl (fun h => by cases h) (fun _ => ?_)
  refine wp_exit ?_
  refine e_then_exit ?_
  refine e_then_exit ?_
  refine e_in_exit ?_
  refine e_then ?_
  refine wp_seq ?_
  refine c_region ?_
  refine l_mv 4 S rfl ?_; clear S a; intro a S
  refine l_nil ?_
  refine e_then ?_
  refine wp_ret ?_
  have h0 : n = 0 := by omega
  subst h0
  have htz : fz.trz (fz.dg0 u) (fz.nd0 u) = 0 := htr
  rw [htz]; exact r_ret2 S rfl rfl rfl ⟨rfl, H⟩
end sd
end Go.Proofs.YtfbfmcjjohiikaaGreatDoor.fz
end
section
namespace Go.Proofs.YtfbfmcjjohiikaaGreatDoor.fz
open Go.Proofs.YtfbfmcjjohiikaaGreatDoor.fx
open Go.RowKit Go.Proofs.HHW Go.Proofs.YtfbfmcjjohiikaaGreatDoorW.PrintWords
namespace ef
set_option maxHeartbeats 1000000 in
theorem efgZ_t (wb w0 : World) (B : Nat) (L0 : List (Nat × Obj))  (A : Option Addr) (c : Nat) (l : List Int) (ow : List (Nat × Obj)) (hown : OwnB 5 (.slice A l.length c) l ow) (hl : l.length ≤ 100000000000000) (H : HH B wb w0 (ow ++ (L0))) : Calls Tryz.prog 46 #[.slice A l.length c, .bool true, .slice none 0 0, .int .i64 0, .int .i64 0, .int .i64 (-1), .int .u8 102, .bool true] w0 fun e w' => ∃ (A' : Option Addr) (c' : Nat) (ow' : List (Nat × Obj)), e = .returned (.slice A' (l ++ fz.fmtF true [] 0 0).length c') ∧ OwnB 5 (.slice A' (l ++ fz.fmtF true [] 0 0).length c') (l ++ fz.fmtF true [] 0 0) ow' ∧ HH B wb w' (ow' ++ (L0)) := by
 refine c_enter (args := [.slice A l.length c, .bool true, .slice none 0 0, .int .i64 0, .int .i64 0, .int .i64 (-1), .int .u8 102, .bool true]) (k := 264) Tryz.func46 rfl rfl rfl (fun a S => ?_)
 refine wp_seq ?_
 refine c_region ?_
 refine l_mv 1 S rfl ?_; clear S a; intro a S
 refine l_nil ?_
 refine e_then ?_
 refine wp_seq ?_
 refine wp_seq ?_
 refine c_region ?_
 refine l_mv 1 S rfl ?_; clear S a; intro a S
 refine l_pure S (p_eql rfl rfl) rfl rfl rfl ?_; clear S a; intro a S
 refine l_mv 1 S rfl ?_; clear S a; intro a S
 refine l_on S rfl rfl rfl rfl rfl ?_
 refine l_pure S (p_move rfl) rfl rfl rfl ?_; clear S a; intro a S
 refine l_on S rfl rfl rfl rfl rfl ?_
 refine l_pure S (p_eql rfl rfl) rfl rfl rfl ?_; clear S a; intro a S
 refine l_pure S (p_pick_f rfl rfl rfl) rfl rfl rfl ?_; clear S a; intro a S
 refine l_nil ?_
 refine e_then ?_
 refine c_cond (b := false) S rfl (fun h => by cases h) (fun _ => ?_)
 refine wp_skip ?_
 refine e_then ?_
 refine wp_seq ?_
 refine wp_seq ?_
 refine c_region ?_
 refine l_mv 1 S rfl ?_; clear S a; intro a S
 refine l_nil ?_
 refine e_then ?_
 refine wp_block ?_
 refine wp_seq ?_
 refine wp_seq ?_
 refine c_region ?_
 refine l_pure S (p_eql rfl rfl) rfl rfl rfl ?_; clear S a; intro a S
 refine l_mv 1 S rfl ?_; clear S a; intro a S
 refine l_nil ?_
 refine e_then ?_
 refine c_cond (b := false) S rfl (fun h => by cases h) (fun _ => ?_)
 refine c_region ?_
 refine l_pure S (p_eql rfl rfl) rfl rfl rfl ?_; clear S a; intro a S
 refine l_mv 1 S rfl ?_; clear S a; intro a S
 refine l_nil ?_
 refine e_then ?_
 refine c_cond (b := false) S rfl (fun h => by cases h) (fun _ => ?_)
 refine wp_seq ?_
 refine c_region ?_
 refine l_pure S (p_eql rfl rfl) rfl rfl rfl ?_; clear S a; intro a S
 refine l_mv 1 S rfl ?_; clear S a; intro a S
 refine l_nil ?_
 refine e_then ?_
 refine c_cond (b := true) S rfl (fun _ => ?_) (fun h => by cases h)
 refine wp_seq ?_
 refine wp_seq ?_
 refine c_region ?_
 refine l_mv 1 S rfl ?_; clear S a; intro a S
 refine l_nil ?_
 refine e_then ?_
 refine c_cond (b := true) S rfl (fun _ => ?_) (fun h => by cases h)
 refine c_region ?_
 refine l_mv 1 S rfl ?_; clear S a; intro a S
 refine l_lit [(.const (.int .u8 45))] S H rfl rfl Tryz.underlying34 sz5 zv5 rfl rfl (by simp [Value.cells]) rfl rfl rfl ?_; clear S a H; intro g12 w a H S
 refine l_ownB [_] (r := [45]) S H rfl rfl rfl hown (src_lit (vs := ([45]).map (Value.int .u8)) H List.mem_cons_self Tryz.underlying34 (by simp [Value.oneCell'])) Tryz.underlying34 in5 rfl (by simp only [List.length_cons, List.length_nil, List.length_append]; omega) (by decide) rfl rfl rfl ?_; clear S a H; intro Aow13 cow13 ow13 w a how13 H S; replace H := H.tail
 refine l_mv 1 S rfl ?_; clear S a; intro a S
 refine l_nil ?_
 refine e_then ?_
 refine wp_seq ?_
 refine wp_seq ?_
 refine c_region ?_
 refine l_mv 1 S rfl ?_; clear S a; intro a S
 refine l_pure S (p_gtr rfl rfl) rfl rfl rfl ?_; clear S a; intro a S
 refine l_nil ?_
 refine e_then ?_
 refine c_cond (b := false) S rfl (fun h => by cases h) (fun _ => ?_)
 refine c_region ?_
 refine l_mv 1 S rfl ?_; clear S a; intro a S
 refine l_lit [(.const (.int .u8 48))] S H rfl rfl Tryz.underlying34 sz5 zv5 rfl rfl (by simp [Value.cells]) rfl rfl rfl ?_; clear S a H; intro g16 w a H S
 refine l_ownB [_] (r := [48]) S H rfl rfl rfl how13 (src_lit (vs := ([48]).map (Value.int .u8)) H List.mem_cons_self Tryz.underlying34 (by simp [Value.oneCell'])) Tryz.underlying34 in5 rfl (by simp only [List.length_cons, List.length_nil, List.length_append]; omega) (by decide) rfl rfl rfl ?_; clear S a H; intro Aow17 cow17 ow17 w a how17 H S; replace H := H.tail
 refine l_mv 1 S rfl ?_; clear S a; intro a S
 refine l_nil ?_
 refine e_then ?_
 refine wp_seq ?_
 refine wp_seq ?_
 refine c_region ?_
 refine l_mv 1 S rfl ?_; clear S a; intro a S
 refine l_pure S (p_gtr rfl rfl) rfl rfl rfl ?_; clear S a; intro a S
 refine l_nil ?_
 refine e_then ?_
 refine c_cond (b := false) S rfl (fun h => by cases h) (fun _ => ?_)
 refine wp_skip ?_
 refine e_then ?_
 refine wp_seq ?_
 refine c_region ?_
 refine l_mv 2 S rfl ?_; clear S a; intro a S
 refine l_nil ?_
 refine e_then ?_
 refine wp_ret ?_
 refine e_in_ret ?_
 refine e_then_ret ?_
 have eX : ((l ++ [45]) ++ [48]) = l ++ fz.fmtF true [] 0 0 := by unfold fz.fmtF fz.sgn; simp
 have hw := how17
 rw [eX] at S hw
 exact r_ret1 S rfl rfl ⟨_, _, _, rfl, hw, H⟩
set_option maxHeartbeats 1000000 in
theorem efgP1_t (wb w0 : World) (B : Nat) (L0 : List (Nat × Obj)) (gb q nd : Nat) (cs : Array Value) (ds : List Int) (hrow : bf.Row cs 0 ds) (hnd : nd ≤ ds.length) (hds : ds.length ≤ 32) (hq : q ≤ 1000) (hq0 : 0 < q) (hnq : nd ≤ q) (A : Option Addr) (c : Nat) (l : List Int) (ow : List (Nat × Obj)) (hown : OwnB 5 (.slice A l.length c) l ow) (hl : l.length ≤ 100000000000000) (H : HH B wb w0 (ow ++ ((gb, .cells cs 150 (0, 0)) :: L0))) : Calls Tryz.prog 46 #[.slice A l.length c, .bool true, .slice (some ⟨gb, 0, none⟩) 32 32, .int .i64 (q : Int), .int .i64 (nd : Int), .int .i64 0, .int .u8 102, .bool true] w0 fun e w' => ∃ (A' : Option Addr) (c' : Nat) (ow' : List (Nat × Obj)), e = .returned (.slice A' (l ++ fz.fmtF true ds nd (q : Int)).length c') ∧ OwnB 5 (.slice A' (l ++ fz.fmtF true ds nd (q : Int)).length c') (l ++ fz.fmtF true ds nd (q : Int)) ow' ∧ HH B wb w' (ow' ++ ((gb, .cells cs 150 (0, 0)) :: L0)) := by
 refine c_enter (args := [.slice A l.length c, .bool true, .slice (some ⟨gb, 0, none⟩) 32 32, .int .i64 (q : Int), .int .i64 (nd : Int), .int .i64 0, .int .u8 102, .bool true]) (k := 264) Tryz.func46 rfl rfl rfl (fun a S => ?_)
 refine wp_seq ?_
 refine c_region ?_
 refine l_mv 1 S rfl ?_; clear S a; intro a S
 refine l_nil ?_
 refine e_then ?_
 refine wp_seq ?_
 refine wp_seq ?_
 refine c_region ?_
 refine l_mv 1 S rfl ?_; clear S a; intro a S
 refine l_pure S (p_eql rfl rfl) rfl rfl rfl ?_; clear S a; intro a S
 refine l_mv 1 S rfl ?_; clear S a; intro a S
 refine l_on S rfl rfl rfl rfl rfl ?_
 refine l_pure S (p_move rfl) rfl rfl rfl ?_; clear S a; intro a S
 refine l_on S rfl rfl rfl rfl rfl ?_
 refine l_pure S (p_eql rfl rfl) rfl rfl rfl ?_; clear S a; intro a S
 refine l_pure S (p_pick_f rfl rfl rfl) rfl rfl rfl ?_; clear S a; intro a S
 refine l_nil ?_
 refine e_then ?_
 refine c_cond (b := false) S rfl (fun h => by cases h) (fun _ => ?_)
 refine wp_skip ?_
 refine e_then ?_
 refine wp_seq ?_
 refine wp_seq ?_
 refine c_region ?_
 refine l_mv 1 S rfl ?_; clear S a; intro a S
 refine l_nil ?_
 refine e_then ?_
 refine wp_block ?_
 refine wp_seq ?_
 refine wp_seq ?_
 refine c_region ?_
 refine l_pure S (p_eql rfl rfl) rfl rfl rfl ?_; clear S a; intro a S
 refine l_mv 1 S rfl ?_; clear S a; intro a S
 refine l_nil ?_
 refine e_then ?_
 refine c_cond (b := false) S rfl (fun h => by cases h) (fun _ => ?_)
 refine c_region ?_
 refine l_pure S (p_eql rfl rfl) rfl rfl rfl ?_; clear S a; intro a S
 refine l_mv 1 S rfl ?_; clear S a; intro a S
 refine l_nil ?_
 refine e_then ?_
 refine c_cond (b := false) S rfl (fun h => by cases h) (fun _ => ?_)
 refine wp_seq ?_
 refine c_region ?_
 refine l_pure S (p_eql rfl rfl) rfl rfl rfl ?_; clear S a; intro a S
 refine l_mv 1 S rfl ?_; clear S a; intro a S
 refine l_nil ?_
 refine e_then ?_
 refine c_cond (b := true) S rfl (fun _ => ?_) (fun h => by cases h)
 refine wp_seq ?_
 refine wp_seq ?_
 refine c_region ?_
 refine l_mv 1 S rfl ?_; clear S a; intro a S
 refine l_nil ?_
 refine e_then ?_
 refine c_cond (b := true) S rfl (fun _ => ?_) (fun h => by cases h)
 refine c_region ?_
 refine l_mv 1 S rfl ?_; clear S a; intro a S
 refine l_lit [(.const (.int .u8 45))] S H rfl rfl Tryz.underlying34 sz5 zv5 rfl rfl (by simp [Value.cells]) rfl rfl rfl ?_; clear S a H; intro g12 w a H S
 refine l_ownB [_] (r := [45]) S H rfl rfl rfl hown (src_lit (vs := ([45]).map (Value.int .u8)) H List.mem_cons_self Tryz.underlying34 (by simp [Value.oneCell'])) Tryz.underlying34 in5 rfl (by simp only [List.length_cons, List.length_nil, List.length_append]; omega) (by decide) rfl rfl rfl ?_; clear S a H; intro Aow13 cow13 ow13 w a how13 H S; replace H := H.tail
 refine l_mv 1 S rfl ?_; clear S a; intro a S
 refine l_nil ?_
 refine e_then ?_
 refine wp_seq ?_
 refine wp_seq ?_
 refine c_region ?_
 refine l_mv 1 S rfl ?_; clear S a; intro a S
 refine l_pure S (p_gtr rfl rfl) rfl rfl rfl ?_; clear S a; intro a S
 refine l_nil ?_
 refine e_then ?_
 refine c_cond S rfl (fun c15 => ?_) (fun c15 => by have c15 := of_decide_eq_false c15; exfalso; omega)
 have c15 := of_decide_eq_true c15
 refine wp_seq ?_
 refine c_region ?_
 refine l_mv 2 S rfl ?_; clear S a; intro a S
 refine l_pure S (fz.p_minV (r := ((nd : Nat) : Int)) rfl rfl (by split <;> omega)) rfl rfl rfl ?_; clear S a; intro a S
 refine l_mv 1 S rfl ?_; clear S a; intro a S
 refine l_nil ?_
 refine e_then ?_
 refine wp_seq ?_
 refine wp_seq ?_
 refine c_region ?_
 refine l_mv 2 S rfl ?_; clear S a; intro a S
 refine l_pure S (p_slice rfl (fun _ _ => o_none) (o_some rfl) (fun _ _ => o_none) (fun w => sl_hi (m := nd) Tryz.underlying34 sz5 rfl (by omega))) rfl rfl rfl ?_; clear S a; intro a S
 refine l_pure S (p_len Tryz.underlying34 rfl) rfl rfl rfl ?_; clear S a; intro a S
 refine l_mv 1 S rfl ?_; clear S a; intro a S
 refine l_nil ?_
 refine e_then ?_
 refine wp_block ?_
 refine c_loop (σ := Nat × List Int × Option Addr × Nat × List (Nat × Obj)) (fun s_ a w => match s_ with | ⟨i1, X1, A1, c1, ow1⟩ => SL a 272 [] [(0, .slice A1 X1.length c1), (191, .int .i64 (i1 : Int)), (190, .int .i64 ((nd : Nat) : Int)), (1, .bool true), (2, .slice (some ⟨gb, 0, none⟩) 32 32), (3, .int .i64 ((q : Nat) : Int)), (4, .int .i64 ((nd : Nat) : Int)), (5, .int .i64 0), (23, .int .i64 ((nd : Nat) : Int)), (189, .slice (some ⟨gb, 0, none⟩) nd 32)] ∧ HH (B) wb w (ow1 ++ ((gb, .cells cs 150 (0, 0)) :: L0)) ∧ (i1 ≤ nd ∧ X1 = (l ++ [45]) ++ ds.take i1 ∧ OwnB 5 (.slice A1 X1.length c1) X1 ow1)) (fun s_ => match s_ with | ⟨i1, X1, A1, c1, ow1⟩ => nd - i1) ⟨0, (l ++ [45]), Aow13, cow13, ow13⟩ ⟨S.only ⟨rfl, rfl, rfl, rfl, rfl, rfl, rfl, rfl, rfl, rfl, trivial⟩, H, ⟨Nat.zero_le _, by simp, how13⟩⟩ ?_
 clear S a H; rintro ⟨i1, X1, A1, c1, ow1⟩ a w ⟨S, H, hinv⟩
 obtain ⟨hi1, hX1, hown1⟩ := hinv
 have hl1 : X1.length ≤ l.length + 100 := by rw [hX1]; simp only [List.length_append, List.length_cons, List.length_nil, List.length_take, List.length_replicate, List.length_drop]; omega
 refine wp_seq ?_
 refine c_region ?_
 refine l_pure S (p_lss rfl rfl) rfl rfl rfl ?_; clear S a; intro a S
 refine l_nil ?_
 refine e_then ?_
 refine wp_seq ?_
 refine c_cond S rfl (fun bc17 => ?_) (fun bc17 => ?_)
 ·
  have c17 := bc17
  have c17 := of_decide_eq_true c17
  refine wp_skip ?_
  refine e_then ?_
  refine wp_seq ?_
  refine wp_block ?_
  refine wp_seq ?_
  refine c_region ?_
  refine l_pure S (p_indexAddr rfl rfl (fun w => ia_slice Tryz.underlying34 sz5 (by omega) (by omega))) rfl rfl rfl ?_; clear S a; intro a S
  refine l_read S H (r_load rfl (List.mem_append_right _ List.mem_cons_self) (fz.row_cell hrow (i := i1) (by omega) (by omega)) (fun w hc => ld1 ag5 hc)) rfl rfl rfl ?_; clear S a; intro a S
  refine l_mv 1 S rfl ?_; clear S a; intro a S
  refine l_nil ?_
  refine e_then ?_
  refine c_region ?_
  refine l_mv 2 S rfl ?_; clear S a; intro a S
  refine l_lit [(.tmp 196)] S H rfl rfl Tryz.underlying34 sz5 zv5 rfl rfl (by simp [Value.cells]) rfl rfl rfl ?_; clear S a H; intro g18 w a H S
  refine l_ownB [_] (r := [(ds.getD (i1) 0)]) S H rfl rfl rfl hown1 (src_lit (vs := ([(ds.getD (i1) 0)]).map (Value.int .u8)) H List.mem_cons_self Tryz.underlying34 (by simp [Value.oneCell'])) Tryz.underlying34 in5 rfl (by simp only [List.length_cons, List.length_nil, List.length_append]; omega) (by decide) rfl rfl rfl ?_; clear S a H; intro Aow19 cow19 ow19 w a how19 H S; replace H := H.tail
  refine l_mv 1 S rfl ?_; clear S a; intro a S
  refine l_nil ?_
  refine e_in 5 ?_
  refine e_then ?_
  refine c_region ?_
  refine l_pure S (p_add rfl rfl (nat_add (x := i1) (y := 1) (by omega))) rfl rfl rfl ?_; clear S a; intro a S
  refine l_mv 1 S rfl ?_; clear S a; intro a S
  refine l_nil ?_
  refine e_then ?_
  exact ⟨⟨i1 + 1, (X1 ++ [(ds.getD (i1) 0)]), Aow19, cow19, ow19⟩, ⟨S.only ⟨rfl, rfl, rfl, rfl, rfl, rfl, rfl, rfl, rfl, rfl, trivial⟩, H, ⟨by omega, by rw [hX1, List.append_assoc, ← fz.take_suc (by omega)], how19⟩⟩, by show nd - (i1 + 1) < nd - i1; omega⟩
 ·
  have c17 := bc17
  have c17 := of_decide_eq_false c17
  refine wp_exit ?_
  refine e_then_exit ?_
  refine e_then_exit ?_
  refine e_in_exit ?_
  refine e_then ?_
  refine wp_seq ?_
  refine c_region ?_
  refine l_mv 2 S rfl ?_; clear S a; intro a S
  refine l_pure S (p_sub (r := (((q - nd) : Nat) : Int)) rfl rfl (by rw [IntWalk.i64_in _ (by omega)]; omega)) rfl rfl rfl ?_; clear S a; intro a S
  refine l_mv 1 S rfl ?_; clear S a; intro a S
  refine l_nil ?_
  refine e_then ?_
  refine wp_block ?_
  refine c_loop (σ := Nat × List Int × Option Addr × Nat × List (Nat × Obj)) (fun s_ a w => match s_ with | ⟨i2, X2, A2, c2, ow2⟩ => SL a 272 [] [(0, .slice A2 X2.length c2), (203, .int .i64 (i2 : Int)), (202, .int .i64 (((q - nd) : Nat) : Int)), (1, .bool true), (2, .slice (some ⟨gb, 0, none⟩) 32 32), (3, .int .i64 ((q : Nat) : Int)), (4, .int .i64 ((nd : Nat) : Int)), (5, .int .i64 0), (23, .int .i64 ((nd : Nat) : Int))] ∧ HH (B) wb w (ow2 ++ ((gb, .cells cs 150 (0, 0)) :: L0)) ∧ (i2 ≤ (q - nd) ∧ X2 = X1 ++ List.replicate i2 48 ∧ OwnB 5 (.slice A2 X2.length c2) X2 ow2)) (fun s_ => match s_ with | ⟨i2, X2, A2, c2, ow2⟩ => (q - nd) - i2) ⟨0, X1, A1, c1, ow1⟩ ⟨S.only ⟨rfl, rfl, rfl, rfl, rfl, rfl, rfl, rfl, rfl, trivial⟩, H, ⟨Nat.zero_le _, by simp, hown1⟩⟩ ?_
  clear S a H; rintro ⟨i2, X2, A2, c2, ow2⟩ a w ⟨S, H, hinv⟩
  obtain ⟨hi2, hX2, hown2⟩ := hinv
  have hl2 : X2.length ≤ l.length + 2000 := by rw [hX2]; simp only [List.length_append, List.length_cons, List.length_nil, List.length_take, List.length_replicate, List.length_drop]; omega
  refine wp_seq ?_
  refine c_region ?_
  refine l_pure S (p_lss rfl rfl) rfl rfl rfl ?_; clear S a; intro a S
  refine l_nil ?_
  refine e_then ?_
  refine wp_seq ?_
  refine c_cond S rfl (fun bc21 => ?_) (fun bc21 => ?_)
  ·
   have c21 := bc21
   have c21 := of_decide_eq_true c21
   refine wp_skip ?_
   refine e_then ?_
   refine wp_seq ?_
   refine wp_block ?_
   refine c_region ?_
   refine l_mv 1 S rfl ?_; clear S a; intro a S
   refine l_lit [(.const (.int .u8 48))] S H rfl rfl Tryz.underlying34 sz5 zv5 rfl rfl (by simp [Value.cells]) rfl rfl rfl ?_; clear S a H; intro g22 w a H S
   refine l_ownB [_] (r := [48]) S H rfl rfl rfl hown2 (src_lit (vs := ([48]).map (Value.int .u8)) H List.mem_cons_self Tryz.underlying34 (by simp [Value.oneCell'])) Tryz.underlying34 in5 rfl (by simp only [List.length_cons, List.length_nil, List.length_append]; omega) (by decide) rfl rfl rfl ?_; clear S a H; intro Aow23 cow23 ow23 w a how23 H S; replace H := H.tail
   refine l_mv 1 S rfl ?_; clear S a; intro a S
   refine l_nil ?_
   refine e_in 7 ?_
   refine e_then ?_
   refine c_region ?_
   refine l_pure S (p_add rfl rfl (nat_add (x := i2) (y := 1) (by omega))) rfl rfl rfl ?_; clear S a; intro a S
   refine l_mv 1 S rfl ?_; clear S a; intro a S
   refine l_nil ?_
   refine e_then ?_
   exact ⟨⟨i2 + 1, (X2 ++ [48]), Aow23, cow23, ow23⟩, ⟨S.only ⟨rfl, rfl, rfl, rfl, rfl, rfl, rfl, rfl, rfl, trivial⟩, H, ⟨by omega, by rw [hX2, List.append_assoc, ← fz.rep_suc], how23⟩⟩, by show (q - nd) - (i2 + 1) < (q - nd) - i2; omega⟩
  ·
   have c21 := bc21
   have c21 := of_decide_eq_false c21
   refine wp_exit ?_
   refine e_then_exit ?_
   refine e_then_exit ?_
   refine e_in_exit ?_
   refine e_then ?_
   refine wp_seq ?_
   refine wp_seq ?_
   refine c_region ?_
   refine l_mv 1 S rfl ?_; clear S a; intro a S
   refine l_pure S (p_gtr rfl rfl) rfl rfl rfl ?_; clear S a; intro a S
   refine l_nil ?_
   refine e_then ?_
   refine c_cond (b := false) S rfl (fun h => by cases h) (fun _ => ?_)
   refine wp_skip ?_
   refine e_then ?_
   refine wp_seq ?_
   refine c_region ?_
   refine l_mv 2 S rfl ?_; clear S a; intro a S
   refine l_nil ?_
   refine e_then ?_
   refine wp_ret ?_
   refine e_in_ret ?_
   refine e_then_ret ?_
   have ei1 : i1 = nd := by omega
   have ei2 : i2 = (q - nd) := by omega
   have eX : X2 = l ++ fz.fmtF true ds nd (q : Int) := by rw [hX2, hX1, ei1, ei2]; unfold fz.fmtF fz.sgn; rw [if_pos (by omega), if_pos (by omega), Int.toNat_natCast]; simp
   have hw := hown2
   rw [eX] at S hw
   exact r_ret1 S rfl rfl ⟨_, _, _, rfl, hw, H⟩
set_option maxHeartbeats 1000000 in
theorem efgP2_t (wb w0 : World) (B : Nat) (L0 : List (Nat × Obj)) (gb q nd : Nat) (cs : Array Value) (ds : List Int) (hrow : bf.Row cs 0 ds) (hnd : nd ≤ ds.length) (hds : ds.length ≤ 32) (hq : q ≤ 1000) (hq0 : 0 < q) (hnq : q < nd) (A : Option Addr) (c : Nat) (l : List Int) (ow : List (Nat × Obj)) (hown : OwnB 5 (.slice A l.length c) l ow) (hl : l.length ≤ 100000000000000) (H : HH B wb w0 (ow ++ ((gb, .cells cs 150 (0, 0)) :: L0))) : Calls Tryz.prog 46 #[.slice A l.length c, .bool true, .slice (some ⟨gb, 0, none⟩) 32 32, .int .i64 (q : Int), .int .i64 (nd : Int), .int .i64 ((nd - q : Nat) : Int), .int .u8 102, .bool true] w0 fun e w' => ∃ (A' : Option Addr) (c' : Nat) (ow' : List (Nat × Obj)), e = .returned (.slice A' (l ++ fz.fmtF true ds nd (q : Int)).length c') ∧ OwnB 5 (.slice A' (l ++ fz.fmtF true ds nd (q : Int)).length c') (l ++ fz.fmtF true ds nd (q : Int)) ow' ∧ HH B wb w' (ow' ++ ((gb, .cells cs 150 (0, 0)) :: L0)) := by
 refine c_enter (args := [.slice A l.length c, .bool true, .slice (some ⟨gb, 0, none⟩) 32 32, .int .i64 (q : Int), .int .i64 (nd : Int), .int .i64 ((nd - q : Nat) : Int), .int .u8 102, .bool true]) (k := 264) Tryz.func46 rfl rfl rfl (fun a S => ?_)
 refine wp_seq ?_
 refine c_region ?_
 refine l_mv 1 S rfl ?_; clear S a; intro a S
 refine l_nil ?_
 refine e_then ?_
 refine wp_seq ?_
 refine wp_seq ?_
 refine c_region ?_
 refine l_mv 1 S rfl ?_; clear S a; intro a S
 refine l_pure S (p_eql rfl rfl) rfl rfl rfl ?_; clear S a; intro a S
 refine l_mv 1 S rfl ?_; clear S a; intro a S
 refine l_on S rfl rfl rfl rfl rfl ?_
 refine l_pure S (p_move rfl) rfl rfl rfl ?_; clear S a; intro a S
 refine l_on S rfl rfl rfl rfl rfl ?_
 refine l_pure S (p_eql rfl rfl) rfl rfl rfl ?_; clear S a; intro a S
 refine l_pure S (p_pick_f rfl rfl rfl) rfl rfl rfl ?_; clear S a; intro a S
 refine l_nil ?_
 refine e_then ?_
 refine c_cond (b := false) S rfl (fun h => by cases h) (fun _ => ?_)
 refine wp_skip ?_
 refine e_then ?_
 refine wp_seq ?_
 refine wp_seq ?_
 refine c_region ?_
 refine l_mv 1 S rfl ?_; clear S a; intro a S
 refine l_nil ?_
 refine e_then ?_
 refine wp_block ?_
 refine wp_seq ?_
 refine wp_seq ?_
 refine c_region ?_
 refine l_pure S (p_eql rfl rfl) rfl rfl rfl ?_; clear S a; intro a S
 refine l_mv 1 S rfl ?_; clear S a; intro a S
 refine l_nil ?_
 refine e_then ?_
 refine c_cond (b := false) S rfl (fun h => by cases h) (fun _ => ?_)
 refine c_region ?_
 refine l_pure S (p_eql rfl rfl) rfl rfl rfl ?_; clear S a; intro a S
 refine l_mv 1 S rfl ?_; clear S a; intro a S
 refine l_nil ?_
 refine e_then ?_
 refine c_cond (b := false) S rfl (fun h => by cases h) (fun _ => ?_)
 refine wp_seq ?_
 refine c_region ?_
 refine l_pure S (p_eql rfl rfl) rfl rfl rfl ?_; clear S a; intro a S
 refine l_mv 1 S rfl ?_; clear S a; intro a S
 refine l_nil ?_
 refine e_then ?_
 refine c_cond (b := true) S rfl (fun _ => ?_) (fun h => by cases h)
 refine wp_seq ?_
 refine wp_seq ?_
 refine c_region ?_
 refine l_mv 1 S rfl ?_; clear S a; intro a S
 refine l_nil ?_
 refine e_then ?_
 refine c_cond (b := true) S rfl (fun _ => ?_) (fun h => by cases h)
 refine c_region ?_
 refine l_mv 1 S rfl ?_; clear S a; intro a S
 refine l_lit [(.const (.int .u8 45))] S H rfl rfl Tryz.underlying34 sz5 zv5 rfl rfl (by simp [Value.cells]) rfl rfl rfl ?_; clear S a H; intro g12 w a H S
 refine l_ownB [_] (r := [45]) S H rfl rfl rfl hown (src_lit (vs := ([45]).map (Value.int .u8)) H List.mem_cons_self Tryz.underlying34 (by simp [Value.oneCell'])) Tryz.underlying34 in5 rfl (by simp only [List.length_cons, List.length_nil, List.length_append]; omega) (by decide) rfl rfl rfl ?_; clear S a H; intro Aow13 cow13 ow13 w a how13 H S; replace H := H.tail
 refine l_mv 1 S rfl ?_; clear S a; intro a S
 refine l_nil ?_
 refine e_then ?_
 refine wp_seq ?_
 refine wp_seq ?_
 refine c_region ?_
 refine l_mv 1 S rfl ?_; clear S a; intro a S
 refine l_pure S (p_gtr rfl rfl) rfl rfl rfl ?_; clear S a; intro a S
 refine l_nil ?_
 refine e_then ?_
 refine c_cond S rfl (fun c15 => ?_) (fun c15 => by have c15 := of_decide_eq_false c15; exfalso; omega)
 have c15 := of_decide_eq_true c15
 refine wp_seq ?_
 refine c_region ?_
 refine l_mv 2 S rfl ?_; clear S a; intro a S
 refine l_pure S (fz.p_minV (r := ((q : Nat) : Int)) rfl rfl (by split <;> omega)) rfl rfl rfl ?_; clear S a; intro a S
 refine l_mv 1 S rfl ?_; clear S a; intro a S
 refine l_nil ?_
 refine e_then ?_
 refine wp_seq ?_
 refine wp_seq ?_
 refine c_region ?_
 refine l_mv 2 S rfl ?_; clear S a; intro a S
 refine l_pure S (p_slice rfl (fun _ _ => o_none) (o_some rfl) (fun _ _ => o_none) (fun w => sl_hi (m := q) Tryz.underlying34 sz5 rfl (by omega))) rfl rfl rfl ?_; clear S a; intro a S
 refine l_pure S (p_len Tryz.underlying34 rfl) rfl rfl rfl ?_; clear S a; intro a S
 refine l_mv 1 S rfl ?_; clear S a; intro a S
 refine l_nil ?_
 refine e_then ?_
 refine wp_block ?_
 refine c_loop (σ := Nat × List Int × Option Addr × Nat × List (Nat × Obj)) (fun s_ a w => match s_ with | ⟨i1, X1, A1, c1, ow1⟩ => SL a 272 [] [(0, .slice A1 X1.length c1), (191, .int .i64 (i1 : Int)), (190, .int .i64 ((q : Nat) : Int)), (1, .bool true), (2, .slice (some ⟨gb, 0, none⟩) 32 32), (3, .int .i64 ((q : Nat) : Int)), (4, .int .i64 ((nd : Nat) : Int)), (5, .int .i64 (((nd - q) : Nat) : Int)), (23, .int .i64 ((q : Nat) : Int)), (189, .slice (some ⟨gb, 0, none⟩) q 32)] ∧ HH (B) wb w (ow1 ++ ((gb, .cells cs 150 (0, 0)) :: L0)) ∧ (i1 ≤ q ∧ X1 = (l ++ [45]) ++ ds.take i1 ∧ OwnB 5 (.slice A1 X1.length c1) X1 ow1)) (fun s_ => match s_ with | ⟨i1, X1, A1, c1, ow1⟩ => q - i1) ⟨0, (l ++ [45]), Aow13, cow13, ow13⟩ ⟨S.only ⟨rfl, rfl, rfl, rfl, rfl, rfl, rfl, rfl, rfl, rfl, trivial⟩, H, ⟨Nat.zero_le _, by simp, how13⟩⟩ ?_
 clear S a H; rintro ⟨i1, X1, A1, c1, ow1⟩ a w ⟨S, H, hinv⟩
 obtain ⟨hi1, hX1, hown1⟩ := hinv
 have hl1 : X1.length ≤ l.length + 100 := by rw [hX1]; simp only [List.length_append, List.length_cons, List.length_nil, List.length_take, List.length_replicate, List.length_drop]; omega
 refine wp_seq ?_
 refine c_region ?_
 refine l_pure S (p_lss rfl rfl) rfl rfl rfl ?_; clear S a; intro a S
 refine l_nil ?_
 refine e_then ?_
 refine wp_seq ?_
 refine c_cond S rfl (fun bc17 => ?_) (fun bc17 => ?_)
 ·
  have c17 := bc17
  have c17 := of_decide_eq_true c17
  refine wp_skip ?_
  refine e_then ?_
  refine wp_seq ?_
  refine wp_block ?_
  refine wp_seq ?_
  refine c_region ?_
  refine l_pure S (p_indexAddr rfl rfl (fun w => ia_slice Tryz.underlying34 sz5 (by omega) (by omega))) rfl rfl rfl ?_; clear S a; intro a S
  refine l_read S H (r_load rfl (List.mem_append_right _ List.mem_cons_self) (fz.row_cell hrow (i := i1) (by omega) (by omega)) (fun w hc => ld1 ag5 hc)) rfl rfl rfl ?_; clear S a; intro a S
  refine l_mv 1 S rfl ?_; clear S a; intro a S
  refine l_nil ?_
  refine e_then ?_
  refine c_region ?_
  refine l_mv 2 S rfl ?_; clear S a; intro a S
  refine l_lit [(.tmp 196)] S H rfl rfl Tryz.underlying34 sz5 zv5 rfl rfl (by simp [Value.cells]) rfl rfl rfl ?_; clear S a H; intro g18 w a H S
  refine l_ownB [_] (r := [(ds.getD (i1) 0)]) S H rfl rfl rfl hown1 (src_lit (vs := ([(ds.getD (i1) 0)]).map (Value.int .u8)) H List.mem_cons_self Tryz.underlying34 (by simp [Value.oneCell'])) Tryz.underlying34 in5 rfl (by simp only [List.length_cons, List.length_nil, List.length_append]; omega) (by decide) rfl rfl rfl ?_; clear S a H; intro Aow19 cow19 ow19 w a how19 H S; replace H := H.tail
  refine l_mv 1 S rfl ?_; clear S a; intro a S
  refine l_nil ?_
  refine e_in 5 ?_
  refine e_then ?_
  refine c_region ?_
  refine l_pure S (p_add rfl rfl (nat_add (x := i1) (y := 1) (by omega))) rfl rfl rfl ?_; clear S a; intro a S
  refine l_mv 1 S rfl ?_; clear S a; intro a S
  refine l_nil ?_
  refine e_then ?_
  exact ⟨⟨i1 + 1, (X1 ++ [(ds.getD (i1) 0)]), Aow19, cow19, ow19⟩, ⟨S.only ⟨rfl, rfl, rfl, rfl, rfl, rfl, rfl, rfl, rfl, rfl, trivial⟩, H, ⟨by omega, by rw [hX1, List.append_assoc, ← fz.take_suc (by omega)], how19⟩⟩, by show q - (i1 + 1) < q - i1; omega⟩
 ·
  have c17 := bc17
  have c17 := of_decide_eq_false c17
  refine wp_exit ?_
  refine e_then_exit ?_
  refine e_then_exit ?_
  refine e_in_exit ?_
  refine e_then ?_
  refine wp_seq ?_
  refine c_region ?_
  refine l_mv 2 S rfl ?_; clear S a; intro a S
  refine l_pure S (p_sub (r := ((0 : Nat) : Int)) rfl rfl (by rw [IntWalk.i64_in _ (by omega)]; omega)) rfl rfl rfl ?_; clear S a; intro a S
  refine l_mv 1 S rfl ?_; clear S a; intro a S
  refine l_nil ?_
  refine e_then ?_
  refine wp_block ?_
  refine c_loop (σ := Nat × List Int × Option Addr × Nat × List (Nat × Obj)) (fun s_ a w => match s_ with | ⟨i2, X2, A2, c2, ow2⟩ => SL a 272 [] [(0, .slice A2 X2.length c2), (203, .int .i64 (i2 : Int)), (202, .int .i64 ((0 : Nat) : Int)), (1, .bool true), (2, .slice (some ⟨gb, 0, none⟩) 32 32), (3, .int .i64 ((q : Nat) : Int)), (4, .int .i64 ((nd : Nat) : Int)), (5, .int .i64 (((nd - q) : Nat) : Int)), (23, .int .i64 ((q : Nat) : Int))] ∧ HH (B) wb w (ow2 ++ ((gb, .cells cs 150 (0, 0)) :: L0)) ∧ (i2 ≤ 0 ∧ X2 = X1 ++ List.replicate i2 48 ∧ OwnB 5 (.slice A2 X2.length c2) X2 ow2)) (fun s_ => match s_ with | ⟨i2, X2, A2, c2, ow2⟩ => 0 - i2) ⟨0, X1, A1, c1, ow1⟩ ⟨S.only ⟨rfl, rfl, rfl, rfl, rfl, rfl, rfl, rfl, rfl, trivial⟩, H, ⟨Nat.zero_le _, by simp, hown1⟩⟩ ?_
  clear S a H; rintro ⟨i2, X2, A2, c2, ow2⟩ a w ⟨S, H, hinv⟩
  obtain ⟨hi2, hX2, hown2⟩ := hinv
  have hl2 : X2.length ≤ l.length + 2000 := by rw [hX2]; simp only [List.length_append, List.length_cons, List.length_nil, List.length_take, List.length_replicate, List.length_drop]; omega
  refine wp_seq ?_
  refine c_region ?_
  refine l_pure S (p_lss rfl rfl) rfl rfl rfl ?_; clear S a; intro a S
  refine l_nil ?_
  refine e_then ?_
  refine wp_seq ?_
  refine c_cond S rfl (fun bc21 => ?_) (fun bc21 => ?_)
  ·
   have c21 := bc21
   have c21 := of_decide_eq_true c21
   refine wp_skip ?_
   refine e_then ?_
   refine wp_seq ?_
   refine wp_block ?_
   refine c_region ?_
   refine l_mv 1 S rfl ?_; clear S a; intro a S
   refine l_lit [(.const (.int .u8 48))] S H rfl rfl Tryz.underlying34 sz5 zv5 rfl rfl (by simp [Value.cells]) rfl rfl rfl ?_; clear S a H; intro g22 w a H S
   refine l_ownB [_] (r := [48]) S H rfl rfl rfl hown2 (src_lit (vs := ([48]).map (Value.int .u8)) H List.mem_cons_self Tryz.underlying34 (by simp [Value.oneCell'])) Tryz.underlying34 in5 rfl (by simp only [List.length_cons, List.length_nil, List.length_append]; omega) (by decide) rfl rfl rfl ?_; clear S a H; intro Aow23 cow23 ow23 w a how23 H S; replace H := H.tail
   refine l_mv 1 S rfl ?_; clear S a; intro a S
   refine l_nil ?_
   refine e_in 7 ?_
   refine e_then ?_
   refine c_region ?_
   refine l_pure S (p_add rfl rfl (nat_add (x := i2) (y := 1) (by omega))) rfl rfl rfl ?_; clear S a; intro a S
   refine l_mv 1 S rfl ?_; clear S a; intro a S
   refine l_nil ?_
   refine e_then ?_
   exact ⟨⟨i2 + 1, (X2 ++ [48]), Aow23, cow23, ow23⟩, ⟨S.only ⟨rfl, rfl, rfl, rfl, rfl, rfl, rfl, rfl, rfl, trivial⟩, H, ⟨by omega, by rw [hX2, List.append_assoc, ← fz.rep_suc], how23⟩⟩, by show 0 - (i2 + 1) < 0 - i2; omega⟩
  ·
   have c21 := bc21
   have c21 := of_decide_eq_false c21
   refine wp_exit ?_
   refine e_then_exit ?_
   refine e_then_exit ?_
   refine e_in_exit ?_
   refine e_then ?_
   refine wp_seq ?_
   refine wp_seq ?_
   refine c_region ?_
   refine l_mv 1 S rfl ?_; clear S a; intro a S
   refine l_pure S (p_gtr rfl rfl) rfl rfl rfl ?_; clear S a; intro a S
   refine l_nil ?_
   refine e_then ?_
   refine c_cond S rfl (fun c25 => ?_) (fun c25 => by have c25 := of_decide_eq_false c25; exfalso; omega)
   have c25 := of_decide_eq_true c25
   refine wp_seq ?_
   refine c_region ?_
   refine l_mv 1 S rfl ?_; clear S a; intro a S
   refine l_lit [(.const (.int .u8 46))] S H rfl rfl Tryz.underlying34 sz5 zv5 rfl rfl (by simp [Value.cells]) rfl rfl rfl ?_; clear S a H; intro g26 w a H S
   refine l_ownB [_] (r := [46]) S H rfl rfl rfl hown2 (src_lit (vs := ([46]).map (Value.int .u8)) H List.mem_cons_self Tryz.underlying34 (by simp [Value.oneCell'])) Tryz.underlying34 in5 rfl (by simp only [List.length_cons, List.length_nil, List.length_append]; omega) (by decide) rfl rfl rfl ?_; clear S a H; intro Aow27 cow27 ow27 w a how27 H S; replace H := H.tail
   refine l_mv 1 S rfl ?_; clear S a; intro a S
   refine l_nil ?_
   refine e_then ?_
   refine wp_seq ?_
   refine c_region ?_
   refine l_mv 2 S rfl ?_; clear S a; intro a S
   refine l_pure S (p_un rfl (fun w => fz.neg64 (by omega) w)) rfl rfl rfl ?_; clear S a; intro a S
   refine l_pure S (fz.p_maxV (r := ((0 : Nat) : Int)) rfl rfl (by split <;> omega)) rfl rfl rfl ?_; clear S a; intro a S
   refine l_pure S (fz.p_minV (r := ((0 : Nat) : Int)) rfl rfl (by split <;> omega)) rfl rfl rfl ?_; clear S a; intro a S
   refine l_mv 1 S rfl ?_; clear S a; intro a S
   refine l_nil ?_
   refine e_then ?_
   refine wp_seq ?_
   refine c_region ?_
   refine l_mv 2 S rfl ?_; clear S a; intro a S
   refine l_pure S (p_add (r := ((q : Nat) : Int)) rfl rfl (by rw [IntWalk.i64_in _ (by omega)]; omega)) rfl rfl rfl ?_; clear S a; intro a S
   refine l_mv 1 S rfl ?_; clear S a; intro a S
   refine l_nil ?_
   refine e_then ?_
   refine wp_seq ?_
   refine c_region ?_
   refine l_mv 2 S rfl ?_; clear S a; intro a S
   refine l_pure S (p_sub (r := (((nd - q) : Nat) : Int)) rfl rfl (by rw [IntWalk.i64_in _ (by omega)]; omega)) rfl rfl rfl ?_; clear S a; intro a S
   refine l_mv 2 S rfl ?_; clear S a; intro a S
   refine l_pure S (p_sub (r := (((nd - q) : Nat) : Int)) rfl rfl (by rw [IntWalk.i64_in _ (by omega)]; omega)) rfl rfl rfl ?_; clear S a; intro a S
   refine l_pure S (fz.p_maxV (r := (((nd - q) : Nat) : Int)) rfl rfl (by split <;> omega)) rfl rfl rfl ?_; clear S a; intro a S
   refine l_pure S (fz.p_minV (r := (((nd - q) : Nat) : Int)) rfl rfl (by split <;> omega)) rfl rfl rfl ?_; clear S a; intro a S
   refine l_mv 1 S rfl ?_; clear S a; intro a S
   refine l_nil ?_
   refine e_then ?_
   refine wp_seq ?_
   refine c_region ?_
   refine l_mv 2 S rfl ?_; clear S a; intro a S
   refine l_pure S (p_sub (r := (((nd - q) : Nat) : Int)) rfl rfl (by rw [IntWalk.i64_in _ (by omega)]; omega)) rfl rfl rfl ?_; clear S a; intro a S
   refine l_mv 1 S rfl ?_; clear S a; intro a S
   refine l_pure S (p_sub (r := ((0 : Nat) : Int)) rfl rfl (by rw [IntWalk.i64_in _ (by omega)]; omega)) rfl rfl rfl ?_; clear S a; intro a S
   refine l_pure S (fz.p_maxV (r := ((0 : Nat) : Int)) rfl rfl (by split <;> omega)) rfl rfl rfl ?_; clear S a; intro a S
   refine l_mv 1 S rfl ?_; clear S a; intro a S
   refine l_nil ?_
   refine e_then ?_
   refine wp_seq ?_
   refine wp_seq ?_
   refine c_region ?_
   refine l_mv 2 S rfl ?_; clear S a; intro a S
   refine l_nil ?_
   refine e_then ?_
   refine wp_block ?_
   refine c_loop (σ := Nat × List Int × Option Addr × Nat × List (Nat × Obj)) (fun s_ a w => match s_ with | ⟨i3, X3, A3, c3, ow3⟩ => SL a 272 [] [(0, .slice A3 X3.length c3), (240, .int .i64 (i3 : Int)), (239, .int .i64 ((0 : Nat) : Int)), (2, .slice (some ⟨gb, 0, none⟩) 32 32), (3, .int .i64 ((q : Nat) : Int)), (4, .int .i64 ((nd : Nat) : Int)), (5, .int .i64 (((nd - q) : Nat) : Int)), (26, .int .i64 ((0 : Nat) : Int)), (27, .int .i64 ((q : Nat) : Int)), (28, .int .i64 (((nd - q) : Nat) : Int)), (29, .int .i64 ((0 : Nat) : Int))] ∧ HH (B) wb w (ow3 ++ ((gb, .cells cs 150 (0, 0)) :: L0)) ∧ (i3 ≤ 0 ∧ X3 = (X2 ++ [46]) ++ List.replicate i3 48 ∧ OwnB 5 (.slice A3 X3.length c3) X3 ow3)) (fun s_ => match s_ with | ⟨i3, X3, A3, c3, ow3⟩ => 0 - i3) ⟨0, (X2 ++ [46]), Aow27, cow27, ow27⟩ ⟨S.only ⟨rfl, rfl, rfl, rfl, rfl, rfl, rfl, rfl, rfl, rfl, rfl, trivial⟩, H, ⟨Nat.zero_le _, by simp, how27⟩⟩ ?_
   clear S a H; rintro ⟨i3, X3, A3, c3, ow3⟩ a w ⟨S, H, hinv⟩
   obtain ⟨hi3, hX3, hown3⟩ := hinv
   have hl3 : X3.length ≤ l.length + 3000 := by rw [hX3]; simp only [List.length_append, List.length_cons, List.length_nil, List.length_take, List.length_replicate, List.length_drop]; omega
   refine wp_seq ?_
   refine c_region ?_
   refine l_pure S (p_lss rfl rfl) rfl rfl rfl ?_; clear S a; intro a S
   refine l_nil ?_
   refine e_then ?_
   refine wp_seq ?_
   refine c_cond S rfl (fun bc29 => ?_) (fun bc29 => ?_)
   ·
    have c29 := bc29
    have c29 := of_decide_eq_true c29
    refine wp_skip ?_
    refine e_then ?_
    refine wp_seq ?_
    refine wp_block ?_
    refine c_region ?_
    refine l_mv 1 S rfl ?_; clear S a; intro a S
    refine l_lit [(.const (.int .u8 48))] S H rfl rfl Tryz.underlying34 sz5 zv5 rfl rfl (by simp [Value.cells]) rfl rfl rfl ?_; clear S a H; intro g30 w a H S
    refine l_ownB [_] (r := [48]) S H rfl rfl rfl hown3 (src_lit (vs := ([48]).map (Value.int .u8)) H List.mem_cons_self Tryz.underlying34 (by simp [Value.oneCell'])) Tryz.underlying34 in5 rfl (by simp only [List.length_cons, List.length_nil, List.length_append]; omega) (by decide) rfl rfl rfl ?_; clear S a H; intro Aow31 cow31 ow31 w a how31 H S; replace H := H.tail
    refine l_mv 1 S rfl ?_; clear S a; intro a S
    refine l_nil ?_
    refine e_in 9 ?_
    refine e_then ?_
    refine c_region ?_
    refine l_pure S (p_add rfl rfl (nat_add (x := i3) (y := 1) (by omega))) rfl rfl rfl ?_; clear S a; intro a S
    refine l_mv 1 S rfl ?_; clear S a; intro a S
    refine l_nil ?_
    refine e_then ?_
    exact ⟨⟨i3 + 1, (X3 ++ [48]), Aow31, cow31, ow31⟩, ⟨S.only ⟨rfl, rfl, rfl, rfl, rfl, rfl, rfl, rfl, rfl, rfl, rfl, trivial⟩, H, ⟨by omega, by rw [hX3, List.append_assoc, ← fz.rep_suc], how31⟩⟩, by show 0 - (i3 + 1) < 0 - i3; omega⟩
   ·
    have c29 := bc29
    have c29 := of_decide_eq_false c29
    refine wp_exit ?_
    refine e_then_exit ?_
    refine e_then_exit ?_
    refine e_in_exit ?_
    refine e_then ?_
    refine wp_seq ?_
    refine wp_seq ?_
    refine c_region ?_
    refine l_mv 2 S rfl ?_; clear S a; intro a S
    refine l_nil ?_
    refine e_then ?_
    refine wp_block ?_
    refine c_loop (σ := Nat × List Int × Option Addr × Nat × List (Nat × Obj)) (fun s_ a w => match s_ with | ⟨i4, X4, A4, c4, ow4⟩ => SL a 272 [] [(0, .slice A4 X4.length c4), (247, .int .i64 (i4 : Int)), (246, .int .i64 (((nd - q) : Nat) : Int)), (2, .slice (some ⟨gb, 0, none⟩) 32 32), (3, .int .i64 ((q : Nat) : Int)), (4, .int .i64 ((nd : Nat) : Int)), (5, .int .i64 (((nd - q) : Nat) : Int)), (26, .int .i64 ((0 : Nat) : Int)), (27, .int .i64 ((q : Nat) : Int)), (28, .int .i64 (((nd - q) : Nat) : Int)), (29, .int .i64 ((0 : Nat) : Int))] ∧ HH (B) wb w (ow4 ++ ((gb, .cells cs 150 (0, 0)) :: L0)) ∧ (i4 ≤ (nd - q) ∧ X4 = X3 ++ (ds.drop q).take i4 ∧ OwnB 5 (.slice A4 X4.length c4) X4 ow4)) (fun s_ => match s_ with | ⟨i4, X4, A4, c4, ow4⟩ => (nd - q) - i4) ⟨0, X3, A3, c3, ow3⟩ ⟨S.only ⟨rfl, rfl, rfl, rfl, rfl, rfl, rfl, rfl, rfl, rfl, rfl, trivial⟩, H, ⟨Nat.zero_le _, by simp, hown3⟩⟩ ?_
    clear S a H; rintro ⟨i4, X4, A4, c4, ow4⟩ a w ⟨S, H, hinv⟩
    obtain ⟨hi4, hX4, hown4⟩ := hinv
    have hl4 : X4.length ≤ l.length + 4000 := by rw [hX4]; simp only [List.length_append, List.length_cons, List.length_nil, List.length_take, List.length_replicate, List.length_drop]; omega
    refine wp_seq ?_
    refine c_region ?_
    refine l_pure S (p_lss rfl rfl) rfl rfl rfl ?_; clear S a; intro a S
    refine l_nil ?_
    refine e_then ?_
    refine wp_seq ?_
    refine c_cond S rfl (fun bc33 => ?_) (fun bc33 => ?_)
    ·
     have c33 := bc33
     have c33 := of_decide_eq_true c33
     refine wp_skip ?_
     refine e_then ?_
     refine wp_seq ?_
     refine wp_block ?_
     refine wp_seq ?_
     refine c_region ?_
     refine l_mv 2 S rfl ?_; clear S a; intro a S
     refine l_nil ?_
     refine e_then ?_
     refine c_region ?_
     refine l_mv 4 S rfl ?_; clear S a; intro a S
     refine l_pure S (p_add rfl rfl (nat_add (x := q) (y := i4) (by omega))) rfl rfl rfl ?_; clear S a; intro a S
     refine l_pure S (p_indexAddr rfl rfl (fun w => ia_slice Tryz.underlying34 sz5 (by omega) (by omega))) rfl rfl rfl ?_; clear S a; intro a S
     refine l_read S H (r_load rfl (List.mem_append_right _ List.mem_cons_self) (fz.row_cell hrow (i := (q + i4)) (by omega) (by omega)) (fun w hc => ld1 ag5 hc)) rfl rfl rfl ?_; clear S a; intro a S
     refine l_lit [(.tmp 256)] S H rfl rfl Tryz.underlying34 sz5 zv5 rfl rfl (by simp [Value.cells]) rfl rfl rfl ?_; clear S a H; intro g34 w a H S
     refine l_ownB [_] (r := [(ds.getD (q + i4) 0)]) S H rfl rfl rfl hown4 (src_lit (vs := ([(ds.getD (q + i4) 0)]).map (Value.int .u8)) H List.mem_cons_self Tryz.underlying34 (by simp [Value.oneCell'])) Tryz.underlying34 in5 rfl (by simp only [List.length_cons, List.length_nil, List.length_append]; omega) (by decide) rfl rfl rfl ?_; clear S a H; intro Aow35 cow35 ow35 w a how35 H S; replace H := H.tail
     refine l_mv 1 S rfl ?_; clear S a; intro a S
     refine l_nil ?_
     refine e_in 11 ?_
     refine e_then ?_
     refine c_region ?_
     refine l_pure S (p_add rfl rfl (nat_add (x := i4) (y := 1) (by omega))) rfl rfl rfl ?_; clear S a; intro a S
     refine l_mv 1 S rfl ?_; clear S a; intro a S
     refine l_nil ?_
     refine e_then ?_
     exact ⟨⟨i4 + 1, (X4 ++ [(ds.getD (q + i4) 0)]), Aow35, cow35, ow35⟩, ⟨S.only ⟨rfl, rfl, rfl, rfl, rfl, rfl, rfl, rfl, rfl, rfl, rfl, trivial⟩, H, ⟨by omega, by rw [hX4, List.append_assoc, ← fz.drop_suc (by omega)], how35⟩⟩, by show (nd - q) - (i4 + 1) < (nd - q) - i4; omega⟩
    ·
     have c33 := bc33
     have c33 := of_decide_eq_false c33
     refine wp_exit ?_
     refine e_then_exit ?_
     refine e_then_exit ?_
     refine e_in_exit ?_
     refine e_then ?_
     refine wp_seq ?_
     refine c_region ?_
     refine l_mv 2 S rfl ?_; clear S a; intro a S
     refine l_nil ?_
     refine e_then ?_
     refine wp_block ?_
     refine c_loop (σ := Nat × List Int × Option Addr × Nat × List (Nat × Obj)) (fun s_ a w => match s_ with | ⟨i5, X5, A5, c5, ow5⟩ => SL a 272 [] [(0, .slice A5 X5.length c5), (261, .int .i64 (i5 : Int)), (260, .int .i64 ((0 : Nat) : Int)), (2, .slice (some ⟨gb, 0, none⟩) 32 32), (3, .int .i64 ((q : Nat) : Int)), (4, .int .i64 ((nd : Nat) : Int)), (5, .int .i64 (((nd - q) : Nat) : Int)), (26, .int .i64 ((0 : Nat) : Int)), (27, .int .i64 ((q : Nat) : Int)), (28, .int .i64 (((nd - q) : Nat) : Int)), (29, .int .i64 ((0 : Nat) : Int))] ∧ HH (B) wb w (ow5 ++ ((gb, .cells cs 150 (0, 0)) :: L0)) ∧ (i5 ≤ 0 ∧ X5 = X4 ++ List.replicate i5 48 ∧ OwnB 5 (.slice A5 X5.length c5) X5 ow5)) (fun s_ => match s_ with | ⟨i5, X5, A5, c5, ow5⟩ => 0 - i5) ⟨0, X4, A4, c4, ow4⟩ ⟨S.only ⟨rfl, rfl, rfl, rfl, rfl, rfl, rfl, rfl, rfl, rfl, rfl, trivial⟩, H, ⟨Nat.zero_le _, by simp, hown4⟩⟩ ?_
     clear S a H; rintro ⟨i5, X5, A5, c5, ow5⟩ a w ⟨S, H, hinv⟩
     obtain ⟨hi5, hX5, hown5⟩ := hinv
     have hl5 : X5.length ≤ l.length + 5000 := by rw [hX5]; simp only [List.length_append, List.length_cons, List.length_nil, List.length_take, List.length_replicate, List.length_drop]; omega
     refine wp_seq ?_
     refine c_region ?_
     refine l_pure S (p_lss rfl rfl) rfl rfl rfl ?_; clear S a; intro a S
     refine l_nil ?_
     refine e_then ?_
     refine wp_seq ?_
     refine c_cond S rfl (fun bc37 => ?_) (fun bc37 => ?_)
     ·
      have c37 := bc37
      have c37 := of_decide_eq_true c37
      refine wp_skip ?_
      refine e_then ?_
      refine wp_seq ?_
      refine wp_block ?_
      refine c_region ?_
      refine l_mv 1 S rfl ?_; clear S a; intro a S
      refine l_lit [(.const (.int .u8 48))] S H rfl rfl Tryz.underlying34 sz5 zv5 rfl rfl (by simp [Value.cells]) rfl rfl rfl ?_; clear S a H; intro g38 w a H S
      refine l_ownB [_] (r := [48]) S H rfl rfl rfl hown5 (src_lit (vs := ([48]).map (Value.int .u8)) H List.mem_cons_self Tryz.underlying34 (by simp [Value.oneCell'])) Tryz.underlying34 in5 rfl (by simp only [List.length_cons, List.length_nil, List.length_append]; omega) (by decide) rfl rfl rfl ?_; clear S a H; intro Aow39 cow39 ow39 w a how39 H S; replace H := H.tail
      refine l_mv 1 S rfl ?_; clear S a; intro a S
      refine l_nil ?_
      refine e_in 13 ?_
      refine e_then ?_
      refine c_region ?_
      refine l_pure S (p_add rfl rfl (nat_add (x := i5) (y := 1) (by omega))) rfl rfl rfl ?_; clear S a; intro a S
      refine l_mv 1 S rfl ?_; clear S a; intro a S
      refine l_nil ?_
      refine e_then ?_
      exact ⟨⟨i5 + 1, (X5 ++ [48]), Aow39, cow39, ow39⟩, ⟨S.only ⟨rfl, rfl, rfl, rfl, rfl, rfl, rfl, rfl, rfl, rfl, rfl, trivial⟩, H, ⟨by omega, by rw [hX5, List.append_assoc, ← fz.rep_suc], how39⟩⟩, by show 0 - (i5 + 1) < 0 - i5; omega⟩
     ·
      have c37 := bc37
      have c37 := of_decide_eq_false c37
      refine wp_exit ?_
      refine e_then_exit ?_
      refine e_then_exit ?_
      refine e_in_exit ?_
      refine e_then ?_
      refine wp_seq ?_
      refine c_region ?_
      refine l_mv 2 S rfl ?_; clear S a; intro a S
      refine l_nil ?_
      refine e_then ?_
      refine wp_ret ?_
      refine e_in_ret ?_
      refine e_then_ret ?_
      have ei1 : i1 = q := by omega
      have ei2 : i2 = 0 := by omega
      have ei3 : i3 = 0 := by omega
      have ei4 : i4 = (nd - q) := by omega
      have ei5 : i5 = 0 := by omega
      have eX : X5 = l ++ fz.fmtF true ds nd (q : Int) := by rw [hX5, hX4, hX3, hX2, hX1, ei1, ei2, ei3, ei4, ei5]; unfold fz.fmtF fz.sgn; rw [if_pos (by omega), if_neg (by omega), Int.toNat_natCast]; simp
      have hw := hown5
      rw [eX] at S hw
      exact r_ret1 S rfl rfl ⟨_, _, _, rfl, hw, H⟩
set_option maxHeartbeats 1000000 in
theorem efgN_t (wb w0 : World) (B : Nat) (L0 : List (Nat × Obj)) (gb q nd : Nat) (cs : Array Value) (ds : List Int) (hrow : bf.Row cs 0 ds) (hnd : nd ≤ ds.length) (hds : ds.length ≤ 32) (hq : q ≤ 1000)  (A : Option Addr) (c : Nat) (l : List Int) (ow : List (Nat × Obj)) (hown : OwnB 5 (.slice A l.length c) l ow) (hl : l.length ≤ 100000000000000) (H : HH B wb w0 (ow ++ ((gb, .cells cs 150 (0, 0)) :: L0))) : Calls Tryz.prog 46 #[.slice A l.length c, .bool true, .slice (some ⟨gb, 0, none⟩) 32 32, .int .i64 (-(q : Int)), .int .i64 (nd : Int), .int .i64 ((nd + q : Nat) : Int), .int .u8 102, .bool true] w0 fun e w' => ∃ (A' : Option Addr) (c' : Nat) (ow' : List (Nat × Obj)), e = .returned (.slice A' (l ++ fz.fmtF true ds nd (-(q : Int))).length c') ∧ OwnB 5 (.slice A' (l ++ fz.fmtF true ds nd (-(q : Int))).length c') (l ++ fz.fmtF true ds nd (-(q : Int))) ow' ∧ HH B wb w' (ow' ++ ((gb, .cells cs 150 (0, 0)) :: L0)) := by
 refine c_enter (args := [.slice A l.length c, .bool true, .slice (some ⟨gb, 0, none⟩) 32 32, .int .i64 (-(q : Int)), .int .i64 (nd : Int), .int .i64 ((nd + q : Nat) : Int), .int .u8 102, .bool true]) (k := 264) Tryz.func46 rfl rfl rfl (fun a S => ?_)
 refine wp_seq ?_
 refine c_region ?_
 refine l_mv 1 S rfl ?_; clear S a; intro a S
 refine l_nil ?_
 refine e_then ?_
 refine wp_seq ?_
 refine wp_seq ?_
 refine c_region ?_
 refine l_mv 1 S rfl ?_; clear S a; intro a S
 refine l_pure S (p_eql rfl rfl) rfl rfl rfl ?_; clear S a; intro a S
 refine l_mv 1 S rfl ?_; clear S a; intro a S
 refine l_on S rfl rfl rfl rfl rfl ?_
 refine l_pure S (p_move rfl) rfl rfl rfl ?_; clear S a; intro a S
 refine l_on S rfl rfl rfl rfl rfl ?_
 refine l_pure S (p_eql rfl rfl) rfl rfl rfl ?_; clear S a; intro a S
 refine l_pure S (p_pick_f rfl rfl rfl) rfl rfl rfl ?_; clear S a; intro a S
 refine l_nil ?_
 refine e_then ?_
 refine c_cond (b := false) S rfl (fun h => by cases h) (fun _ => ?_)
 refine wp_skip ?_
 refine e_then ?_
 refine wp_seq ?_
 refine wp_seq ?_
 refine c_region ?_
 refine l_mv 1 S rfl ?_; clear S a; intro a S
 refine l_nil ?_
 refine e_then ?_
 refine wp_block ?_
 refine wp_seq ?_
 refine wp_seq ?_
 refine c_region ?_
 refine l_pure S (p_eql rfl rfl) rfl rfl rfl ?_; clear S a; intro a S
 refine l_mv 1 S rfl ?_; clear S a; intro a S
 refine l_nil ?_
 refine e_then ?_
 refine c_cond (b := false) S rfl (fun h => by cases h) (fun _ => ?_)
 refine c_region ?_
 refine l_pure S (p_eql rfl rfl) rfl rfl rfl ?_; clear S a; intro a S
 refine l_mv 1 S rfl ?_; clear S a; intro a S
 refine l_nil ?_
 refine e_then ?_
 refine c_cond (b := false) S rfl (fun h => by cases h) (fun _ => ?_)
 refine wp_seq ?_
 refine c_region ?_
 refine l_pure S (p_eql rfl rfl) rfl rfl rfl ?_; clear S a; intro a S
 refine l_mv 1 S rfl ?_; clear S a; intro a S
 refine l_nil ?_
 refine e_then ?_
 refine c_cond (b := true) S rfl (fun _ => ?_) (fun h => by cases h)
 refine wp_seq ?_
 refine wp_seq ?_
 refine c_region ?_
 refine l_mv 1 S rfl ?_; clear S a; intro a S
 refine l_nil ?_
 refine e_then ?_
 refine c_cond (b := true) S rfl (fun _ => ?_) (fun h => by cases h)
 refine c_region ?_
 refine l_mv 1 S rfl ?_; clear S a; intro a S
 refine l_lit [(.const (.int .u8 45))] S H rfl rfl Tryz.underlying34 sz5 zv5 rfl rfl (by simp [Value.cells]) rfl rfl rfl ?_; clear S a H; intro g12 w a H S
 refine l_ownB [_] (r := [45]) S H rfl rfl rfl hown (src_lit (vs := ([45]).map (Value.int .u8)) H List.mem_cons_self Tryz.underlying34 (by simp [Value.oneCell'])) Tryz.underlying34 in5 rfl (by simp only [List.length_cons, List.length_nil, List.length_append]; omega) (by decide) rfl rfl rfl ?_; clear S a H; intro Aow13 cow13 ow13 w a how13 H S; replace H := H.tail
 refine l_mv 1 S rfl ?_; clear S a; intro a S
 refine l_nil ?_
 refine e_then ?_
 refine wp_seq ?_
 refine wp_seq ?_
 refine c_region ?_
 refine l_mv 1 S rfl ?_; clear S a; intro a S
 refine l_pure S (p_gtr rfl rfl) rfl rfl rfl ?_; clear S a; intro a S
 refine l_nil ?_
 refine e_then ?_
 refine c_cond S rfl (fun c15 => by have c15 := of_decide_eq_true c15; exfalso; omega) (fun c15 => ?_)
 have c15 := of_decide_eq_false c15
 refine c_region ?_
 refine l_mv 1 S rfl ?_; clear S a; intro a S
 refine l_lit [(.const (.int .u8 48))] S H rfl rfl Tryz.underlying34 sz5 zv5 rfl rfl (by simp [Value.cells]) rfl rfl rfl ?_; clear S a H; intro g16 w a H S
 refine l_ownB [_] (r := [48]) S H rfl rfl rfl how13 (src_lit (vs := ([48]).map (Value.int .u8)) H List.mem_cons_self Tryz.underlying34 (by simp [Value.oneCell'])) Tryz.underlying34 in5 rfl (by simp only [List.length_cons, List.length_nil, List.length_append]; omega) (by decide) rfl rfl rfl ?_; clear S a H; intro Aow17 cow17 ow17 w a how17 H S; replace H := H.tail
 refine l_mv 1 S rfl ?_; clear S a; intro a S
 refine l_nil ?_
 refine e_then ?_
 refine wp_seq ?_
 refine wp_seq ?_
 refine c_region ?_
 refine l_mv 1 S rfl ?_; clear S a; intro a S
 refine l_pure S (p_gtr rfl rfl) rfl rfl rfl ?_; clear S a; intro a S
 refine l_nil ?_
 refine e_then ?_
 refine c_cond S rfl (fun bc19 => ?_) (fun bc19 => ?_)
 ·
  have c19 := bc19
  have c19 := of_decide_eq_true c19
  refine wp_seq ?_
  refine c_region ?_
  refine l_mv 1 S rfl ?_; clear S a; intro a S
  refine l_lit [(.const (.int .u8 46))] S H rfl rfl Tryz.underlying34 sz5 zv5 rfl rfl (by simp [Value.cells]) rfl rfl rfl ?_; clear S a H; intro g20 w a H S
  refine l_ownB [_] (r := [46]) S H rfl rfl rfl how17 (src_lit (vs := ([46]).map (Value.int .u8)) H List.mem_cons_self Tryz.underlying34 (by simp [Value.oneCell'])) Tryz.underlying34 in5 rfl (by simp only [List.length_cons, List.length_nil, List.length_append]; omega) (by decide) rfl rfl rfl ?_; clear S a H; intro Aow21 cow21 ow21 w a how21 H S; replace H := H.tail
  refine l_mv 1 S rfl ?_; clear S a; intro a S
  refine l_nil ?_
  refine e_then ?_
  refine wp_seq ?_
  refine c_region ?_
  refine l_mv 2 S rfl ?_; clear S a; intro a S
  refine l_pure S (p_un rfl (fun w => fz.neg64 (by omega) w)) rfl rfl rfl ?_; clear S a; intro a S
  refine l_pure S (fz.p_maxV (r := ((q : Nat) : Int)) rfl rfl (by split <;> omega)) rfl rfl rfl ?_; clear S a; intro a S
  refine l_pure S (fz.p_minV (r := ((q : Nat) : Int)) rfl rfl (by split <;> omega)) rfl rfl rfl ?_; clear S a; intro a S
  refine l_mv 1 S rfl ?_; clear S a; intro a S
  refine l_nil ?_
  refine e_then ?_
  refine wp_seq ?_
  refine c_region ?_
  refine l_mv 2 S rfl ?_; clear S a; intro a S
  refine l_pure S (p_add (r := ((0 : Nat) : Int)) rfl rfl (by rw [IntWalk.i64_in _ (by omega)]; omega)) rfl rfl rfl ?_; clear S a; intro a S
  refine l_mv 1 S rfl ?_; clear S a; intro a S
  refine l_nil ?_
  refine e_then ?_
  refine wp_seq ?_
  refine c_region ?_
  refine l_mv 2 S rfl ?_; clear S a; intro a S
  refine l_pure S (p_sub (r := ((nd : Nat) : Int)) rfl rfl (by rw [IntWalk.i64_in _ (by omega)]; omega)) rfl rfl rfl ?_; clear S a; intro a S
  refine l_mv 2 S rfl ?_; clear S a; intro a S
  refine l_pure S (p_sub (r := ((nd : Nat) : Int)) rfl rfl (by rw [IntWalk.i64_in _ (by omega)]; omega)) rfl rfl rfl ?_; clear S a; intro a S
  refine l_pure S (fz.p_maxV (r := ((nd : Nat) : Int)) rfl rfl (by split <;> omega)) rfl rfl rfl ?_; clear S a; intro a S
  refine l_pure S (fz.p_minV (r := ((nd : Nat) : Int)) rfl rfl (by split <;> omega)) rfl rfl rfl ?_; clear S a; intro a S
  refine l_mv 1 S rfl ?_; clear S a; intro a S
  refine l_nil ?_
  refine e_then ?_
  refine wp_seq ?_
  refine c_region ?_
  refine l_mv 2 S rfl ?_; clear S a; intro a S
  refine l_pure S (p_sub (r := ((nd : Nat) : Int)) rfl rfl (by rw [IntWalk.i64_in _ (by omega)]; omega)) rfl rfl rfl ?_; clear S a; intro a S
  refine l_mv 1 S rfl ?_; clear S a; intro a S
  refine l_pure S (p_sub (r := ((0 : Nat) : Int)) rfl rfl (by rw [IntWalk.i64_in _ (by omega)]; omega)) rfl rfl rfl ?_; clear S a; intro a S
  refine l_pure S (fz.p_maxV (r := ((0 : Nat) : Int)) rfl rfl (by split <;> omega)) rfl rfl rfl ?_; clear S a; intro a S
  refine l_mv 1 S rfl ?_; clear S a; intro a S
  refine l_nil ?_
  refine e_then ?_
  refine wp_seq ?_
  refine wp_seq ?_
  refine c_region ?_
  refine l_mv 2 S rfl ?_; clear S a; intro a S
  refine l_nil ?_
  refine e_then ?_
  refine wp_block ?_
  refine c_loop (σ := Nat × List Int × Option Addr × Nat × List (Nat × Obj)) (fun s_ a w => match s_ with | ⟨i1, X1, A1, c1, ow1⟩ => SL a 272 [] [(0, .slice A1 X1.length c1), (240, .int .i64 (i1 : Int)), (239, .int .i64 ((q : Nat) : Int)), (2, .slice (some ⟨gb, 0, none⟩) 32 32), (3, .int .i64 (-((q : Nat) : Int))), (4, .int .i64 ((nd : Nat) : Int)), (5, .int .i64 (((nd + q) : Nat) : Int)), (26, .int .i64 ((q : Nat) : Int)), (27, .int .i64 ((0 : Nat) : Int)), (28, .int .i64 ((nd : Nat) : Int)), (29, .int .i64 ((0 : Nat) : Int))] ∧ HH (B) wb w (ow1 ++ ((gb, .cells cs 150 (0, 0)) :: L0)) ∧ (i1 ≤ q ∧ X1 = (((l ++ [45]) ++ [48]) ++ [46]) ++ List.replicate i1 48 ∧ OwnB 5 (.slice A1 X1.length c1) X1 ow1)) (fun s_ => match s_ with | ⟨i1, X1, A1, c1, ow1⟩ => q - i1) ⟨0, (((l ++ [45]) ++ [48]) ++ [46]), Aow21, cow21, ow21⟩ ⟨S.only ⟨rfl, rfl, rfl, rfl, rfl, rfl, rfl, rfl, rfl, rfl, rfl, trivial⟩, H, ⟨Nat.zero_le _, by simp, how21⟩⟩ ?_
  clear S a H; rintro ⟨i1, X1, A1, c1, ow1⟩ a w ⟨S, H, hinv⟩
  obtain ⟨hi1, hX1, hown1⟩ := hinv
  have hl1 : X1.length ≤ l.length + 3000 := by rw [hX1]; simp only [List.length_append, List.length_cons, List.length_nil, List.length_take, List.length_replicate, List.length_drop]; omega
  refine wp_seq ?_
  refine c_region ?_
  refine l_pure S (p_lss rfl rfl) rfl rfl rfl ?_; clear S a; intro a S
  refine l_nil ?_
  refine e_then ?_
  refine wp_seq ?_
  refine c_cond S rfl (fun bc23 => ?_) (fun bc23 => ?_)
  ·
   have c23 := bc23
   have c23 := of_decide_eq_true c23
   refine wp_skip ?_
   refine e_then ?_
   refine wp_seq ?_
   refine wp_block ?_
   refine c_region ?_
   refine l_mv 1 S rfl ?_; clear S a; intro a S
   refine l_lit [(.const (.int .u8 48))] S H rfl rfl Tryz.underlying34 sz5 zv5 rfl rfl (by simp [Value.cells]) rfl rfl rfl ?_; clear S a H; intro g24 w a H S
   refine l_ownB [_] (r := [48]) S H rfl rfl rfl hown1 (src_lit (vs := ([48]).map (Value.int .u8)) H List.mem_cons_self Tryz.underlying34 (by simp [Value.oneCell'])) Tryz.underlying34 in5 rfl (by simp only [List.length_cons, List.length_nil, List.length_append]; omega) (by decide) rfl rfl rfl ?_; clear S a H; intro Aow25 cow25 ow25 w a how25 H S; replace H := H.tail
   refine l_mv 1 S rfl ?_; clear S a; intro a S
   refine l_nil ?_
   refine e_in 9 ?_
   refine e_then ?_
   refine c_region ?_
   refine l_pure S (p_add rfl rfl (nat_add (x := i1) (y := 1) (by omega))) rfl rfl rfl ?_; clear S a; intro a S
   refine l_mv 1 S rfl ?_; clear S a; intro a S
   refine l_nil ?_
   refine e_then ?_
   exact ⟨⟨i1 + 1, (X1 ++ [48]), Aow25, cow25, ow25⟩, ⟨S.only ⟨rfl, rfl, rfl, rfl, rfl, rfl, rfl, rfl, rfl, rfl, rfl, trivial⟩, H, ⟨by omega, by rw [hX1, List.append_assoc, ← fz.rep_suc], how25⟩⟩, by show q - (i1 + 1) < q - i1; omega⟩
  ·
   have c23 := bc23
   have c23 := of_decide_eq_false c23
   refine wp_exit ?_
   refine e_then_exit ?_
   refine e_then_exit ?_
   refine e_in_exit ?_
   refine e_then ?_
   refine wp_seq ?_
   refine wp_seq ?_
   refine c_region ?_
   refine l_mv 2 S rfl ?_; clear S a; intro a S
   refine l_nil ?_
   refine e_then ?_
   refine wp_block ?_
   refine c_loop (σ := Nat × List Int × Option Addr × Nat × List (Nat × Obj)) (fun s_ a w => match s_ with | ⟨i2, X2, A2, c2, ow2⟩ => SL a 272 [] [(0, .slice A2 X2.length c2), (247, .int .i64 (i2 : Int)), (246, .int .i64 ((nd : Nat) : Int)), (2, .slice (some ⟨gb, 0, none⟩) 32 32), (3, .int .i64 (-((q : Nat) : Int))), (4, .int .i64 ((nd : Nat) : Int)), (5, .int .i64 (((nd + q) : Nat) : Int)), (26, .int .i64 ((q : Nat) : Int)), (27, .int .i64 ((0 : Nat) : Int)), (28, .int .i64 ((nd : Nat) : Int)), (29, .int .i64 ((0 : Nat) : Int))] ∧ HH (B) wb w (ow2 ++ ((gb, .cells cs 150 (0, 0)) :: L0)) ∧ (i2 ≤ nd ∧ X2 = X1 ++ ds.take i2 ∧ OwnB 5 (.slice A2 X2.length c2) X2 ow2)) (fun s_ => match s_ with | ⟨i2, X2, A2, c2, ow2⟩ => nd - i2) ⟨0, X1, A1, c1, ow1⟩ ⟨S.only ⟨rfl, rfl, rfl, rfl, rfl, rfl, rfl, rfl, rfl, rfl, rfl, trivial⟩, H, ⟨Nat.zero_le _, by simp, hown1⟩⟩ ?_
   clear S a H; rintro ⟨i2, X2, A2, c2, ow2⟩ a w ⟨S, H, hinv⟩
   obtain ⟨hi2, hX2, hown2⟩ := hinv
   have hl2 : X2.length ≤ l.length + 4000 := by rw [hX2]; simp only [List.length_append, List.length_cons, List.length_nil, List.length_take, List.length_replicate, List.length_drop]; omega
   refine wp_seq ?_
   refine c_region ?_
   refine l_pure S (p_lss rfl rfl) rfl rfl rfl ?_; clear S a; intro a S
   refine l_nil ?_
   refine e_then ?_
   refine wp_seq ?_
   refine c_cond S rfl (fun bc27 => ?_) (fun bc27 => ?_)
   ·
    have c27 := bc27
    have c27 := of_decide_eq_true c27
    refine wp_skip ?_
    refine e_then ?_
    refine wp_seq ?_
    refine wp_block ?_
    refine wp_seq ?_
    refine c_region ?_
    refine l_mv 2 S rfl ?_; clear S a; intro a S
    refine l_nil ?_
    refine e_then ?_
    refine c_region ?_
    refine l_mv 4 S rfl ?_; clear S a; intro a S
    refine l_pure S (p_add rfl rfl (nat_add (x := 0) (y := i2) (by omega))) rfl rfl rfl ?_; clear S a; intro a S
    refine l_pure S (p_indexAddr rfl rfl (fun w => ia_slice Tryz.underlying34 sz5 (by omega) (by omega))) rfl rfl rfl ?_; clear S a; intro a S
    refine l_read S H (r_load rfl (List.mem_append_right _ List.mem_cons_self) (fz.row_cell hrow (i := i2) (by omega) (by omega)) (fun w hc => ld1 ag5 hc)) rfl rfl rfl ?_; clear S a; intro a S
    refine l_lit [(.tmp 256)] S H rfl rfl Tryz.underlying34 sz5 zv5 rfl rfl (by simp [Value.cells]) rfl rfl rfl ?_; clear S a H; intro g28 w a H S
    refine l_ownB [_] (r := [(ds.getD i2 0)]) S H rfl rfl rfl hown2 (src_lit (vs := ([(ds.getD i2 0)]).map (Value.int .u8)) H List.mem_cons_self Tryz.underlying34 (by simp [Value.oneCell'])) Tryz.underlying34 in5 rfl (by simp only [List.length_cons, List.length_nil, List.length_append]; omega) (by decide) rfl rfl rfl ?_; clear S a H; intro Aow29 cow29 ow29 w a how29 H S; replace H := H.tail
    refine l_mv 1 S rfl ?_; clear S a; intro a S
    refine l_nil ?_
    refine e_in 11 ?_
    refine e_then ?_
    refine c_region ?_
    refine l_pure S (p_add rfl rfl (nat_add (x := i2) (y := 1) (by omega))) rfl rfl rfl ?_; clear S a; intro a S
    refine l_mv 1 S rfl ?_; clear S a; intro a S
    refine l_nil ?_
    refine e_then ?_
    exact ⟨⟨i2 + 1, (X2 ++ [(ds.getD i2 0)]), Aow29, cow29, ow29⟩, ⟨S.only ⟨rfl, rfl, rfl, rfl, rfl, rfl, rfl, rfl, rfl, rfl, rfl, trivial⟩, H, ⟨by omega, by rw [hX2, List.append_assoc, ← fz.take_suc (by omega)], how29⟩⟩, by show nd - (i2 + 1) < nd - i2; omega⟩
   ·
    have c27 := bc27
    have c27 := of_decide_eq_false c27
    refine wp_exit ?_
    refine e_then_exit ?_
    refine e_then_exit ?_
    refine e_in_exit ?_
    refine e_then ?_
    refine wp_seq ?_
    refine c_region ?_
    refine l_mv 2 S rfl ?_; clear S a; intro a S
    refine l_nil ?_
    refine e_then ?_
    refine wp_block ?_
    refine c_loop (σ := Nat × List Int × Option Addr × Nat × List (Nat × Obj)) (fun s_ a w => match s_ with | ⟨i3, X3, A3, c3, ow3⟩ => SL a 272 [] [(0, .slice A3 X3.length c3), (261, .int .i64 (i3 : Int)), (260, .int .i64 ((0 : Nat) : Int)), (2, .slice (some ⟨gb, 0, none⟩) 32 32), (3, .int .i64 (-((q : Nat) : Int))), (4, .int .i64 ((nd : Nat) : Int)), (5, .int .i64 (((nd + q) : Nat) : Int)), (26, .int .i64 ((q : Nat) : Int)), (27, .int .i64 ((0 : Nat) : Int)), (28, .int .i64 ((nd : Nat) : Int)), (29, .int .i64 ((0 : Nat) : Int))] ∧ HH (B) wb w (ow3 ++ ((gb, .cells cs 150 (0, 0)) :: L0)) ∧ (i3 ≤ 0 ∧ X3 = X2 ++ List.replicate i3 48 ∧ OwnB 5 (.slice A3 X3.length c3) X3 ow3)) (fun s_ => match s_ with | ⟨i3, X3, A3, c3, ow3⟩ => 0 - i3) ⟨0, X2, A2, c2, ow2⟩ ⟨S.only ⟨rfl, rfl, rfl, rfl, rfl, rfl, rfl, rfl, rfl, rfl, rfl, trivial⟩, H, ⟨Nat.zero_le _, by simp, hown2⟩⟩ ?_
    clear S a H; rintro ⟨i3, X3, A3, c3, ow3⟩ a w ⟨S, H, hinv⟩
    obtain ⟨hi3, hX3, hown3⟩ := hinv
    have hl3 : X3.length ≤ l.length + 5000 := by rw [hX3]; simp only [List.length_append, List.length_cons, List.length_nil, List.length_take, List.length_replicate, List.length_drop]; omega
    refine wp_seq ?_
    refine c_region ?_
    refine l_pure S (p_lss rfl rfl) rfl rfl rfl ?_; clear S a; intro a S
    refine l_nil ?_
    refine e_then ?_
    refine wp_seq ?_
    refine c_cond S rfl (fun bc31 => ?_) (fun bc31 => ?_)
    ·
     have c31 := bc31
     have c31 := of_decide_eq_true c31
     refine wp_skip ?_
     refine e_then ?_
     refine wp_seq ?_
     refine wp_block ?_
     refine c_region ?_
     refine l_mv 1 S rfl ?_; clear S a; intro a S
     refine l_lit [(.const (.int .u8 48))] S H rfl rfl Tryz.underlying34 sz5 zv5 rfl rfl (by simp [Value.cells]) rfl rfl rfl ?_; clear S a H; intro g32 w a H S
     refine l_ownB [_] (r := [48]) S H rfl rfl rfl hown3 (src_lit (vs := ([48]).map (Value.int .u8)) H List.mem_cons_self Tryz.underlying34 (by simp [Value.oneCell'])) Tryz.underlying34 in5 rfl (by simp only [List.length_cons, List.length_nil, List.length_append]; omega) (by decide) rfl rfl rfl ?_; clear S a H; intro Aow33 cow33 ow33 w a how33 H S; replace H := H.tail
     refine l_mv 1 S rfl ?_; clear S a; intro a S
     refine l_nil ?_
     refine e_in 13 ?_
     refine e_then ?_
     refine c_region ?_
     refine l_pure S (p_add rfl rfl (nat_add (x := i3) (y := 1) (by omega))) rfl rfl rfl ?_; clear S a; intro a S
     refine l_mv 1 S rfl ?_; clear S a; intro a S
     refine l_nil ?_
     refine e_then ?_
     exact ⟨⟨i3 + 1, (X3 ++ [48]), Aow33, cow33, ow33⟩, ⟨S.only ⟨rfl, rfl, rfl, rfl, rfl, rfl, rfl, rfl, rfl, rfl, rfl, trivial⟩, H, ⟨by omega, by rw [hX3, List.append_assoc, ← fz.rep_suc], how33⟩⟩, by show 0 - (i3 + 1) < 0 - i3; omega⟩
    ·
     have c31 := bc31
     have c31 := of_decide_eq_false c31
     refine wp_exit ?_
     refine e_then_exit ?_
     refine e_then_exit ?_
     refine e_in_exit ?_
     refine e_then ?_
     refine wp_seq ?_
     refine c_region ?_
     refine l_mv 2 S rfl ?_; clear S a; intro a S
     refine l_nil ?_
     refine e_then ?_
     refine wp_ret ?_
     refine e_in_ret ?_
     refine e_then_ret ?_
     have ei1 : i1 = q := by omega
     have ei2 : i2 = nd := by omega
     have ei3 : i3 = 0 := by omega
     have eX : X3 = l ++ fz.fmtF true ds nd (-(q : Int)) := by rw [hX3, hX2, hX1, ei1, ei2, ei3]; unfold fz.fmtF fz.sgn; rw [if_neg (by omega), if_neg (by omega), Int.neg_neg, Int.toNat_natCast]; simp
     have hw := hown3
     rw [eX] at S hw
     exact r_ret1 S rfl rfl ⟨_, _, _, rfl, hw, H⟩
 ·
  have c19 := bc19
  have c19 := of_decide_eq_false c19
  refine wp_skip ?_
  refine e_then ?_
  refine wp_seq ?_
  refine c_region ?_
  refine l_mv 2 S rfl ?_; clear S a; intro a S
  refine l_nil ?_
  refine e_then ?_
  refine wp_ret ?_
  refine e_in_ret ?_
  refine e_then_ret ?_
  have eX : ((l ++ [45]) ++ [48]) = l ++ fz.fmtF true ds nd (-(q : Int)) := by unfold fz.fmtF fz.sgn; rw [if_neg (by omega), if_pos (by omega)]; simp
  have hw := how17
  rw [eX] at S hw
  exact r_ret1 S rfl rfl ⟨_, _, _, rfl, hw, H⟩
set_option maxHeartbeats 1000000 in
theorem efgZ_f (wb w0 : World) (B : Nat) (L0 : List (Nat × Obj))  (A : Option Addr) (c : Nat) (l : List Int) (ow : List (Nat × Obj)) (hown : OwnB 5 (.slice A l.length c) l ow) (hl : l.length ≤ 100000000000000) (H : HH B wb w0 (ow ++ (L0))) : Calls Tryz.prog 46 #[.slice A l.length c, .bool false, .slice none 0 0, .int .i64 0, .int .i64 0, .int .i64 (-1), .int .u8 102, .bool true] w0 fun e w' => ∃ (A' : Option Addr) (c' : Nat) (ow' : List (Nat × Obj)), e = .returned (.slice A' (l ++ fz.fmtF false [] 0 0).length c') ∧ OwnB 5 (.slice A' (l ++ fz.fmtF false [] 0 0).length c') (l ++ fz.fmtF false [] 0 0) ow' ∧ HH B wb w' (ow' ++ (L0)) := by
 refine c_enter (args := [.slice A l.length c, .bool false, .slice none 0 0, .int .i64 0, .int .i64 0, .int .i64 (-1), .int .u8 102, .bool true]) (k := 264) Tryz.func46 rfl rfl rfl (fun a S => ?_)
 refine wp_seq ?_
 refine c_region ?_
 refine l_mv 1 S rfl ?_; clear S a; intro a S
 refine l_nil ?_
 refine e_then ?_
 refine wp_seq ?_
 refine wp_seq ?_
 refine c_region ?_
 refine l_mv 1 S rfl ?_; clear S a; intro a S
 refine l_pure S (p_eql rfl rfl) rfl rfl rfl ?_; clear S a; intro a S
 refine l_mv 1 S rfl ?_; clear S a; intro a S
 refine l_on S rfl rfl rfl rfl rfl ?_
 refine l_pure S (p_move rfl) rfl rfl rfl ?_; clear S a; intro a S
 refine l_on S rfl rfl rfl rfl rfl ?_
 refine l_pure S (p_eql rfl rfl) rfl rfl rfl ?_; clear S a; intro a S
 refine l_pure S (p_pick_f rfl rfl rfl) rfl rfl rfl ?_; clear S a; intro a S
 refine l_nil ?_
 refine e_then ?_
 refine c_cond (b := false) S rfl (fun h => by cases h) (fun _ => ?_)
 refine wp_skip ?_
 refine e_then ?_
 refine wp_seq ?_
 refine wp_seq ?_
 refine c_region ?_
 refine l_mv 1 S rfl ?_; clear S a; intro a S
 refine l_nil ?_
 refine e_then ?_
 refine wp_block ?_
 refine wp_seq ?_
 refine wp_seq ?_
 refine c_region ?_
 refine l_pure S (p_eql rfl rfl) rfl rfl rfl ?_; clear S a; intro a S
 refine l_mv 1 S rfl ?_; clear S a; intro a S
 refine l_nil ?_
 refine e_then ?_
 refine c_cond (b := false) S rfl (fun h => by cases h) (fun _ => ?_)
 refine c_region ?_
 refine l_pure S (p_eql rfl rfl) rfl rfl rfl ?_; clear S a; intro a S
 refine l_mv 1 S rfl ?_; clear S a; intro a S
 refine l_nil ?_
 refine e_then ?_
 refine c_cond (b := false) S rfl (fun h => by cases h) (fun _ => ?_)
 refine wp_seq ?_
 refine c_region ?_
 refine l_pure S (p_eql rfl rfl) rfl rfl rfl ?_; clear S a; intro a S
 refine l_mv 1 S rfl ?_; clear S a; intro a S
 refine l_nil ?_
 refine e_then ?_
 refine c_cond (b := true) S rfl (fun _ => ?_) (fun h => by cases h)
 refine wp_seq ?_
 refine wp_seq ?_
 refine c_region ?_
 refine l_mv 1 S rfl ?_; clear S a; intro a S
 refine l_nil ?_
 refine e_then ?_
 refine c_cond (b := false) S rfl (fun h => by cases h) (fun _ => ?_)
 refine wp_skip ?_
 refine e_then ?_
 refine wp_seq ?_
 refine wp_seq ?_
 refine c_region ?_
 refine l_mv 1 S rfl ?_; clear S a; intro a S
 refine l_pure S (p_gtr rfl rfl) rfl rfl rfl ?_; clear S a; intro a S
 refine l_nil ?_
 refine e_then ?_
 refine c_cond (b := false) S rfl (fun h => by cases h) (fun _ => ?_)
 refine c_region ?_
 refine l_mv 1 S rfl ?_; clear S a; intro a S
 refine l_lit [(.const (.int .u8 48))] S H rfl rfl Tryz.underlying34 sz5 zv5 rfl rfl (by simp [Value.cells]) rfl rfl rfl ?_; clear S a H; intro g14 w a H S
 refine l_ownB [_] (r := [48]) S H rfl rfl rfl hown (src_lit (vs := ([48]).map (Value.int .u8)) H List.mem_cons_self Tryz.underlying34 (by simp [Value.oneCell'])) Tryz.underlying34 in5 rfl (by simp only [List.length_cons, List.length_nil, List.length_append]; omega) (by decide) rfl rfl rfl ?_; clear S a H; intro Aow15 cow15 ow15 w a how15 H S; replace H := H.tail
 refine l_mv 1 S rfl ?_; clear S a; intro a S
 refine l_nil ?_
 refine e_then ?_
 refine wp_seq ?_
 refine wp_seq ?_
 refine c_region ?_
 refine l_mv 1 S rfl ?_; clear S a; intro a S
 refine l_pure S (p_gtr rfl rfl) rfl rfl rfl ?_; clear S a; intro a S
 refine l_nil ?_
 refine e_then ?_
 refine c_cond (b := false) S rfl (fun h => by cases h) (fun _ => ?_)
 refine wp_skip ?_
 refine e_then ?_
 refine wp_seq ?_
 refine c_region ?_
 refine l_mv 2 S rfl ?_; clear S a; intro a S
 refine l_nil ?_
 refine e_then ?_
 refine wp_ret ?_
 refine e_in_ret ?_
 refine e_then_ret ?_
 have eX : (l ++ [48]) = l ++ fz.fmtF false [] 0 0 := by unfold fz.fmtF fz.sgn; simp
 have hw := how15
 rw [eX] at S hw
 exact r_ret1 S rfl rfl ⟨_, _, _, rfl, hw, H⟩
set_option maxHeartbeats 1000000 in
theorem efgP1_f (wb w0 : World) (B : Nat) (L0 : List (Nat × Obj)) (gb q nd : Nat) (cs : Array Value) (ds : List Int) (hrow : bf.Row cs 0 ds) (hnd : nd ≤ ds.length) (hds : ds.length ≤ 32) (hq : q ≤ 1000) (hq0 : 0 < q) (hnq : nd ≤ q) (A : Option Addr) (c : Nat) (l : List Int) (ow : List (Nat × Obj)) (hown : OwnB 5 (.slice A l.length c) l ow) (hl : l.length ≤ 100000000000000) (H : HH B wb w0 (ow ++ ((gb, .cells cs 150 (0, 0)) :: L0))) : Calls Tryz.prog 46 #[.slice A l.length c, .bool false, .slice (some ⟨gb, 0, none⟩) 32 32, .int .i64 (q : Int), .int .i64 (nd : Int), .int .i64 0, .int .u8 102, .bool true] w0 fun e w' => ∃ (A' : Option Addr) (c' : Nat) (ow' : List (Nat × Obj)), e = .returned (.slice A' (l ++ fz.fmtF false ds nd (q : Int)).length c') ∧ OwnB 5 (.slice A' (l ++ fz.fmtF false ds nd (q : Int)).length c') (l ++ fz.fmtF false ds nd (q : Int)) ow' ∧ HH B wb w' (ow' ++ ((gb, .cells cs 150 (0, 0)) :: L0)) := by
 refine c_enter (args := [.slice A l.length c, .bool false, .slice (some ⟨gb, 0, none⟩) 32 32, .int .i64 (q : Int), .int .i64 (nd : Int), .int .i64 0, .int .u8 102, .bool true]) (k := 264) Tryz.func46 rfl rfl rfl (fun a S => ?_)
 refine wp_seq ?_
 refine c_region ?_
 refine l_mv 1 S rfl ?_; clear S a; intro a S
 refine l_nil ?_
 refine e_then ?_
 refine wp_seq ?_
 refine wp_seq ?_
 refine c_region ?_
 refine l_mv 1 S rfl ?_; clear S a; intro a S
 refine l_pure S (p_eql rfl rfl) rfl rfl rfl ?_; clear S a; intro a S
 refine l_mv 1 S rfl ?_; clear S a; intro a S
 refine l_on S rfl rfl rfl rfl rfl ?_
 refine l_pure S (p_move rfl) rfl rfl rfl ?_; clear S a; intro a S
 refine l_on S rfl rfl rfl rfl rfl ?_
 refine l_pure S (p_eql rfl rfl) rfl rfl rfl ?_; clear S a; intro a S
 refine l_pure S (p_pick_f rfl rfl rfl) rfl rfl rfl ?_; clear S a; intro a S
 refine l_nil ?_
 refine e_then ?_
 refine c_cond (b := false) S rfl (fun h => by cases h) (fun _ => ?_)
 refine wp_skip ?_
 refine e_then ?_
 refine wp_seq ?_
 refine wp_seq ?_
 refine c_region ?_
 refine l_mv 1 S rfl ?_; clear S a; intro a S
 refine l_nil ?_
 refine e_then ?_
 refine wp_block ?_
 refine wp_seq ?_
 refine wp_seq ?_
 refine c_region ?_
 refine l_pure S (p_eql rfl rfl) rfl rfl rfl ?_; clear S a; intro a S
 refine l_mv 1 S rfl ?_; clear S a; intro a S
 refine l_nil ?_
 refine e_then ?_
 refine c_cond (b := false) S rfl (fun h => by cases h) (fun _ => ?_)
 refine c_region ?_
 refine l_pure S (p_eql rfl rfl) rfl rfl rfl ?_; clear S a; intro a S
 refine l_mv 1 S rfl ?_; clear S a; intro a S
 refine l_nil ?_
 refine e_then ?_
 refine c_cond (b := false) S rfl (fun h => by cases h) (fun _ => ?_)
 refine wp_seq ?_
 refine c_region ?_
 refine l_pure S (p_eql rfl rfl) rfl rfl rfl ?_; clear S a; intro a S
 refine l_mv 1 S rfl ?_; clear S a; intro a S
 refine l_nil ?_
 refine e_then ?_
 refine c_cond (b := true) S rfl (fun _ => ?_) (fun h => by cases h)
 refine wp_seq ?_
 refine wp_seq ?_
 refine c_region ?_
 refine l_mv 1 S rfl ?_; clear S a; intro a S
 refine l_nil ?_
 refine e_then ?_
 refine c_cond (b := false) S rfl (fun h => by cases h) (fun _ => ?_)
 refine wp_skip ?_
 refine e_then ?_
 refine wp_seq ?_
 refine wp_seq ?_
 refine c_region ?_
 refine l_mv 1 S rfl ?_; clear S a; intro a S
 refine l_pure S (p_gtr rfl rfl) rfl rfl rfl ?_; clear S a; intro a S
 refine l_nil ?_
 refine e_then ?_
 refine c_cond S rfl (fun c13 => ?_) (fun c13 => by have c13 := of_decide_eq_false c13; exfalso; omega)
 have c13 := of_decide_eq_true c13
 refine wp_seq ?_
 refine c_region ?_
 refine l_mv 2 S rfl ?_; clear S a; intro a S
 refine l_pure S (fz.p_minV (r := ((nd : Nat) : Int)) rfl rfl (by split <;> omega)) rfl rfl rfl ?_; clear S a; intro a S
 refine l_mv 1 S rfl ?_; clear S a; intro a S
 refine l_nil ?_
 refine e_then ?_
 refine wp_seq ?_
 refine wp_seq ?_
 refine c_region ?_
 refine l_mv 2 S rfl ?_; clear S a; intro a S
 refine l_pure S (p_slice rfl (fun _ _ => o_none) (o_some rfl) (fun _ _ => o_none) (fun w => sl_hi (m := nd) Tryz.underlying34 sz5 rfl (by omega))) rfl rfl rfl ?_; clear S a; intro a S
 refine l_pure S (p_len Tryz.underlying34 rfl) rfl rfl rfl ?_; clear S a; intro a S
 refine l_mv 1 S rfl ?_; clear S a; intro a S
 refine l_nil ?_
 refine e_then ?_
 refine wp_block ?_
 refine c_loop (σ := Nat × List Int × Option Addr × Nat × List (Nat × Obj)) (fun s_ a w => match s_ with | ⟨i1, X1, A1, c1, ow1⟩ => SL a 272 [] [(0, .slice A1 X1.length c1), (191, .int .i64 (i1 : Int)), (190, .int .i64 ((nd : Nat) : Int)), (1, .bool false), (2, .slice (some ⟨gb, 0, none⟩) 32 32), (3, .int .i64 ((q : Nat) : Int)), (4, .int .i64 ((nd : Nat) : Int)), (5, .int .i64 0), (23, .int .i64 ((nd : Nat) : Int)), (189, .slice (some ⟨gb, 0, none⟩) nd 32)] ∧ HH (B) wb w (ow1 ++ ((gb, .cells cs 150 (0, 0)) :: L0)) ∧ (i1 ≤ nd ∧ X1 = l ++ ds.take i1 ∧ OwnB 5 (.slice A1 X1.length c1) X1 ow1)) (fun s_ => match s_ with | ⟨i1, X1, A1, c1, ow1⟩ => nd - i1) ⟨0, l, A, c, ow⟩ ⟨S.only ⟨rfl, rfl, rfl, rfl, rfl, rfl, rfl, rfl, rfl, rfl, trivial⟩, H, ⟨Nat.zero_le _, by simp, hown⟩⟩ ?_
 clear S a H; rintro ⟨i1, X1, A1, c1, ow1⟩ a w ⟨S, H, hinv⟩
 obtain ⟨hi1, hX1, hown1⟩ := hinv
 have hl1 : X1.length ≤ l.length + 100 := by rw [hX1]; simp only [List.length_append, List.length_cons, List.length_nil, List.length_take, List.length_replicate, List.length_drop]; omega
 refine wp_seq ?_
 refine c_region ?_
 refine l_pure S (p_lss rfl rfl) rfl rfl rfl ?_; clear S a; intro a S
 refine l_nil ?_
 refine e_then ?_
 refine wp_seq ?_
 refine c_cond S rfl (fun bc15 => ?_) (fun bc15 => ?_)
 ·
  have c15 := bc15
  have c15 := of_decide_eq_true c15
  refine wp_skip ?_
  refine e_then ?_
  refine wp_seq ?_
  refine wp_block ?_
  refine wp_seq ?_
  refine c_region ?_
  refine l_pure S (p_indexAddr rfl rfl (fun w => ia_slice Tryz.underlying34 sz5 (by omega) (by omega))) rfl rfl rfl ?_; clear S a; intro a S
  refine l_read S H (r_load rfl (List.mem_append_right _ List.mem_cons_self) (fz.row_cell hrow (i := i1) (by omega) (by omega)) (fun w hc => ld1 ag5 hc)) rfl rfl rfl ?_; clear S a; intro a S
  refine l_mv 1 S rfl ?_; clear S a; intro a S
  refine l_nil ?_
  refine e_then ?_
  refine c_region ?_
  refine l_mv 2 S rfl ?_; clear S a; intro a S
  refine l_lit [(.tmp 196)] S H rfl rfl Tryz.underlying34 sz5 zv5 rfl rfl (by simp [Value.cells]) rfl rfl rfl ?_; clear S a H; intro g16 w a H S
  refine l_ownB [_] (r := [(ds.getD (i1) 0)]) S H rfl rfl rfl hown1 (src_lit (vs := ([(ds.getD (i1) 0)]).map (Value.int .u8)) H List.mem_cons_self Tryz.underlying34 (by simp [Value.oneCell'])) Tryz.underlying34 in5 rfl (by simp only [List.length_cons, List.length_nil, List.length_append]; omega) (by decide) rfl rfl rfl ?_; clear S a H; intro Aow17 cow17 ow17 w a how17 H S; replace H := H.tail
  refine l_mv 1 S rfl ?_; clear S a; intro a S
  refine l_nil ?_
  refine e_in 5 ?_
  refine e_then ?_
  refine c_region ?_
  refine l_pure S (p_add rfl rfl (nat_add (x := i1) (y := 1) (by omega))) rfl rfl rfl ?_; clear S a; intro a S
  refine l_mv 1 S rfl ?_; clear S a; intro a S
  refine l_nil ?_
  refine e_then ?_
  exact ⟨⟨i1 + 1, (X1 ++ [(ds.getD (i1) 0)]), Aow17, cow17, ow17⟩, ⟨S.only ⟨rfl, rfl, rfl, rfl, rfl, rfl, rfl, rfl, rfl, rfl, trivial⟩, H, ⟨by omega, by rw [hX1, List.append_assoc, ← fz.take_suc (by omega)], how17⟩⟩, by show nd - (i1 + 1) < nd - i1; omega⟩
 ·
  have c15 := bc15
  have c15 := of_decide_eq_false c15
  refine wp_exit ?_
  refine e_then_exit ?_
  refine e_then_exit ?_
  refine e_in_exit ?_
  refine e_then ?_
  refine wp_seq ?_
  refine c_region ?_
  refine l_mv 2 S rfl ?_; clear S a; intro a S
  refine l_pure S (p_sub (r := (((q - nd) : Nat) : Int)) rfl rfl (by rw [IntWalk.i64_in _ (by omega)]; omega)) rfl rfl rfl ?_; clear S a; intro a S
  refine l_mv 1 S rfl ?_; clear S a; intro a S
  refine l_nil ?_
  refine e_then ?_
  refine wp_block ?_
  refine c_loop (σ := Nat × List Int × Option Addr × Nat × List (Nat × Obj)) (fun s_ a w => match s_ with | ⟨i2, X2, A2, c2, ow2⟩ => SL a 272 [] [(0, .slice A2 X2.length c2), (203, .int .i64 (i2 : Int)), (202, .int .i64 (((q - nd) : Nat) : Int)), (1, .bool false), (2, .slice (some ⟨gb, 0, none⟩) 32 32), (3, .int .i64 ((q : Nat) : Int)), (4, .int .i64 ((nd : Nat) : Int)), (5, .int .i64 0), (23, .int .i64 ((nd : Nat) : Int))] ∧ HH (B) wb w (ow2 ++ ((gb, .cells cs 150 (0, 0)) :: L0)) ∧ (i2 ≤ (q - nd) ∧ X2 = X1 ++ List.replicate i2 48 ∧ OwnB 5 (.slice A2 X2.length c2) X2 ow2)) (fun s_ => match s_ with | ⟨i2, X2, A2, c2, ow2⟩ => (q - nd) - i2) ⟨0, X1, A1, c1, ow1⟩ ⟨S.only ⟨rfl, rfl, rfl, rfl, rfl, rfl, rfl, rfl, rfl, trivial⟩, H, ⟨Nat.zero_le _, by simp, hown1⟩⟩ ?_
  clear S a H; rintro ⟨i2, X2, A2, c2, ow2⟩ a w ⟨S, H, hinv⟩
  obtain ⟨hi2, hX2, hown2⟩ := hinv
  have hl2 : X2.length ≤ l.length + 2000 := by rw [hX2]; simp only [List.length_append, List.length_cons, List.length_nil, List.length_take, List.length_replicate, List.length_drop]; omega
  refine wp_seq ?_
  refine c_region ?_
  refine l_pure S (p_lss rfl rfl) rfl rfl rfl ?_; clear S a; intro a S
  refine l_nil ?_
  refine e_then ?_
  refine wp_seq ?_
  refine c_cond S rfl (fun bc19 => ?_) (fun bc19 => ?_)
  ·
   have c19 := bc19
   have c19 := of_decide_eq_true c19
   refine wp_skip ?_
   refine e_then ?_
   refine wp_seq ?_
   refine wp_block ?_
   refine c_region ?_
   refine l_mv 1 S rfl ?_; clear S a; intro a S
   refine l_lit [(.const (.int .u8 48))] S H rfl rfl Tryz.underlying34 sz5 zv5 rfl rfl (by simp [Value.cells]) rfl rfl rfl ?_; clear S a H; intro g20 w a H S
   refine l_ownB [_] (r := [48]) S H rfl rfl rfl hown2 (src_lit (vs := ([48]).map (Value.int .u8)) H List.mem_cons_self Tryz.underlying34 (by simp [Value.oneCell'])) Tryz.underlying34 in5 rfl (by simp only [List.length_cons, List.length_nil, List.length_append]; omega) (by decide) rfl rfl rfl ?_; clear S a H; intro Aow21 cow21 ow21 w a how21 H S; replace H := H.tail
   refine l_mv 1 S rfl ?_; clear S a; intro a S
   refine l_nil ?_
   refine e_in 7 ?_
   refine e_then ?_
   refine c_region ?_
   refine l_pure S (p_add rfl rfl (nat_add (x := i2) (y := 1) (by omega))) rfl rfl rfl ?_; clear S a; intro a S
   refine l_mv 1 S rfl ?_; clear S a; intro a S
   refine l_nil ?_
   refine e_then ?_
   exact ⟨⟨i2 + 1, (X2 ++ [48]), Aow21, cow21, ow21⟩, ⟨S.only ⟨rfl, rfl, rfl, rfl, rfl, rfl, rfl, rfl, rfl, trivial⟩, H, ⟨by omega, by rw [hX2, List.append_assoc, ← fz.rep_suc], how21⟩⟩, by show (q - nd) - (i2 + 1) < (q - nd) - i2; omega⟩
  ·
   have c19 := bc19
   have c19 := of_decide_eq_false c19
   refine wp_exit ?_
   refine e_then_exit ?_
   refine e_then_exit ?_
   refine e_in_exit ?_
   refine e_then ?_
   refine wp_seq ?_
   refine wp_seq ?_
   refine c_region ?_
   refine l_mv 1 S rfl ?_; clear S a; intro a S
   refine l_pure S (p_gtr rfl rfl) rfl rfl rfl ?_; clear S a; intro a S
   refine l_nil ?_
   refine e_then ?_
   refine c_cond (b := false) S rfl (fun h => by cases h) (fun _ => ?_)
   refine wp_skip ?_
   refine e_then ?_
   refine wp_seq ?_
   refine c_region ?_
   refine l_mv 2 S rfl ?_; clear S a; intro a S
   refine l_nil ?_
   refine e_then ?_
   refine wp_ret ?_
   refine e_in_ret ?_
   refine e_then_ret ?_
   have ei1 : i1 = nd := by omega
   have ei2 : i2 = (q - nd) := by omega
   have eX : X2 = l ++ fz.fmtF false ds nd (q : Int) := by rw [hX2, hX1, ei1, ei2]; unfold fz.fmtF fz.sgn; rw [if_pos (by omega), if_pos (by omega), Int.toNat_natCast]; simp
   have hw := hown2
   rw [eX] at S hw
   exact r_ret1 S rfl rfl ⟨_, _, _, rfl, hw, H⟩
set_option maxHeartbeats 1000000 in
theorem efgP2_f (wb w0 : World) (B : Nat) (L0 : List (Nat × Obj)) (gb q nd : Nat) (cs : Array Value) (ds : List Int) (hrow : bf.Row cs 0 ds) (hnd : nd ≤ ds.length) (hds : ds.length ≤ 32) (hq : q ≤ 1000) (hq0 : 0 < q) (hnq : q < nd) (A : Option Addr) (c : Nat) (l : List Int) (ow : List (Nat × Obj)) (hown : OwnB 5 (.slice A l.length c) l ow) (hl : l.length ≤ 100000000000000) (H : HH B wb w0 (ow ++ ((gb, .cells cs 150 (0, 0)) :: L0))) : Calls Tryz.prog 46 #[.slice A l.length c, .bool false, .slice (some ⟨gb, 0, none⟩) 32 32, .int .i64 (q : Int), .int .i64 (nd : Int), .int .i64 ((nd - q : Nat) : Int), .int .u8 102, .bool true] w0 fun e w' => ∃ (A' : Option Addr) (c' : Nat) (ow' : List (Nat × Obj)), e = .returned (.slice A' (l ++ fz.fmtF false ds nd (q : Int)).length c') ∧ OwnB 5 (.slice A' (l ++ fz.fmtF false ds nd (q : Int)).length c') (l ++ fz.fmtF false ds nd (q : Int)) ow' ∧ HH B wb w' (ow' ++ ((gb, .cells cs 150 (0, 0)) :: L0)) := by
 refine c_enter (args := [.slice A l.length c, .bool false, .slice (some ⟨gb, 0, none⟩) 32 32, .int .i64 (q : Int), .int .i64 (nd : Int), .int .i64 ((nd - q : Nat) : Int), .int .u8 102, .bool true]) (k := 264) Tryz.func46 rfl rfl rfl (fun a S => ?_)
 refine wp_seq ?_
 refine c_region ?_
 refine l_mv 1 S rfl ?_; clear S a; intro a S
 refine l_nil ?_
 refine e_then ?_
 refine wp_seq ?_
 refine wp_seq ?_
 refine c_region ?_
 refine l_mv 1 S rfl ?_; clear S a; intro a S
 refine l_pure S (p_eql rfl rfl) rfl rfl rfl ?_; clear S a; intro a S
 refine l_mv 1 S rfl ?_; clear S a; intro a S
 refine l_on S rfl rfl rfl rfl rfl ?_
 refine l_pure S (p_move rfl) rfl rfl rfl ?_; clear S a; intro a S
 refine l_on S rfl rfl rfl rfl rfl ?_
 refine l_pure S (p_eql rfl rfl) rfl rfl rfl ?_; clear S a; intro a S
 refine l_pure S (p_pick_f rfl rfl rfl) rfl rfl rfl ?_; clear S a; intro a S
 refine l_nil ?_
 refine e_then ?_
 refine c_cond (b := false) S rfl (fun h => by cases h) (fun _ => ?_)
 refine wp_skip ?_
 refine e_then ?_
 refine wp_seq ?_
 refine wp_seq ?_
 refine c_region ?_
 refine l_mv 1 S rfl ?_; clear S a; intro a S
 refine l_nil ?_
 refine e_then ?_
 refine wp_block ?_
 refine wp_seq ?_
 refine wp_seq ?_
 refine c_region ?_
 refine l_pure S (p_eql rfl rfl) rfl rfl rfl ?_; clear S a; intro a S
 refine l_mv 1 S rfl ?_; clear S a; intro a S
 refine l_nil ?_
 refine e_then ?_
 refine c_cond (b := false) S rfl (fun h => by cases h) (fun _ => ?_)
 refine c_region ?_
 refine l_pure S (p_eql rfl rfl) rfl rfl rfl ?_; clear S a; intro a S
 refine l_mv 1 S rfl ?_; clear S a; intro a S
 refine l_nil ?_
 refine e_then ?_
 refine c_cond (b := false) S rfl (fun h => by cases h) (fun _ => ?_)
 refine wp_seq ?_
 refine c_region ?_
 refine l_pure S (p_eql rfl rfl) rfl rfl rfl ?_; clear S a; intro a S
 refine l_mv 1 S rfl ?_; clear S a; intro a S
 refine l_nil ?_
 refine e_then ?_
 refine c_cond (b := true) S rfl (fun _ => ?_) (fun h => by cases h)
 refine wp_seq ?_
 refine wp_seq ?_
 refine c_region ?_
 refine l_mv 1 S rfl ?_; clear S a; intro a S
 refine l_nil ?_
 refine e_then ?_
 refine c_cond (b := false) S rfl (fun h => by cases h) (fun _ => ?_)
 refine wp_skip ?_
 refine e_then ?_
 refine wp_seq ?_
 refine wp_seq ?_
 refine c_region ?_
 refine l_mv 1 S rfl ?_; clear S a; intro a S
 refine l_pure S (p_gtr rfl rfl) rfl rfl rfl ?_; clear S a; intro a S
 refine l_nil ?_
 refine e_then ?_
 refine c_cond S rfl (fun c13 => ?_) (fun c13 => by have c13 := of_decide_eq_false c13; exfalso; omega)
 have c13 := of_decide_eq_true c13
 refine wp_seq ?_
 refine c_region ?_
 refine l_mv 2 S rfl ?_; clear S a; intro a S
 refine l_pure S (fz.p_minV (r := ((q : Nat) : Int)) rfl rfl (by split <;> omega)) rfl rfl rfl ?_; clear S a; intro a S
 refine l_mv 1 S rfl ?_; clear S a; intro a S
 refine l_nil ?_
 refine e_then ?_
 refine wp_seq ?_
 refine wp_seq ?_
 refine c_region ?_
 refine l_mv 2 S rfl ?_; clear S a; intro a S
 refine l_pure S (p_slice rfl (fun _ _ => o_none) (o_some rfl) (fun _ _ => o_none) (fun w => sl_hi (m := q) Tryz.underlying34 sz5 rfl (by omega))) rfl rfl rfl ?_; clear S a; intro a S
 refine l_pure S (p_len Tryz.underlying34 rfl) rfl rfl rfl ?_; clear S a; intro a S
 refine l_mv 1 S rfl ?_; clear S a; intro a S
 refine l_nil ?_
 refine e_then ?_
 refine wp_block ?_
 refine c_loop (σ := Nat × List Int × Option Addr × Nat × List (Nat × Obj)) (fun s_ a w => match s_ with | ⟨i1, X1, A1, c1, ow1⟩ => SL a 272 [] [(0, .slice A1 X1.length c1), (191, .int .i64 (i1 : Int)), (190, .int .i64 ((q : Nat) : Int)), (1, .bool false), (2, .slice (some ⟨gb, 0, none⟩) 32 32), (3, .int .i64 ((q : Nat) : Int)), (4, .int .i64 ((nd : Nat) : Int)), (5, .int .i64 (((nd - q) : Nat) : Int)), (23, .int .i64 ((q : Nat) : Int)), (189, .slice (some ⟨gb, 0, none⟩) q 32)] ∧ HH (B) wb w (ow1 ++ ((gb, .cells cs 150 (0, 0)) :: L0)) ∧ (i1 ≤ q ∧ X1 = l ++ ds.take i1 ∧ OwnB 5 (.slice A1 X1.length c1) X1 ow1)) (fun s_ => match s_ with | ⟨i1, X1, A1, c1, ow1⟩ => q - i1) ⟨0, l, A, c, ow⟩ ⟨S.only ⟨rfl, rfl, rfl, rfl, rfl, rfl, rfl, rfl, rfl, rfl, trivial⟩, H, ⟨Nat.zero_le _, by simp, hown⟩⟩ ?_
 clear S a H; rintro ⟨i1, X1, A1, c1, ow1⟩ a w ⟨S, H, hinv⟩
 obtain ⟨hi1, hX1, hown1⟩ := hinv
 have hl1 : X1.length ≤ l.length + 100 := by rw [hX1]; simp only [List.length_append, List.length_cons, List.length_nil, List.length_take, List.length_replicate, List.length_drop]; omega
 refine wp_seq ?_
 refine c_region ?_
 refine l_pure S (p_lss rfl rfl) rfl rfl rfl ?_; clear S a; intro a S
 refine l_nil ?_
 refine e_then ?_
 refine wp_seq ?_
 refine c_cond S rfl (fun bc15 => ?_) (fun bc15 => ?_)
 ·
  have c15 := bc15
  have c15 := of_decide_eq_true c15
  refine wp_skip ?_
  refine e_then ?_
  refine wp_seq ?_
  refine wp_block ?_
  refine wp_seq ?_
  refine c_region ?_
  refine l_pure S (p_indexAddr rfl rfl (fun w => ia_slice Tryz.underlying34 sz5 (by omega) (by omega))) rfl rfl rfl ?_; clear S a; intro a S
  refine l_read S H (r_load rfl (List.mem_append_right _ List.mem_cons_self) (fz.row_cell hrow (i := i1) (by omega) (by omega)) (fun w hc => ld1 ag5 hc)) rfl rfl rfl ?_; clear S a; intro a S
  refine l_mv 1 S rfl ?_; clear S a; intro a S
  refine l_nil ?_
  refine e_then ?_
  refine c_region ?_
  refine l_mv 2 S rfl ?_; clear S a; intro a S
  refine l_lit [(.tmp 196)] S H rfl rfl Tryz.underlying34 sz5 zv5 rfl rfl (by simp [Value.cells]) rfl rfl rfl ?_; clear S a H; intro g16 w a H S
  refine l_ownB [_] (r := [(ds.getD (i1) 0)]) S H rfl rfl rfl hown1 (src_lit (vs := ([(ds.getD (i1) 0)]).map (Value.int .u8)) H List.mem_cons_self Tryz.underlying34 (by simp [Value.oneCell'])) Tryz.underlying34 in5 rfl (by simp only [List.length_cons, List.length_nil, List.length_append]; omega) (by decide) rfl rfl rfl ?_; clear S a H; intro Aow17 cow17 ow17 w a how17 H S; replace H := H.tail
  refine l_mv 1 S rfl ?_; clear S a; intro a S
  refine l_nil ?_
  refine e_in 5 ?_
  refine e_then ?_
  refine c_region ?_
  refine l_pure S (p_add rfl rfl (nat_add (x := i1) (y := 1) (by omega))) rfl rfl rfl ?_; clear S a; intro a S
  refine l_mv 1 S rfl ?_; clear S a; intro a S
  refine l_nil ?_
  refine e_then ?_
  exact ⟨⟨i1 + 1, (X1 ++ [(ds.getD (i1) 0)]), Aow17, cow17, ow17⟩, ⟨S.only ⟨rfl, rfl, rfl, rfl, rfl, rfl, rfl, rfl, rfl, rfl, trivial⟩, H, ⟨by omega, by rw [hX1, List.append_assoc, ← fz.take_suc (by omega)], how17⟩⟩, by show q - (i1 + 1) < q - i1; omega⟩
 ·
  have c15 := bc15
  have c15 := of_decide_eq_false c15
  refine wp_exit ?_
  refine e_then_exit ?_
  refine e_then_exit ?_
  refine e_in_exit ?_
  refine e_then ?_
  refine wp_seq ?_
  refine c_region ?_
  refine l_mv 2 S rfl ?_; clear S a; intro a S
  refine l_pure S (p_sub (r := ((0 : Nat) : Int)) rfl rfl (by rw [IntWalk.i64_in _ (by omega)]; omega)) rfl rfl rfl ?_; clear S a; intro a S
  refine l_mv 1 S rfl ?_; clear S a; intro a S
  refine l_nil ?_
  refine e_then ?_
  refine wp_block ?_
  refine c_loop (σ := Nat × List Int × Option Addr × Nat × List (Nat × Obj)) (fun s_ a w => match s_ with | ⟨i2, X2, A2, c2, ow2⟩ => SL a 272 [] [(0, .slice A2 X2.length c2), (203, .int .i64 (i2 : Int)), (202, .int .i64 ((0 : Nat) : Int)), (1, .bool false), (2, .slice (some ⟨gb, 0, none⟩) 32 32), (3, .int .i64 ((q : Nat) : Int)), (4, .int .i64 ((nd : Nat) : Int)), (5, .int .i64 (((nd - q) : Nat) : Int)), (23, .int .i64 ((q : Nat) : Int))] ∧ HH (B) wb w (ow2 ++ ((gb, .cells cs 150 (0, 0)) :: L0)) ∧ (i2 ≤ 0 ∧ X2 = X1 ++ List.replicate i2 48 ∧ OwnB 5 (.slice A2 X2.length c2) X2 ow2)) (fun s_ => match s_ with | ⟨i2, X2, A2, c2, ow2⟩ => 0 - i2) ⟨0, X1, A1, c1, ow1⟩ ⟨S.only ⟨rfl, rfl, rfl, rfl, rfl, rfl, rfl, rfl, rfl, trivial⟩, H, ⟨Nat.zero_le _, by simp, hown1⟩⟩ ?_
  clear S a H; rintro ⟨i2, X2, A2, c2, ow2⟩ a w ⟨S, H, hinv⟩
  obtain ⟨hi2, hX2, hown2⟩ := hinv
  have hl2 : X2.length ≤ l.length + 2000 := by rw [hX2]; simp only [List.length_append, List.length_cons, List.length_nil, List.length_take, List.length_replicate, List.length_drop]; omega
  refine wp_seq ?_
  refine c_region ?_
  refine l_pure S (p_lss rfl rfl) rfl rfl rfl ?_; clear S a; intro a S
  refine l_nil ?_
  refine e_then ?_
  refine wp_seq ?_
  refine c_cond S rfl (fun bc19 => ?_) (fun bc19 => ?_)
  ·
   have c19 := bc19
   have c19 := of_decide_eq_true c19
   refine wp_skip ?_
   refine e_then ?_
   refine wp_seq ?_
   refine wp_block ?_
   refine c_region ?_
   refine l_mv 1 S rfl ?_; clear S a; intro a S
   refine l_lit [(.const (.int .u8 48))] S H rfl rfl Tryz.underlying34 sz5 zv5 rfl rfl (by simp [Value.cells]) rfl rfl rfl ?_; clear S a H; intro g20 w a H S
   refine l_ownB [_] (r := [48]) S H rfl rfl rfl hown2 (src_lit (vs := ([48]).map (Value.int .u8)) H List.mem_cons_self Tryz.underlying34 (by simp [Value.oneCell'])) Tryz.underlying34 in5 rfl (by simp only [List.length_cons, List.length_nil, List.length_append]; omega) (by decide) rfl rfl rfl ?_; clear S a H; intro Aow21 cow21 ow21 w a how21 H S; replace H := H.tail
   refine l_mv 1 S rfl ?_; clear S a; intro a S
   refine l_nil ?_
   refine e_in 7 ?_
   refine e_then ?_
   refine c_region ?_
   refine l_pure S (p_add rfl rfl (nat_add (x := i2) (y := 1) (by omega))) rfl rfl rfl ?_; clear S a; intro a S
   refine l_mv 1 S rfl ?_; clear S a; intro a S
   refine l_nil ?_
   refine e_then ?_
   exact ⟨⟨i2 + 1, (X2 ++ [48]), Aow21, cow21, ow21⟩, ⟨S.only ⟨rfl, rfl, rfl, rfl, rfl, rfl, rfl, rfl, rfl, trivial⟩, H, ⟨by omega, by rw [hX2, List.append_assoc, ← fz.rep_suc], how21⟩⟩, by show 0 - (i2 + 1) < 0 - i2; omega⟩
  ·
   have c19 := bc19
   have c19 := of_decide_eq_false c19
   refine wp_exit ?_
   refine e_then_exit ?_
   refine e_then_exit ?_
   refine e_in_exit ?_
   refine e_then ?_
   refine wp_seq ?_
   refine wp_seq ?_
   refine c_region ?_
   refine l_mv 1 S rfl ?_; clear S a; intro a S
   refine l_pure S (p_gtr rfl rfl) rfl rfl rfl ?_; clear S a; intro a S
   refine l_nil ?_
   refine e_then ?_
   refine c_cond S rfl (fun c23 => ?_) (fun c23 => by have c23 := of_decide_eq_false c23; exfalso; omega)
   have c23 := of_decide_eq_true c23
   refine wp_seq ?_
   refine c_region ?_
   refine l_mv 1 S rfl ?_; clear S a; intro a S
   refine l_lit [(.const (.int .u8 46))] S H rfl rfl Tryz.underlying34 sz5 zv5 rfl rfl (by simp [Value.cells]) rfl rfl rfl ?_; clear S a H; intro g24 w a H S
   refine l_ownB [_] (r := [46]) S H rfl rfl rfl hown2 (src_lit (vs := ([46]).map (Value.int .u8)) H List.mem_cons_self Tryz.underlying34 (by simp [Value.oneCell'])) Tryz.underlying34 in5 rfl (by simp only [List.length_cons, List.length_nil, List.length_append]; omega) (by decide) rfl rfl rfl ?_; clear S a H; intro Aow25 cow25 ow25 w a how25 H S; replace H := H.tail
   refine l_mv 1 S rfl ?_; clear S a; intro a S
   refine l_nil ?_
   refine e_then ?_
   refine wp_seq ?_
   refine c_region ?_
   refine l_mv 2 S rfl ?_; clear S a; intro a S
   refine l_pure S (p_un rfl (fun w => fz.neg64 (by omega) w)) rfl rfl rfl ?_; clear S a; intro a S
   refine l_pure S (fz.p_maxV (r := ((0 : Nat) : Int)) rfl rfl (by split <;> omega)) rfl rfl rfl ?_; clear S a; intro a S
   refine l_pure S (fz.p_minV (r := ((0 : Nat) : Int)) rfl rfl (by split <;> omega)) rfl rfl rfl ?_; clear S a; intro a S
   refine l_mv 1 S rfl ?_; clear S a; intro a S
   refine l_nil ?_
   refine e_then ?_
   refine wp_seq ?_
   refine c_region ?_
   refine l_mv 2 S rfl ?_; clear S a; intro a S
   refine l_pure S (p_add (r := ((q : Nat) : Int)) rfl rfl (by rw [IntWalk.i64_in _ (by omega)]; omega)) rfl rfl rfl ?_; clear S a; intro a S
   refine l_mv 1 S rfl ?_; clear S a; intro a S
   refine l_nil ?_
   refine e_then ?_
   refine wp_seq ?_
   refine c_region ?_
   refine l_mv 2 S rfl ?_; clear S a; intro a S
   refine l_pure S (p_sub (r := (((nd - q) : Nat) : Int)) rfl rfl (by rw [IntWalk.i64_in _ (by omega)]; omega)) rfl rfl rfl ?_; clear S a; intro a S
   refine l_mv 2 S rfl ?_; clear S a; intro a S
   refine l_pure S (p_sub (r := (((nd - q) : Nat) : Int)) rfl rfl (by rw [IntWalk.i64_in _ (by omega)]; omega)) rfl rfl rfl ?_; clear S a; intro a S
   refine l_pure S (fz.p_maxV (r := (((nd - q) : Nat) : Int)) rfl rfl (by split <;> omega)) rfl rfl rfl ?_; clear S a; intro a S
   refine l_pure S (fz.p_minV (r := (((nd - q) : Nat) : Int)) rfl rfl (by split <;> omega)) rfl rfl rfl ?_; clear S a; intro a S
   refine l_mv 1 S rfl ?_; clear S a; intro a S
   refine l_nil ?_
   refine e_then ?_
   refine wp_seq ?_
   refine c_region ?_
   refine l_mv 2 S rfl ?_; clear S a; intro a S
   refine l_pure S (p_sub (r := (((nd - q) : Nat) : Int)) rfl rfl (by rw [IntWalk.i64_in _ (by omega)]; omega)) rfl rfl rfl ?_; clear S a; intro a S
   refine l_mv 1 S rfl ?_; clear S a; intro a S
   refine l_pure S (p_sub (r := ((0 : Nat) : Int)) rfl rfl (by rw [IntWalk.i64_in _ (by omega)]; omega)) rfl rfl rfl ?_; clear S a; intro a S
   refine l_pure S (fz.p_maxV (r := ((0 : Nat) : Int)) rfl rfl (by split <;> omega)) rfl rfl rfl ?_; clear S a; intro a S
   refine l_mv 1 S rfl ?_; clear S a; intro a S
   refine l_nil ?_
   refine e_then ?_
   refine wp_seq ?_
   refine wp_seq ?_
   refine c_region ?_
   refine l_mv 2 S rfl ?_; clear S a; intro a S
   refine l_nil ?_
   refine e_then ?_
   refine wp_block ?_
   refine c_loop (σ := Nat × List Int × Option Addr × Nat × List (Nat × Obj)) (fun s_ a w => match s_ with | ⟨i3, X3, A3, c3, ow3⟩ => SL a 272 [] [(0, .slice A3 X3.length c3), (240, .int .i64 (i3 : Int)), (239, .int .i64 ((0 : Nat) : Int)), (2, .slice (some ⟨gb, 0, none⟩) 32 32), (3, .int .i64 ((q : Nat) : Int)), (4, .int .i64 ((nd : Nat) : Int)), (5, .int .i64 (((nd - q) : Nat) : Int)), (26, .int .i64 ((0 : Nat) : Int)), (27, .int .i64 ((q : Nat) : Int)), (28, .int .i64 (((nd - q) : Nat) : Int)), (29, .int .i64 ((0 : Nat) : Int))] ∧ HH (B) wb w (ow3 ++ ((gb, .cells cs 150 (0, 0)) :: L0)) ∧ (i3 ≤ 0 ∧ X3 = (X2 ++ [46]) ++ List.replicate i3 48 ∧ OwnB 5 (.slice A3 X3.length c3) X3 ow3)) (fun s_ => match s_ with | ⟨i3, X3, A3, c3, ow3⟩ => 0 - i3) ⟨0, (X2 ++ [46]), Aow25, cow25, ow25⟩ ⟨S.only ⟨rfl, rfl, rfl, rfl, rfl, rfl, rfl, rfl, rfl, rfl, rfl, trivial⟩, H, ⟨Nat.zero_le _, by simp, how25⟩⟩ ?_
   clear S a H; rintro ⟨i3, X3, A3, c3, ow3⟩ a w ⟨S, H, hinv⟩
   obtain ⟨hi3, hX3, hown3⟩ := hinv
   have hl3 : X3.length ≤ l.length + 3000 := by rw [hX3]; simp only [List.length_append, List.length_cons, List.length_nil, List.length_take, List.length_replicate, List.length_drop]; omega
   refine wp_seq ?_
   refine c_region ?_
   refine l_pure S (p_lss rfl rfl) rfl rfl rfl ?_; clear S a; intro a S
   refine l_nil ?_
   refine e_then ?_
   refine wp_seq ?_
   refine c_cond S rfl (fun bc27 => ?_) (fun bc27 => ?_)
   ·
    have c27 := bc27
    have c27 := of_decide_eq_true c27
    refine wp_skip ?_
    refine e_then ?_
    refine wp_seq ?_
    refine wp_block ?_
    refine c_region ?_
    refine l_mv 1 S rfl ?_; clear S a; intro a S
    refine l_lit [(.const (.int .u8 48))] S H rfl rfl Tryz.underlying34 sz5 zv5 rfl rfl (by simp [Value.cells]) rfl rfl rfl ?_; clear S a H; intro g28 w a H S
    refine l_ownB [_] (r := [48]) S H rfl rfl rfl hown3 (src_lit (vs := ([48]).map (Value.int .u8)) H List.mem_cons_self Tryz.underlying34 (by simp [Value.oneCell'])) Tryz.underlying34 in5 rfl (by simp only [List.length_cons, List.length_nil, List.length_append]; omega) (by decide) rfl rfl rfl ?_; clear S a H; intro Aow29 cow29 ow29 w a how29 H S; replace H := H.tail
    refine l_mv 1 S rfl ?_; clear S a; intro a S
    refine l_nil ?_
    refine e_in 9 ?_
    refine e_then ?_
    refine c_region ?_
    refine l_pure S (p_add rfl rfl (nat_add (x := i3) (y := 1) (by omega))) rfl rfl rfl ?_; clear S a; intro a S
    refine l_mv 1 S rfl ?_; clear S a; intro a S
    refine l_nil ?_
    refine e_then ?_
    exact ⟨⟨i3 + 1, (X3 ++ [48]), Aow29, cow29, ow29⟩, ⟨S.only ⟨rfl, rfl, rfl, rfl, rfl, rfl, rfl, rfl, rfl, rfl, rfl, trivial⟩, H, ⟨by omega, by rw [hX3, List.append_assoc, ← fz.rep_suc], how29⟩⟩, by show 0 - (i3 + 1) < 0 - i3; omega⟩
   ·
    have c27 := bc27
    have c27 := of_decide_eq_false c27
    refine wp_exit ?_
    refine e_then_exit ?_
    refine e_then_exit ?_
    refine e_in_exit ?_
    refine e_then ?_
    refine wp_seq ?_
    refine wp_seq ?_
    refine c_region ?_
    refine l_mv 2 S rfl ?_; clear S a; intro a S
    refine l_nil ?_
    refine e_then ?_
    refine wp_block ?_
    refine c_loop (σ := Nat × List Int × Option Addr × Nat × List (Nat × Obj)) (fun s_ a w => match s_ with | ⟨i4, X4, A4, c4, ow4⟩ => SL a 272 [] [(0, .slice A4 X4.length c4), (247, .int .i64 (i4 : Int)), (246, .int .i64 (((nd - q) : Nat) : Int)), (2, .slice (some ⟨gb, 0, none⟩) 32 32), (3, .int .i64 ((q : Nat) : Int)), (4, .int .i64 ((nd : Nat) : Int)), (5, .int .i64 (((nd - q) : Nat) : Int)), (26, .int .i64 ((0 : Nat) : Int)), (27, .int .i64 ((q : Nat) : Int)), (28, .int .i64 (((nd - q) : Nat) : Int)), (29, .int .i64 ((0 : Nat) : Int))] ∧ HH (B) wb w (ow4 ++ ((gb, .cells cs 150 (0, 0)) :: L0)) ∧ (i4 ≤ (nd - q) ∧ X4 = X3 ++ (ds.drop q).take i4 ∧ OwnB 5 (.slice A4 X4.length c4) X4 ow4)) (fun s_ => match s_ with | ⟨i4, X4, A4, c4, ow4⟩ => (nd - q) - i4) ⟨0, X3, A3, c3, ow3⟩ ⟨S.only ⟨rfl, rfl, rfl, rfl, rfl, rfl, rfl, rfl, rfl, rfl, rfl, trivial⟩, H, ⟨Nat.zero_le _, by simp, hown3⟩⟩ ?_
    clear S a H; rintro ⟨i4, X4, A4, c4, ow4⟩ a w ⟨S, H, hinv⟩
    obtain ⟨hi4, hX4, hown4⟩ := hinv
    have hl4 : X4.length ≤ l.length + 4000 := by rw [hX4]; simp only [List.length_append, List.length_cons, List.length_nil, List.length_take, List.length_replicate, List.length_drop]; omega
    refine wp_seq ?_
    refine c_region ?_
    refine l_pure S (p_lss rfl rfl) rfl rfl rfl ?_; clear S a; intro a S
    refine l_nil ?_
    refine e_then ?_
    refine wp_seq ?_
    refine c_cond S rfl (fun bc31 => ?_) (fun bc31 => ?_)
    ·
     have c31 := bc31
     have c31 := of_decide_eq_true c31
     refine wp_skip ?_
     refine e_then ?_
     refine wp_seq ?_
     refine wp_block ?_
     refine wp_seq ?_
     refine c_region ?_
     refine l_mv 2 S rfl ?_; clear S a; intro a S
     refine l_nil ?_
     refine e_then ?_
     refine c_region ?_
     refine l_mv 4 S rfl ?_; clear S a; intro a S
     refine l_pure S (p_add rfl rfl (nat_add (x := q) (y := i4) (by omega))) rfl rfl rfl ?_; clear S a; intro a S
     refine l_pure S (p_indexAddr rfl rfl (fun w => ia_slice Tryz.underlying34 sz5 (by omega) (by omega))) rfl rfl rfl ?_; clear S a; intro a S
     refine l_read S H (r_load rfl (List.mem_append_right _ List.mem_cons_self) (fz.row_cell hrow (i := (q + i4)) (by omega) (by omega)) (fun w hc => ld1 ag5 hc)) rfl rfl rfl ?_; clear S a; intro a S
     refine l_lit [(.tmp 256)] S H rfl rfl Tryz.underlying34 sz5 zv5 rfl rfl (by simp [Value.cells]) rfl rfl rfl ?_; clear S a H; intro g32 w a H S
     refine l_ownB [_] (r := [(ds.getD (q + i4) 0)]) S H rfl rfl rfl hown4 (src_lit (vs := ([(ds.getD (q + i4) 0)]).map (Value.int .u8)) H List.mem_cons_self Tryz.underlying34 (by simp [Value.oneCell'])) Tryz.underlying34 in5 rfl (by simp only [List.length_cons, List.length_nil, List.length_append]; omega) (by decide) rfl rfl rfl ?_; clear S a H; intro Aow33 cow33 ow33 w a how33 H S; replace H := H.tail
     refine l_mv 1 S rfl ?_; clear S a; intro a S
     refine l_nil ?_
     refine e_in 11 ?_
     refine e_then ?_
     refine c_region ?_
     refine l_pure S (p_add rfl rfl (nat_add (x := i4) (y := 1) (by omega))) rfl rfl rfl ?_; clear S a; intro a S
     refine l_mv 1 S rfl ?_; clear S a; intro a S
     refine l_nil ?_
     refine e_then ?_
     exact ⟨⟨i4 + 1, (X4 ++ [(ds.getD (q + i4) 0)]), Aow33, cow33, ow33⟩, ⟨S.only ⟨rfl, rfl, rfl, rfl, rfl, rfl, rfl, rfl, rfl, rfl, rfl, trivial⟩, H, ⟨by omega, by rw [hX4, List.append_assoc, ← fz.drop_suc (by omega)], how33⟩⟩, by show (nd - q) - (i4 + 1) < (nd - q) - i4; omega⟩
    ·
     have c31 := bc31
     have c31 := of_decide_eq_false c31
     refine wp_exit ?_
     refine e_then_exit ?_
     refine e_then_exit ?_
     refine e_in_exit ?_
     refine e_then ?_
     refine wp_seq ?_
     refine c_region ?_
     refine l_mv 2 S rfl ?_; clear S a; intro a S
     refine l_nil ?_
     refine e_then ?_
     refine wp_block ?_
     refine c_loop (σ := Nat × List Int × Option Addr × Nat × List (Nat × Obj)) (fun s_ a w => match s_ with | ⟨i5, X5, A5, c5, ow5⟩ => SL a 272 [] [(0, .slice A5 X5.length c5), (261, .int .i64 (i5 : Int)), (260, .int .i64 ((0 : Nat) : Int)), (2, .slice (some ⟨gb, 0, none⟩) 32 32), (3, .int .i64 ((q : Nat) : Int)), (4, .int .i64 ((nd : Nat) : Int)), (5, .int .i64 (((nd - q) : Nat) : Int)), (26, .int .i64 ((0 : Nat) : Int)), (27, .int .i64 ((q : Nat) : Int)), (28, .int .i64 (((nd - q) : Nat) : Int)), (29, .int .i64 ((0 : Nat) : Int))] ∧ HH (B) wb w (ow5 ++ ((gb, .cells cs 150 (0, 0)) :: L0)) ∧ (i5 ≤ 0 ∧ X5 = X4 ++ List.replicate i5 48 ∧ OwnB 5 (.slice A5 X5.length c5) X5 ow5)) (fun s_ => match s_ with | ⟨i5, X5, A5, c5, ow5⟩ => 0 - i5) ⟨0, X4, A4, c4, ow4⟩ ⟨S.only ⟨rfl, rfl, rfl, rfl, rfl, rfl, rfl, rfl, rfl, rfl, rfl, trivial⟩, H, ⟨Nat.zero_le _, by simp, hown4⟩⟩ ?_
     clear S a H; rintro ⟨i5, X5, A5, c5, ow5⟩ a w ⟨S, H, hinv⟩
     obtain ⟨hi5, hX5, hown5⟩ := hinv
     have hl5 : X5.length ≤ l.length + 5000 := by rw [hX5]; simp only [List.length_append, List.length_cons, List.length_nil, List.length_take, List.length_replicate, List.length_drop]; omega
     refine wp_seq ?_
     refine c_region ?_
     refine l_pure S (p_lss rfl rfl) rfl rfl rfl ?_; clear S a; intro a S
     refine l_nil ?_
     refine e_then ?_
     refine wp_seq ?_
     refine c_cond S rfl (fun bc35 => ?_) (fun bc35 => ?_)
     ·
      have c35 := bc35
      have c35 := of_decide_eq_true c35
      refine wp_skip ?_
      refine e_then ?_
      refine wp_seq ?_
      refine wp_block ?_
      refine c_region ?_
      refine l_mv 1 S rfl ?_; clear S a; intro a S
      refine l_lit [(.const (.int .u8 48))] S H rfl rfl Tryz.underlying34 sz5 zv5 rfl rfl (by simp [Value.cells]) rfl rfl rfl ?_; clear S a H; intro g36 w a H S
      refine l_ownB [_] (r := [48]) S H rfl rfl rfl hown5 (src_lit (vs := ([48]).map (Value.int .u8)) H List.mem_cons_self Tryz.underlying34 (by simp [Value.oneCell'])) Tryz.underlying34 in5 rfl (by simp only [List.length_cons, List.length_nil, List.length_append]; omega) (by decide) rfl rfl rfl ?_; clear S a H; intro Aow37 cow37 ow37 w a how37 H S; replace H := H.tail
      refine l_mv 1 S rfl ?_; clear S a; intro a S
      refine l_nil ?_
      refine e_in 13 ?_
      refine e_then ?_
      refine c_region ?_
      refine l_pure S (p_add rfl rfl (nat_add (x := i5) (y := 1) (by omega))) rfl rfl rfl ?_; clear S a; intro a S
      refine l_mv 1 S rfl ?_; clear S a; intro a S
      refine l_nil ?_
      refine e_then ?_
      exact ⟨⟨i5 + 1, (X5 ++ [48]), Aow37, cow37, ow37⟩, ⟨S.only ⟨rfl, rfl, rfl, rfl, rfl, rfl, rfl, rfl, rfl, rfl, rfl, trivial⟩, H, ⟨by omega, by rw [hX5, List.append_assoc, ← fz.rep_suc], how37⟩⟩, by show 0 - (i5 + 1) < 0 - i5; omega⟩
     ·
      have c35 := bc35
      have c35 := of_decide_eq_false c35
      refine wp_exit ?_
      refine e_then_exit ?_
      refine e_then_exit ?_
      refine e_in_exit ?_
      refine e_then ?_
      refine wp_seq ?_
      refine c_region ?_
      refine l_mv 2 S rfl ?_; clear S a; intro a S
      refine l_nil ?_
      refine e_then ?_
      refine wp_ret ?_
      refine e_in_ret ?_
      refine e_then_ret ?_
      have ei1 : i1 = q := by omega
      have ei2 : i2 = 0 := by omega
      have ei3 : i3 = 0 := by omega
      have ei4 : i4 = (nd - q) := by omega
      have ei5 : i5 = 0 := by omega
      have eX : X5 = l ++ fz.fmtF false ds nd (q : Int) := by rw [hX5, hX4, hX3, hX2, hX1, ei1, ei2, ei3, ei4, ei5]; unfold fz.fmtF fz.sgn; rw [if_pos (by omega), if_neg (by omega), Int.toNat_natCast]; simp
      have hw := hown5
      rw [eX] at S hw
      exact r_ret1 S rfl rfl ⟨_, _, _, rfl, hw, H⟩
set_option maxHeartbeats 1000000 in
theorem efgN_f (wb w0 : World) (B : Nat) (L0 : List (Nat × Obj)) (gb q nd : Nat) (cs : Array Value) (ds : List Int) (hrow : bf.Row cs 0 ds) (hnd : nd ≤ ds.length) (hds : ds.length ≤ 32) (hq : q ≤ 1000)  (A : Option Addr) (c : Nat) (l : List Int) (ow : List (Nat × Obj)) (hown : OwnB 5 (.slice A l.length c) l ow) (hl : l.length ≤ 100000000000000) (H : HH B wb w0 (ow ++ ((gb, .cells cs 150 (0, 0)) :: L0))) : Calls Tryz.prog 46 #[.slice A l.length c, .bool false, .slice (some ⟨gb, 0, none⟩) 32 32, .int .i64 (-(q : Int)), .int .i64 (nd : Int), .int .i64 ((nd + q : Nat) : Int), .int .u8 102, .bool true] w0 fun e w' => ∃ (A' : Option Addr) (c' : Nat) (ow' : List (Nat × Obj)), e = .returned (.slice A' (l ++ fz.fmtF false ds nd (-(q : Int))).length c') ∧ OwnB 5 (.slice A' (l ++ fz.fmtF false ds nd (-(q : Int))).length c') (l ++ fz.fmtF false ds nd (-(q : Int))) ow' ∧ HH B wb w' (ow' ++ ((gb, .cells cs 150 (0, 0)) :: L0)) := by
 refine c_enter (args := [.slice A l.length c, .bool false, .slice (some ⟨gb, 0, none⟩) 32 32, .int .i64 (-(q : Int)), .int .i64 (nd : Int), .int .i64 ((nd + q : Nat) : Int), .int .u8 102, .bool true]) (k := 264) Tryz.func46 rfl rfl rfl (fun a S => ?_)
 refine wp_seq ?_
 refine c_region ?_
 refine l_mv 1 S rfl ?_; clear S a; intro a S
 refine l_nil ?_
 refine e_then ?_
 refine wp_seq ?_
 refine wp_seq ?_
 refine c_region ?_
 refine l_mv 1 S rfl ?_; clear S a; intro a S
 refine l_pure S (p_eql rfl rfl) rfl rfl rfl ?_; clear S a; intro a S
 refine l_mv 1 S rfl ?_; clear S a; intro a S
 refine l_on S rfl rfl rfl rfl rfl ?_
 refine l_pure S (p_move rfl) rfl rfl rfl ?_; clear S a; intro a S
 refine l_on S rfl rfl rfl rfl rfl ?_
 refine l_pure S (p_eql rfl rfl) rfl rfl rfl ?_; clear S a; intro a S
 refine l_pure S (p_pick_f rfl rfl rfl) rfl rfl rfl ?_; clear S a; intro a S
 refine l_nil ?_
 refine e_then ?_
 refine c_cond (b := false) S rfl (fun h => by cases h) (fun _ => ?_)
 refine wp_skip ?_
 refine e_then ?_
 refine wp_seq ?_
 refine wp_seq ?_
 refine c_region ?_
 refine l_mv 1 S rfl ?_; clear S a; intro a S
 refine l_nil ?_
 refine e_then ?_
 refine wp_block ?_
 refine wp_seq ?_
 refine wp_seq ?_
 refine c_region ?_
 refine l_pure S (p_eql rfl rfl) rfl rfl rfl ?_; clear S a; intro a S
 refine l_mv 1 S rfl ?_; clear S a; intro a S
 refine l_nil ?_
 refine e_then ?_
 refine c_cond (b := false) S rfl (fun h => by cases h) (fun _ => ?_)
 refine c_region ?_
 refine l_pure S (p_eql rfl rfl) rfl rfl rfl ?_; clear S a; intro a S
 refine l_mv 1 S rfl ?_; clear S a; intro a S
 refine l_nil ?_
 refine e_then ?_
 refine c_cond (b := false) S rfl (fun h => by cases h) (fun _ => ?_)
 refine wp_seq ?_
 refine c_region ?_
 refine l_pure S (p_eql rfl rfl) rfl rfl rfl ?_; clear S a; intro a S
 refine l_mv 1 S rfl ?_; clear S a; intro a S
 refine l_nil ?_
 refine e_then ?_
 refine c_cond (b := true) S rfl (fun _ => ?_) (fun h => by cases h)
 refine wp_seq ?_
 refine wp_seq ?_
 refine c_region ?_
 refine l_mv 1 S rfl ?_; clear S a; intro a S
 refine l_nil ?_
 refine e_then ?_
 refine c_cond (b := false) S rfl (fun h => by cases h) (fun _ => ?_)
 refine wp_skip ?_
 refine e_then ?_
 refine wp_seq ?_
 refine wp_seq ?_
 refine c_region ?_
 refine l_mv 1 S rfl ?_; clear S a; intro a S
 refine l_pure S (p_gtr rfl rfl) rfl rfl rfl ?_; clear S a; intro a S
 refine l_nil ?_
 refine e_then ?_
 refine c_cond S rfl (fun c13 => by have c13 := of_decide_eq_true c13; exfalso; omega) (fun c13 => ?_)
 have c13 := of_decide_eq_false c13
 refine c_region ?_
 refine l_mv 1 S rfl ?_; clear S a; intro a S
 refine l_lit [(.const (.int .u8 48))] S H rfl rfl Tryz.underlying34 sz5 zv5 rfl rfl (by simp [Value.cells]) rfl rfl rfl ?_; clear S a H; intro g14 w a H S
 refine l_ownB [_] (r := [48]) S H rfl rfl rfl hown (src_lit (vs := ([48]).map (Value.int .u8)) H List.mem_cons_self Tryz.underlying34 (by simp [Value.oneCell'])) Tryz.underlying34 in5 rfl (by simp only [List.length_cons, List.length_nil, List.length_append]; omega) (by decide) rfl rfl rfl ?_; clear S a H; intro Aow15 cow15 ow15 w a how15 H S; replace H := H.tail
 refine l_mv 1 S rfl ?_; clear S a; intro a S
 refine l_nil ?_
 refine e_then ?_
 refine wp_seq ?_
 refine wp_seq ?_
 refine c_region ?_
 refine l_mv 1 S rfl ?_; clear S a; intro a S
 refine l_pure S (p_gtr rfl rfl) rfl rfl rfl ?_; clear S a; intro a S
 refine l_nil ?_
 refine e_then ?_
 refine c_cond S rfl (fun bc17 => ?_) (fun bc17 => ?_)
 ·
  have c17 := bc17
  have c17 := of_decide_eq_true c17
  refine wp_seq ?_
  refine c_region ?_
  refine l_mv 1 S rfl ?_; clear S a; intro a S
  refine l_lit [(.const (.int .u8 46))] S H rfl rfl Tryz.underlying34 sz5 zv5 rfl rfl (by simp [Value.cells]) rfl rfl rfl ?_; clear S a H; intro g18 w a H S
  refine l_ownB [_] (r := [46]) S H rfl rfl rfl how15 (src_lit (vs := ([46]).map (Value.int .u8)) H List.mem_cons_self Tryz.underlying34 (by simp [Value.oneCell'])) Tryz.underlying34 in5 rfl (by simp only [List.length_cons, List.length_nil, List.length_append]; omega) (by decide) rfl rfl rfl ?_; clear S a H; intro Aow19 cow19 ow19 w a how19 H S; replace H := H.tail
  refine l_mv 1 S rfl ?_; clear S a; intro a S
  refine l_nil ?_
  refine e_then ?_
  refine wp_seq ?_
  refine c_region ?_
  refine l_mv 2 S rfl ?_; clear S a; intro a S
  refine l_pure S (p_un rfl (fun w => fz.neg64 (by omega) w)) rfl rfl rfl ?_; clear S a; intro a S
  refine l_pure S (fz.p_maxV (r := ((q : Nat) : Int)) rfl rfl (by split <;> omega)) rfl rfl rfl ?_; clear S a; intro a S
  refine l_pure S (fz.p_minV (r := ((q : Nat) : Int)) rfl rfl (by split <;> omega)) rfl rfl rfl ?_; clear S a; intro a S
  refine l_mv 1 S rfl ?_; clear S a; intro a S
  refine l_nil ?_
  refine e_then ?_
  refine wp_seq ?_
  refine c_region ?_
  refine l_mv 2 S rfl ?_; clear S a; intro a S
  refine l_pure S (p_add (r := ((0 : Nat) : Int)) rfl rfl (by rw [IntWalk.i64_in _ (by omega)]; omega)) rfl rfl rfl ?_; clear S a; intro a S
  refine l_mv 1 S rfl ?_; clear S a; intro a S
  refine l_nil ?_
  refine e_then ?_
  refine wp_seq ?_
  refine c_region ?_
  refine l_mv 2 S rfl ?_; clear S a; intro a S
  refine l_pure S (p_sub (r := ((nd : Nat) : Int)) rfl rfl (by rw [IntWalk.i64_in _ (by omega)]; omega)) rfl rfl rfl ?_; clear S a; intro a S
  refine l_mv 2 S rfl ?_; clear S a; intro a S
  refine l_pure S (p_sub (r := ((nd : Nat) : Int)) rfl rfl (by rw [IntWalk.i64_in _ (by omega)]; omega)) rfl rfl rfl ?_; clear S a; intro a S
  refine l_pure S (fz.p_maxV (r := ((nd : Nat) : Int)) rfl rfl (by split <;> omega)) rfl rfl rfl ?_; clear S a; intro a S
  refine l_pure S (fz.p_minV (r := ((nd : Nat) : Int)) rfl rfl (by split <;> omega)) rfl rfl rfl ?_; clear S a; intro a S
  refine l_mv 1 S rfl ?_; clear S a; intro a S
  refine l_nil ?_
  refine e_then ?_
  refine wp_seq ?_
  refine c_region ?_
  refine l_mv 2 S rfl ?_; clear S a; intro a S
  refine l_pure S (p_sub (r := ((nd : Nat) : Int)) rfl rfl (by rw [IntWalk.i64_in _ (by omega)]; omega)) rfl rfl rfl ?_; clear S a; intro a S
  refine l_mv 1 S rfl ?_; clear S a; intro a S
  refine l_pure S (p_sub (r := ((0 : Nat) : Int)) rfl rfl (by rw [IntWalk.i64_in _ (by omega)]; omega)) rfl rfl rfl ?_; clear S a; intro a S
  refine l_pure S (fz.p_maxV (r := ((0 : Nat) : Int)) rfl rfl (by split <;> omega)) rfl rfl rfl ?_; clear S a; intro a S
  refine l_mv 1 S rfl ?_; clear S a; intro a S
  refine l_nil ?_
  refine e_then ?_
  refine wp_seq ?_
  refine wp_seq ?_
  refine c_region ?_
  refine l_mv 2 S rfl ?_; clear S a; intro a S
  refine l_nil ?_
  refine e_then ?_
  refine wp_block ?_
  refine c_loop (σ := Nat × List Int × Option Addr × Nat × List (Nat × Obj)) (fun s_ a w => match s_ with | ⟨i1, X1, A1, c1, ow1⟩ => SL a 272 [] [(0, .slice A1 X1.length c1), (240, .int .i64 (i1 : Int)), (239, .int .i64 ((q : Nat) : Int)), (2, .slice (some ⟨gb, 0, none⟩) 32 32), (3, .int .i64 (-((q : Nat) : Int))), (4, .int .i64 ((nd : Nat) : Int)), (5, .int .i64 (((nd + q) : Nat) : Int)), (26, .int .i64 ((q : Nat) : Int)), (27, .int .i64 ((0 : Nat) : Int)), (28, .int .i64 ((nd : Nat) : Int)), (29, .int .i64 ((0 : Nat) : Int))] ∧ HH (B) wb w (ow1 ++ ((gb, .cells cs 150 (0, 0)) :: L0)) ∧ (i1 ≤ q ∧ X1 = ((l ++ [48]) ++ [46]) ++ List.replicate i1 48 ∧ OwnB 5 (.slice A1 X1.length c1) X1 ow1)) (fun s_ => match s_ with | ⟨i1, X1, A1, c1, ow1⟩ => q - i1) ⟨0, ((l ++ [48]) ++ [46]), Aow19, cow19, ow19⟩ ⟨S.only ⟨rfl, rfl, rfl, rfl, rfl, rfl, rfl, rfl, rfl, rfl, rfl, trivial⟩, H, ⟨Nat.zero_le _, by simp, how19⟩⟩ ?_
  clear S a H; rintro ⟨i1, X1, A1, c1, ow1⟩ a w ⟨S, H, hinv⟩
  obtain ⟨hi1, hX1, hown1⟩ := hinv
  have hl1 : X1.length ≤ l.length + 3000 := by rw [hX1]; simp only [List.length_append, List.length_cons, List.length_nil, List.length_take, List.length_replicate, List.length_drop]; omega
  refine wp_seq ?_
  refine c_region ?_
  refine l_pure S (p_lss rfl rfl) rfl rfl rfl ?_; clear S a; intro a S
  refine l_nil ?_
  refine e_then ?_
  refine wp_seq ?_
  refine c_cond S rfl (fun bc21 => ?_) (fun bc21 => ?_)
  ·
   have c21 := bc21
   have c21 := of_decide_eq_true c21
   refine wp_skip ?_
   refine e_then ?_
   refine wp_seq ?_
   refine wp_block ?_
   refine c_region ?_
   refine l_mv 1 S rfl ?_; clear S a; intro a S
   refine l_lit [(.const (.int .u8 48))] S H rfl rfl Tryz.underlying34 sz5 zv5 rfl rfl (by simp [Value.cells]) rfl rfl rfl ?_; clear S a H; intro g22 w a H S
   refine l_ownB [_] (r := [48]) S H rfl rfl rfl hown1 (src_lit (vs := ([48]).map (Value.int .u8)) H List.mem_cons_self Tryz.underlying34 (by simp [Value.oneCell'])) Tryz.underlying34 in5 rfl (by simp only [List.length_cons, List.length_nil, List.length_append]; omega) (by decide) rfl rfl rfl ?_; clear S a H; intro Aow23 cow23 ow23 w a how23 H S; replace H := H.tail
   refine l_mv 1 S rfl ?_; clear S a; intro a S
   refine l_nil ?_
   refine e_in 9 ?_
   refine e_then ?_
   refine c_region ?_
   refine l_pure S (p_add rfl rfl (nat_add (x := i1) (y := 1) (by omega))) rfl rfl rfl ?_; clear S a; intro a S
   refine l_mv 1 S rfl ?_; clear S a; intro a S
   refine l_nil ?_
   refine e_then ?_
   exact ⟨⟨i1 + 1, (X1 ++ [48]), Aow23, cow23, ow23⟩, ⟨S.only ⟨rfl, rfl, rfl, rfl, rfl, rfl, rfl, rfl, rfl, rfl, rfl, trivial⟩, H, ⟨by omega, by rw [hX1, List.append_assoc, ← fz.rep_suc], how23⟩⟩, by show q - (i1 + 1) < q - i1; omega⟩
  ·
   have c21 := bc21
   have c21 := of_decide_eq_false c21
   refine wp_exit ?_
   refine e_then_exit ?_
   refine e_then_exit ?_
   refine e_in_exit ?_
   refine e_then ?_
   refine wp_seq ?_
   refine wp_seq ?_
   refine c_region ?_
   refine l_mv 2 S rfl ?_; clear S a; intro a S
   refine l_nil ?_
   refine e_then ?_
   refine wp_block ?_
   refine c_loop (σ := Nat × List Int × Option Addr × Nat × List (Nat × Obj)) (fun s_ a w => match s_ with | ⟨i2, X2, A2, c2, ow2⟩ => SL a 272 [] [(0, .slice A2 X2.length c2), (247, .int .i64 (i2 : Int)), (246, .int .i64 ((nd : Nat) : Int)), (2, .slice (some ⟨gb, 0, none⟩) 32 32), (3, .int .i64 (-((q : Nat) : Int))), (4, .int .i64 ((nd : Nat) : Int)), (5, .int .i64 (((nd + q) : Nat) : Int)), (26, .int .i64 ((q : Nat) : Int)), (27, .int .i64 ((0 : Nat) : Int)), (28, .int .i64 ((nd : Nat) : Int)), (29, .int .i64 ((0 : Nat) : Int))] ∧ HH (B) wb w (ow2 ++ ((gb, .cells cs 150 (0, 0)) :: L0)) ∧ (i2 ≤ nd ∧ X2 = X1 ++ ds.take i2 ∧ OwnB 5 (.slice A2 X2.length c2) X2 ow2)) (fun s_ => match s_ with | ⟨i2, X2, A2, c2, ow2⟩ => nd - i2) ⟨0, X1, A1, c1, ow1⟩ ⟨S.only ⟨rfl, rfl, rfl, rfl, rfl, rfl, rfl, rfl, rfl, rfl, rfl, trivial⟩, H, ⟨Nat.zero_le _, by simp, hown1⟩⟩ ?_
   clear S a H; rintro ⟨i2, X2, A2, c2, ow2⟩ a w ⟨S, H, hinv⟩
   obtain ⟨hi2, hX2, hown2⟩ := hinv
   have hl2 : X2.length ≤ l.length + 4000 := by rw [hX2]; simp only [List.length_append, List.length_cons, List.length_nil, List.length_take, List.length_replicate, List.length_drop]; omega
   refine wp_seq ?_
   refine c_region ?_
   refine l_pure S (p_lss rfl rfl) rfl rfl rfl ?_; clear S a; intro a S
   refine l_nil ?_
   refine e_then ?_
   refine wp_seq ?_
   refine c_cond S rfl (fun bc25 => ?_) (fun bc25 => ?_)
   ·
    have c25 := bc25
    have c25 := of_decide_eq_true c25
    refine wp_skip ?_
    refine e_then ?_
    refine wp_seq ?_
    refine wp_block ?_
    refine wp_seq ?_
    refine c_region ?_
    refine l_mv 2 S rfl ?_; clear S a; intro a S
    refine l_nil ?_
    refine e_then ?_
    refine c_region ?_
    refine l_mv 4 S rfl ?_; clear S a; intro a S
    refine l_pure S (p_add rfl rfl (nat_add (x := 0) (y := i2) (by omega))) rfl rfl rfl ?_; clear S a; intro a S
    refine l_pure S (p_indexAddr rfl rfl (fun w => ia_slice Tryz.underlying34 sz5 (by omega) (by omega))) rfl rfl rfl ?_; clear S a; intro a S
    refine l_read S H (r_load rfl (List.mem_append_right _ List.mem_cons_self) (fz.row_cell hrow (i := i2) (by omega) (by omega)) (fun w hc => ld1 ag5 hc)) rfl rfl rfl ?_; clear S a; intro a S
    refine l_lit [(.tmp 256)] S H rfl rfl Tryz.underlying34 sz5 zv5 rfl rfl (by simp [Value.cells]) rfl rfl rfl ?_; clear S a H; intro g26 w a H S
    refine l_ownB [_] (r := [(ds.getD i2 0)]) S H rfl rfl rfl hown2 (src_lit (vs := ([(ds.getD i2 0)]).map (Value.int .u8)) H List.mem_cons_self Tryz.underlying34 (by simp [Value.oneCell'])) Tryz.underlying34 in5 rfl (by simp only [List.length_cons, List.length_nil, List.length_append]; omega) (by decide) rfl rfl rfl ?_; clear S a H; intro Aow27 cow27 ow27 w a how27 H S; replace H := H.tail
    refine l_mv 1 S rfl ?_; clear S a; intro a S
    refine l_nil ?_
    refine e_in 11 ?_
    refine e_then ?_
    refine c_region ?_
    refine l_pure S (p_add rfl rfl (nat_add (x := i2) (y := 1) (by omega))) rfl rfl rfl ?_; clear S a; intro a S
    refine l_mv 1 S rfl ?_; clear S a; intro a S
    refine l_nil ?_
    refine e_then ?_
    exact ⟨⟨i2 + 1, (X2 ++ [(ds.getD i2 0)]), Aow27, cow27, ow27⟩, ⟨S.only ⟨rfl, rfl, rfl, rfl, rfl, rfl, rfl, rfl, rfl, rfl, rfl, trivial⟩, H, ⟨by omega, by rw [hX2, List.append_assoc, ← fz.take_suc (by omega)], how27⟩⟩, by show nd - (i2 + 1) < nd - i2; omega⟩
   ·
    have c25 := bc25
    have c25 := of_decide_eq_false c25
    refine wp_exit ?_
    refine e_then_exit ?_
    refine e_then_exit ?_
    refine e_in_exit ?_
    refine e_then ?_
    refine wp_seq ?_
    refine c_region ?_
    refine l_mv 2 S rfl ?_; clear S a; intro a S
    refine l_nil ?_
    refine e_then ?_
    refine wp_block ?_
    refine c_loop (σ := Nat × List Int × Option Addr × Nat × List (Nat × Obj)) (fun s_ a w => match s_ with | ⟨i3, X3, A3, c3, ow3⟩ => SL a 272 [] [(0, .slice A3 X3.length c3), (261, .int .i64 (i3 : Int)), (260, .int .i64 ((0 : Nat) : Int)), (2, .slice (some ⟨gb, 0, none⟩) 32 32), (3, .int .i64 (-((q : Nat) : Int))), (4, .int .i64 ((nd : Nat) : Int)), (5, .int .i64 (((nd + q) : Nat) : Int)), (26, .int .i64 ((q : Nat) : Int)), (27, .int .i64 ((0 : Nat) : Int)), (28, .int .i64 ((nd : Nat) : Int)), (29, .int .i64 ((0 : Nat) : Int))] ∧ HH (B) wb w (ow3 ++ ((gb, .cells cs 150 (0, 0)) :: L0)) ∧ (i3 ≤ 0 ∧ X3 = X2 ++ List.replicate i3 48 ∧ OwnB 5 (.slice A3 X3.length c3) X3 ow3)) (fun s_ => match s_ with | ⟨i3, X3, A3, c3, ow3⟩ => 0 - i3) ⟨0, X2, A2, c2, ow2⟩ ⟨S.only ⟨rfl, rfl, rfl, rfl, rfl, rfl, rfl, rfl, rfl, rfl, rfl, trivial⟩, H, ⟨Nat.zero_le _, by simp, hown2⟩⟩ ?_
    clear S a H; rintro ⟨i3, X3, A3, c3, ow3⟩ a w ⟨S, H, hinv⟩
    obtain ⟨hi3, hX3, hown3⟩ := hinv
    have hl3 : X3.length ≤ l.length + 5000 := by rw [hX3]; simp only [List.length_append, List.length_cons, List.length_nil, List.length_take, List.length_replicate, List.length_drop]; omega
    refine wp_seq ?_
    refine c_region ?_
    refine l_pure S (p_lss rfl rfl) rfl rfl rfl ?_; clear S a; intro a S
    refine l_nil ?_
    refine e_then ?_
    refine wp_seq ?_
    refine c_cond S rfl (fun bc29 => ?_) (fun bc29 => ?_)
    ·
     have c29 := bc29
     have c29 := of_decide_eq_true c29
     refine wp_skip ?_
     refine e_then ?_
     refine wp_seq ?_
     refine wp_block ?_
     refine c_region ?_
     refine l_mv 1 S rfl ?_; clear S a; intro a S
     refine l_lit [(.const (.int .u8 48))] S H rfl rfl Tryz.underlying34 sz5 zv5 rfl rfl (by simp [Value.cells]) rfl rfl rfl ?_; clear S a H; intro g30 w a H S
     refine l_ownB [_] (r := [48]) S H rfl rfl rfl hown3 (src_lit (vs := ([48]).map (Value.int .u8)) H List.mem_cons_self Tryz.underlying34 (by simp [Value.oneCell'])) Tryz.underlying34 in5 rfl (by simp only [List.length_cons, List.length_nil, List.length_append]; omega) (by decide) rfl rfl rfl ?_; clear S a H; intro Aow31 cow31 ow31 w a how31 H S; replace H := H.tail
     refine l_mv 1 S rfl ?_; clear S a; intro a S
     refine l_nil ?_
     refine e_in 13 ?_
     refine e_then ?_
     refine c_region ?_
     refine l_pure S (p_add rfl rfl (nat_add (x := i3) (y := 1) (by omega))) rfl rfl rfl ?_; clear S a; intro a S
     refine l_mv 1 S rfl ?_; clear S a; intro a S
     refine l_nil ?_
     refine e_then ?_
     exact ⟨⟨i3 + 1, (X3 ++ [48]), Aow31, cow31, ow31⟩, ⟨S.only ⟨rfl, rfl, rfl, rfl, rfl, rfl, rfl, rfl, rfl, rfl, rfl, trivial⟩, H, ⟨by omega, by rw [hX3, List.append_assoc, ← fz.rep_suc], how31⟩⟩, by show 0 - (i3 + 1) < 0 - i3; omega⟩
    ·
     have c29 := bc29
     have c29 := of_decide_eq_false c29
     refine wp_exit ?_
     refine e_then_exit ?_
     refine e_then_exit ?_
     refine e_in_exit ?_
     refine e_then ?_
     refine wp_seq ?_
     refine c_region ?_
     refine l_mv 2 S rfl ?_; clear S a; intro a S
     refine l_nil ?_
     refine e_then ?_
     refine wp_ret ?_
     refine e_in_ret ?_
     refine e_then_ret ?_
     have ei1 : i1 = q := by omega
     have ei2 : i2 = nd := by omega
     have ei3 : i3 = 0 := by omega
     have eX : X3 = l ++ fz.fmtF false ds nd (-(q : Int)) := by rw [hX3, hX2, hX1, ei1, ei2, ei3]; unfold fz.fmtF fz.sgn; rw [if_neg (by omega), if_neg (by omega), Int.neg_neg, Int.toNat_natCast]; simp
     have hw := hown3
     rw [eX] at S hw
     exact r_ret1 S rfl rfl ⟨_, _, _, rfl, hw, H⟩
 ·
  have c17 := bc17
  have c17 := of_decide_eq_false c17
  refine wp_skip ?_
  refine e_then ?_
  refine wp_seq ?_
  refine c_region ?_
  refine l_mv 2 S rfl ?_; clear S a; intro a S
  refine l_nil ?_
  refine e_then ?_
  refine wp_ret ?_
  refine e_in_ret ?_
  refine e_then_ret ?_
  have eX : (l ++ [48]) = l ++ fz.fmtF false ds nd (-(q : Int)) := by unfold fz.fmtF fz.sgn; rw [if_neg (by omega), if_pos (by omega)]; simp
  have hw := how15
  rw [eX] at S hw
  exact r_ret1 S rfl rfl ⟨_, _, _, rfl, hw, H⟩
theorem efg_ (wb w0 : World) (B : Nat) (L0 : List (Nat × Obj)) (gb nd : Nat) (cs : Array Value) (ds : List Int) (hrow : bf.Row cs 0 ds) (hnd : nd ≤ ds.length) (hds : ds.length ≤ 32) (dp : Int) (hdp : -1000 ≤ dp ∧ dp ≤ 1000) (neg : Bool) (A : Option Addr) (c : Nat) (l : List Int) (ow : List (Nat × Obj)) (hown : OwnB 5 (.slice A l.length c) l ow) (hl : l.length ≤ 100000000000000) (H : HH B wb w0 (ow ++ ((gb, .cells cs 150 (0, 0)) :: L0))) : Calls Tryz.prog 46 #[.slice A l.length c, .bool neg, .slice (some ⟨gb, 0, none⟩) 32 32, .int .i64 dp, .int .i64 (nd : Int), .int .i64 ((((nd : Int) - dp).toNat : Nat) : Int), .int .u8 102, .bool true] w0 fun e w' => ∃ (A' : Option Addr) (c' : Nat) (ow' : List (Nat × Obj)), e = .returned (.slice A' (l ++ fz.fmtF neg ds nd dp).length c') ∧ OwnB 5 (.slice A' (l ++ fz.fmtF neg ds nd dp).length c') (l ++ fz.fmtF neg ds nd dp) ow' ∧ HH B wb w' (ow' ++ ((gb, .cells cs 150 (0, 0)) :: L0)) := by
 by_cases h0 : 0 < dp
 ·
  obtain ⟨q, rfl⟩ : ∃ q : Nat, dp = (q : Int) := ⟨dp.toNat, by omega⟩
  by_cases hq : nd ≤ q
  ·
   rw [show ((((nd : Int) - (q : Int)).toNat : Nat) : Int) = 0 by omega]
   cases neg
   ·
    exact efgP1_f wb w0 B L0 gb q nd cs ds hrow hnd hds (by omega) (by omega) hq A c l ow hown hl H
   ·
    exact efgP1_t wb w0 B L0 gb q nd cs ds hrow hnd hds (by omega) (by omega) hq A c l ow hown hl H
  ·
   rw [show ((((nd : Int) - (q : Int)).toNat : Nat) : Int) = ((nd - q : Nat) : Int) by omega]
   cases neg
   ·
    exact efgP2_f wb w0 B L0 gb q nd cs ds hrow hnd hds (by omega) (by omega) (by omega) A c l ow hown hl H
   ·
    exact efgP2_t wb w0 B L0 gb q nd cs ds hrow hnd hds (by omega) (by omega) (by omega) A c l ow hown hl H
 ·
  obtain ⟨q, rfl⟩ : ∃ q : Nat, dp = -(q : Int) := ⟨(-dp).toNat, by omega⟩
  rw [show ((((nd : Int) - (-(q : Int))).toNat : Nat) : Int) = ((nd + q : Nat) : Int) by omega]
  cases neg
  ·
   exact efgN_f wb w0 B L0 gb q nd cs ds hrow hnd hds (by omega) A c l ow hown hl H
  ·
   exact efgN_t wb w0 B L0 gb q nd cs ds hrow hnd hds (by omega) A c l ow hown hl H
theorem efgZ_ (wb w0 : World) (B : Nat) (L0 : List (Nat × Obj)) (neg : Bool) (A : Option Addr) (c : Nat) (l : List Int) (ow : List (Nat × Obj)) (hown : OwnB 5 (.slice A l.length c) l ow) (hl : l.length ≤ 100000000000000) (H : HH B wb w0 (ow ++ L0)) : Calls Tryz.prog 46 #[.slice A l.length c, .bool neg, .slice none 0 0, .int .i64 0, .int .i64 0, .int .i64 (-1), .int .u8 102, .bool true] w0 fun e w' => ∃ (A' : Option Addr) (c' : Nat) (ow' : List (Nat × Obj)), e = .returned (.slice A' (l ++ fz.fmtF neg [] 0 0).length c') ∧ OwnB 5 (.slice A' (l ++ fz.fmtF neg [] 0 0).length c') (l ++ fz.fmtF neg [] 0 0) ow' ∧ HH B wb w' (ow' ++ (L0)) := by
 cases neg
 ·
  exact efgZ_f wb w0 B L0 A c l ow hown hl H
 ·
  exact efgZ_t wb w0 B L0 A c l ow hown hl H
end ef
end Go.Proofs.YtfbfmcjjohiikaaGreatDoor.fz
end
section
namespace Go.Proofs.YtfbfmcjjohiikaaGreatDoor.fz
open Go.Proofs.YtfbfmcjjohiikaaGreatDoor.fx
open Go.RowKit Go.Proofs.HHW Go.Proofs.YtfbfmcjjohiikaaGreatDoorW.PrintWords
namespace ft
theorem zv150 : zvB Tryz.prog 150 = some (.agg #[.int .u8 0, .int .u8 0, .int .u8 0, .int .u8 0, .int .u8 0, .int .u8 0, .int .u8 0, .int .u8 0, .int .u8 0, .int .u8 0, .int .u8 0, .int .u8 0, .int .u8 0, .int .u8 0, .int .u8 0, .int .u8 0, .int .u8 0, .int .u8 0, .int .u8 0, .int .u8 0, .int .u8 0, .int .u8 0, .int .u8 0, .int .u8 0, .int .u8 0, .int .u8 0, .int .u8 0, .int .u8 0, .int .u8 0, .int .u8 0, .int .u8 0, .int .u8 0]) := by kernel_rfl
theorem bits_run (f : Nat) (w : World) : (callFunc 43 #[.float .f64 f]).run Tryz.prog w = .ok (.value (.int .u64 (f : Int))) w := by kernel_rfl
set_option maxHeartbeats 2000000 in
theorem ftoa_ (wb w0 : World) (B : Nat) (L0 : List (Nat × Obj)) (ht : Lib.TabBelow Tryz.prog B wb "internal/strconv.uint64pow10" .u64 Lib.pow10Tab) (hT : fz.PTab 3 B wb) (f : Nat) (hf : f < 18446744073709551616) (A : Option Addr) (c : Nat) (l : List Int) (ow : List (Nat × Obj)) (hown : OwnB 5 (.slice A l.length c) l ow) (hl : l.length ≤ 100000000000000) (H : HH B wb w0 (ow ++ L0)) : Calls Tryz.prog 41 #[.slice A l.length c, .float .f64 f, .int .u8 102, .int .i64 (-1)] w0 fun e w' => ∃ (A' : Option Addr) (c' : Nat) (ow' : List (Nat × Obj)), e = .returned (.slice A' (l ++ fz.ftoa f).length c') ∧ OwnB 5 (.slice A' (l ++ fz.ftoa f).length c') (l ++ fz.ftoa f) ow' ∧ HH B wb w' (ow' ++ L0) := by
 have hfx := fz.fexp_lt f
 refine c_enter (args := [.slice A l.length c, .float .f64 f, .int .u8 102, .int .i64 (-1)]) (k := 294) Tryz.func41 rfl rfl rfl (fun a S => ?_)
 refine wp_seq ?_
 refine c_region ?_
 refine l_mv 1 S rfl ?_; clear S a; intro a S
 refine l_nil ?_
 refine e_then ?_
 refine wp_seq ?_
 refine c_region ?_
 refine l_mv 1 S rfl ?_; clear S a; intro a S
 refine l_nil ?_
 refine e_then ?_
 refine wp_seq ?_
 refine c_region ?_
 refine l_mv 3 S rfl ?_; clear S a; intro a S
 refine l_nil ?_
 refine e_then ?_
 refine wp_seq ?_
 refine wp_block ?_
 refine wp_seq ?_
 refine c_region ?_
 refine l_pure S (p_eql rfl rfl) rfl rfl rfl ?_; clear S a; intro a S
 refine l_mv 1 S rfl ?_; clear S a; intro a S
 refine l_nil ?_
 refine e_then ?_
 refine c_cond (b := false) S rfl (fun h => by cases h) (fun _ => ?_)
 refine wp_seq ?_
 refine c_region ?_
 refine l_pure S (p_eql rfl rfl) rfl rfl rfl ?_; clear S a; intro a S
 refine l_mv 1 S rfl ?_; clear S a; intro a S
 refine l_nil ?_
 refine e_then ?_
 refine c_cond (b := true) S rfl (fun _ => ?_) (fun h => by cases h)
 refine wp_seq ?_
 refine c_region ?_
 refine l_mv 1 S rfl ?_; clear S a; intro a S
 have hbn := fz.bits_nat hf
 refine l_pure S (p_ext (v := .int .u64 ((fz.bits f).toNat : Int)) rfl (fun w => by rw [hbn]; exact bits_run _ w)) rfl rfl rfl ?_; clear S a; intro a S
 refine l_mv 1 S rfl ?_; clear S a; intro a S
 refine l_nil ?_
 refine e_then ?_
 refine wp_seq ?_
 refine c_region ?_
 refine l_mv 1 S rfl ?_; clear S a; intro a S
 refine l_nil ?_
 refine e_then ?_
 refine wp_seq ?_
 refine c_region ?_
 refine l_mv 1 S rfl ?_; clear S a; intro a S
 refine l_nil ?_
 refine e_then ?_
 refine c_region ?_
 refine l_mv 1 S rfl ?_; clear S a; intro a S
 refine l_nil ?_
 refine e_in 0 ?_
 refine e_then ?_
 refine wp_seq ?_
 refine c_region ?_
 refine l_mv 3 S rfl ?_; clear S a; intro a S
 refine l_pure S (p_add (r := 63) rfl rfl (by decide)) rfl rfl rfl ?_; clear S a; intro a S
 refine l_pure S (p_shr rfl rfl (by decide) (shr64 (fz.bits f) (n := (63 : Nat)) rfl (by decide))) rfl rfl rfl ?_; clear S a; intro a S
 refine l_pure S (p_neq rfl rfl) rfl rfl rfl ?_; clear S a; intro a S
 refine l_mv 1 S rfl ?_; clear S a; intro a S
 refine l_nil ?_
 refine e_then ?_
 refine wp_seq ?_
 refine d_start (id := 14) [] 9 #[false, false, false, false, false, false, false, false, false] H rfl rfl rfl (fun w H => ?_)
 refine d_mv [0, 1, 4] #[true, true, false, false, true, false, false, false, false] S rfl (by kernel_rfl) (fun _ _ _ _ _ h => h) ?_; clear S a; intro a S
 refine d_pure (i := 2) #[true, true, true, false, true, false, false, false, false] S rfl (p_shr rfl rfl (by decide) (shr64 (fz.bits f) (n := (52 : Nat)) rfl (by decide))) (wanted_none rfl) rfl rfl (by kernel_rfl) (fun _ _ _ h => h) ?_; clear S a; intro a S
 refine d_pure (i := 3) #[true, true, true, true, true, false, false, false, false] S rfl (p_conv rfl (fun w => cv_int (Tryz.underlying107) (Tryz.underlying3) (fz.toI64 (x := ((fz.bits f) >>> (52 : Nat))) (by have := fz.shr_le (fz.bits f) (z := 52) (by decide); omega)))) (wanted_none rfl) rfl rfl (by kernel_rfl) (fun _ _ _ h => h) ?_; clear S a; intro a S
 refine d_pure (i := 5) #[true, true, true, true, true, true, false, false, false] S rfl (p_shl (r := 2048) rfl rfl (by decide) (by decide)) (wanted_none rfl) rfl rfl (by kernel_rfl) (fun _ _ _ h => h) ?_; clear S a; intro a S
 refine d_pure (i := 6) #[true, true, true, true, true, true, true, false, false] S rfl (p_sub (r := 2047) rfl rfl (by decide)) (wanted_none rfl) rfl rfl (by kernel_rfl) (fun _ _ _ h => h) ?_; clear S a; intro a S
 have hsr := fz.shr_le (fz.bits f) (z := 52) (by decide)
 refine d_pure (i := 7) #[true, true, true, true, true, true, true, true, false] S rfl (p_and (r := ((fz.fexp f : Nat) : Int)) rfl rfl (nat_mask 11 (by decide) (x := (fz.bits f >>> (52 : Nat)).toNat) (by omega) rfl)) (wanted_none rfl) rfl rfl (by kernel_rfl) (fun _ _ _ h => h) ?_; clear S a; intro a S
 refine d_mv [8] #[true, true, true, true, true, true, true, true, true] S rfl (by kernel_rfl) (fun _ _ _ _ _ h => h) ?_; clear S a; intro a S
 refine d_done (by kernel_rfl) ?_
 refine e_then ?_
 refine wp_seq ?_
 refine c_region ?_
 refine l_mv 2 S rfl ?_; clear S a; intro a S
 refine l_pure S (p_shl rfl rfl (by decide) (shl64 1#64 (n := (52 : Nat)) rfl (by decide))) rfl rfl rfl ?_; clear S a; intro a S
 refine l_pure S (p_sub rfl rfl (sub64 (1#64 <<< (52 : Nat)) 1#64)) rfl rfl rfl ?_; clear S a; intro a S
 refine l_pure S (p_and rfl rfl (and64 (fz.bits f) ((1#64 <<< (52 : Nat)) - 1#64))) rfl rfl rfl ?_; clear S a; intro a S
 refine l_mv 1 S rfl ?_; clear S a; intro a S
 refine l_nil ?_
 refine e_then ?_
 refine wp_seq ?_
 refine wp_seq ?_
 refine c_region ?_
 refine l_mv 2 S rfl ?_; clear S a; intro a S
 refine l_pure S (p_shl (r := 2048) rfl rfl (by decide) (by decide)) rfl rfl rfl ?_; clear S a; intro a S
 refine l_pure S (p_sub (r := 2047) rfl rfl (by decide)) rfl rfl rfl ?_; clear S a; intro a S
 refine l_pure S (p_eql rfl rfl) rfl rfl rfl ?_; clear S a; intro a S
 refine l_nil ?_
 refine e_then ?_
 refine c_cond S rfl (fun bc7 => ?_) (fun bc7 => ?_)
 ·
  have c7 := bc7
  have c7 := eq_of_beq c7
  refine wp_seq ?_
  refine wp_seq ?_
  refine c_region ?_
  refine l_mv 1 S rfl ?_; clear S a; intro a S
  refine l_pure S (p_neq rfl rfl) rfl rfl rfl ?_; clear S a; intro a S
  refine l_nil ?_
  refine e_then ?_
  refine c_cond S rfl (fun bc9 => ?_) (fun bc9 => ?_)
  ·
   have c9 := bc9
   have c9 := bne_iff_ne.1 c9
   refine wp_seq ?_
   refine c_region ?_
   refine l_mv 1 S rfl ?_; clear S a; intro a S
   refine l_ownB [] (l := l) (r := ints (⟨#[78, 97, 78]⟩ : ByteArray)) S H rfl rfl rfl hown (wq.src_str Tryz.underlying9 _) Tryz.underlying34 in5 rfl (by show (l.length + 3) * 1 ≤ _; omega) (by decide) rfl rfl rfl ?_; clear S a H; intro A1 c1 ow1 w a hown1 H S
   refine l_mv 1 S rfl ?_; clear S a; intro a S
   refine l_nil ?_
   refine e_then ?_
   refine wp_ret ?_
   refine e_then_ret ?_
   refine e_then_ret ?_
   have h1 : ((fz.fexp f : Int) == 2047) = true := bc7
   have h2 : (((fz.fman f).toNat : Int) != 0) = true := bc9
   have eF : ints (⟨#[78, 97, 78]⟩ : ByteArray) = fz.ftoa f := by unfold fz.ftoa; rw [h1, cond_true, h2]; rfl
   rw [eF] at S hown1
   exact r_ret1 S rfl rfl ⟨A1, c1, ow1, rfl, hown1, H⟩
  ·
   have c9 := bc9
   have c9 := bne_eq_false_iff_eq.1 c9
   refine wp_skip ?_
   refine e_then ?_
   refine wp_seq ?_
   refine wp_seq ?_
   refine c_region ?_
   refine l_mv 1 S rfl ?_; clear S a; intro a S
   refine l_nil ?_
   refine e_then ?_
   refine c_cond S rfl (fun bc10 => ?_) (fun bc10 => ?_)
   ·
    have c10 := bc10
    have c10 := bne_iff_ne.1 c10
    refine wp_seq ?_
    refine c_region ?_
    refine l_mv 1 S rfl ?_; clear S a; intro a S
    refine l_ownB [] (l := l) (r := ints (⟨#[45, 73, 110, 102]⟩ : ByteArray)) S H rfl rfl rfl hown (wq.src_str Tryz.underlying9 _) Tryz.underlying34 in5 rfl (by show (l.length + 4) * 1 ≤ _; omega) (by decide) rfl rfl rfl ?_; clear S a H; intro A1 c1 ow1 w a hown1 H S
    refine l_mv 1 S rfl ?_; clear S a; intro a S
    refine l_nil ?_
    refine e_then ?_
    refine wp_ret ?_
    refine e_then_ret ?_
    refine e_then_ret ?_
    have h1 : ((fz.fexp f : Int) == 2047) = true := bc7
    have h2 : (((fz.fman f).toNat : Int) != 0) = false := bc9
    have h3 : fz.fneg f = true := bc10
    have eF : ints (⟨#[45, 73, 110, 102]⟩ : ByteArray) = fz.ftoa f := by unfold fz.ftoa; rw [h1, cond_true, h2, cond_false, h3]; rfl
    rw [eF] at S hown1
    exact r_ret1 S rfl rfl ⟨A1, c1, ow1, rfl, hown1, H⟩
   ·
    have c10 := bc10
    have c10 := bne_eq_false_iff_eq.1 c10
    refine wp_skip ?_
    refine e_then ?_
    refine wp_seq ?_
    refine c_region ?_
    refine l_mv 1 S rfl ?_; clear S a; intro a S
    refine l_ownB [] (l := l) (r := ints (⟨#[43, 73, 110, 102]⟩ : ByteArray)) S H rfl rfl rfl hown (wq.src_str Tryz.underlying9 _) Tryz.underlying34 in5 rfl (by show (l.length + 4) * 1 ≤ _; omega) (by decide) rfl rfl rfl ?_; clear S a H; intro A1 c1 ow1 w a hown1 H S
    refine l_mv 1 S rfl ?_; clear S a; intro a S
    refine l_nil ?_
    refine e_then ?_
    refine wp_ret ?_
    refine e_then_ret ?_
    have h1 : ((fz.fexp f : Int) == 2047) = true := bc7
    have h2 : (((fz.fman f).toNat : Int) != 0) = false := bc9
    have h3 : fz.fneg f = false := bc10
    have eF : ints (⟨#[43, 73, 110, 102]⟩ : ByteArray) = fz.ftoa f := by unfold fz.ftoa; rw [h1, cond_true, h2, cond_false, h3]; rfl
    rw [eF] at S hown1
    exact r_ret1 S rfl rfl ⟨A1, c1, ow1, rfl, hown1, H⟩
 ·
  have c7 := bc7
  have c7 := ne_of_beq_false c7
  refine wp_skip ?_
  refine e_then ?_
  refine wp_seq ?_
  refine wp_seq ?_
  refine c_region ?_
  refine l_mv 1 S rfl ?_; clear S a; intro a S
  refine l_pure S (p_eql rfl rfl) rfl rfl rfl ?_; clear S a; intro a S
  refine l_nil ?_
  refine e_then ?_
  refine c_cond S rfl (fun bc12 => ?_) (fun bc12 => ?_)
  ·
   have c12 := bc12
   have c12 := eq_of_beq c12
   refine c_region ?_
   refine l_mv 1 S rfl ?_; clear S a; intro a S
   refine l_pure S (p_add rfl rfl (nat_add (x := (fz.fexp f)) (y := 1) (by omega))) rfl rfl rfl ?_; clear S a; intro a S
   refine l_mv 1 S rfl ?_; clear S a; intro a S
   refine l_nil ?_
   refine e_then ?_
   refine wp_seq ?_
   refine c_region ?_
   refine l_mv 2 S rfl ?_; clear S a; intro a S
   refine l_pure S (p_add (r := (((((fz.fexp f) + 1) : Nat) : Int) + (-1023))) rfl rfl (IntWalk.i64_in _ (by omega))) rfl rfl rfl ?_; clear S a; intro a S
   have eE : (((((fz.fexp f) + 1) : Nat) : Int) + (-1023)) = fz.fexp2 f := by unfold fz.fexp2; rw [bc12]; rfl
   have eM : ((fz.bits f) &&& ((1#64 <<< (52 : Nat)) - 1#64)) = fz.fman2 f := by unfold fz.fman2; rw [bc12]; rfl
   rw [eE] at S
   rw [show (((((fz.bits f) &&& ((1#64 <<< (52 : Nat)) - 1#64))).toNat : Nat) : Int) = ((fz.fman2 f).toNat : Int) by rw [eM]] at S
   refine l_mv 1 S rfl ?_; clear S a; intro a S
   refine l_nil ?_
   refine e_then ?_
   refine wp_seq ?_
   refine wp_seq ?_
   refine c_region ?_
   refine l_mv 1 S rfl ?_; clear S a; intro a S
   refine l_pure S (p_eql rfl rfl) rfl rfl rfl ?_; clear S a; intro a S
   refine l_nil ?_
   refine e_then ?_
   refine c_cond (b := false) S rfl (fun h => by cases h) (fun _ => ?_)
   refine wp_skip ?_
   refine e_then ?_
   refine wp_seq ?_
   refine wp_seq ?_
   refine c_region ?_
   refine l_mv 1 S rfl ?_; clear S a; intro a S
   refine l_pure S (p_eql rfl rfl) rfl rfl rfl ?_; clear S a; intro a S
   refine l_mv 1 S rfl ?_; clear S a; intro a S
   refine l_on S rfl rfl rfl rfl rfl ?_
   refine l_pure S (p_move rfl) rfl rfl rfl ?_; clear S a; intro a S
   refine l_on S rfl rfl rfl rfl rfl ?_
   refine l_pure S (p_eql rfl rfl) rfl rfl rfl ?_; clear S a; intro a S
   refine l_pure S (p_pick_f rfl rfl rfl) rfl rfl rfl ?_; clear S a; intro a S
   refine l_nil ?_
   refine e_then ?_
   refine c_cond (b := false) S rfl (fun h => by cases h) (fun _ => ?_)
   refine wp_skip ?_
   refine e_then ?_
   refine wp_seq ?_
   refine wp_seq ?_
   refine c_region ?_
   refine l_mv 1 S rfl ?_; clear S a; intro a S
   refine l_pure S (p_eql rfl rfl) rfl rfl rfl ?_; clear S a; intro a S
   refine l_nil ?_
   refine e_then ?_
   refine c_cond S rfl (fun bc19 => ?_) (fun bc19 => ?_)
   ·
    have c19 := bc19
    have c19 := eq_of_beq c19
    refine wp_seq ?_
    refine c_region ?_
    refine l_mv 5 S rfl ?_; clear S a; intro a S
    refine l_pure S (p_lss rfl rfl) rfl rfl rfl ?_; clear S a; intro a S
    have hcon := ef.efgZ_ wb _ B L0 (fz.fneg f) A c l ow hown hl H
    refine l_call S rfl rfl Tryz.func46 rfl rfl (hcon) rfl rfl rfl ?_
    rintro e w ⟨A1, c1, ow1, rfl, hown1, hH⟩
    refine ⟨_, rfl, ?_⟩; clear S a; intro a S
    clear H hcon; have H := hH; clear hH
    refine l_mv 1 S rfl ?_; clear S a; intro a S
    refine l_nil ?_
    refine e_then ?_
    refine wp_ret ?_
    refine e_then_ret ?_
    have eF : fz.fmtF (fz.fneg f) [] 0 0 = fz.ftoa f := by unfold fz.ftoa; rw [bc7, bc19]; rfl
    rw [eF] at S hown1
    exact r_ret1 S rfl rfl ⟨A1, c1, ow1, rfl, hown1, H⟩
   ·
    have c19 := bc19
    have c19 := ne_of_beq_false c19
    refine wp_skip ?_
    refine e_then ?_
    refine wp_seq ?_
    refine wp_seq ?_
    refine c_region ?_
    refine l_mv 1 S rfl ?_; clear S a; intro a S
    refine l_pure S (p_lss rfl rfl) rfl rfl rfl ?_; clear S a; intro a S
    refine l_nil ?_
    refine e_then ?_
    refine c_cond (b := true) S rfl (fun _ => ?_) (fun h => by cases h)
    refine wp_seq ?_
    refine c_region ?_
    refine l_alloc (cs := #[.int .u8 0, .int .u8 0, .int .u8 0, .int .u8 0, .int .u8 0, .int .u8 0, .int .u8 0, .int .u8 0, .int .u8 0, .int .u8 0, .int .u8 0, .int .u8 0, .int .u8 0, .int .u8 0, .int .u8 0, .int .u8 0, .int .u8 0, .int .u8 0, .int .u8 0, .int .u8 0, .int .u8 0, .int .u8 0, .int .u8 0, .int .u8 0, .int .u8 0, .int .u8 0, .int .u8 0, .int .u8 0, .int .u8 0, .int .u8 0, .int .u8 0, .int .u8 0]) S H rfl (fun w => al zv150) rfl rfl rfl ?_; clear S a H; intro gb w a H S
    refine l_nil ?_
    refine e_then ?_
    refine wp_seq ?_
    refine c_region ?_
    refine l_mv 1 S rfl ?_; clear S a; intro a S
    obtain ⟨hb1, hb2⟩ := fz.fnum_bd bc7 bc19
    have hsb := fz.fshift_bd f bc19
    have heb := fz.fexp2_bd f bc7
    have hbl := fz.bl_le (fz.fman2 f).toNat
    refine l_call S rfl rfl Tryz.func47 rfl rfl (li.len64_ (fz.fman2 f) _) rfl rfl rfl ?_
    rintro e w' ⟨rfl, rfl⟩
    refine ⟨_, rfl, ?_⟩; clear S a; intro a S
    refine l_pure S (p_sub (r := ((fz.fshift f : Nat) : Int)) rfl rfl (by rw [IntWalk.i64_in _ (by omega)]; unfold fz.fshift; omega)) rfl rfl rfl ?_; clear S a; intro a S
    refine l_mv 1 S rfl ?_; clear S a; intro a S
    refine l_nil ?_
    refine e_then ?_
    refine wp_seq ?_
    refine c_region ?_
    refine l_mv 2 S rfl ?_; clear S a; intro a S
    refine l_pure S (p_shl rfl rfl (by omega) (shl64 (fz.fman2 f) (n := ((fz.fshift f))) rfl (by omega))) rfl rfl rfl ?_; clear S a; intro a S
    refine l_mv 1 S rfl ?_; clear S a; intro a S
    refine l_nil ?_
    refine e_then ?_
    refine wp_seq ?_
    refine c_region ?_
    refine l_mv 2 S rfl ?_; clear S a; intro a S
    refine l_pure S (p_sub (r := ((fz.fexp2 f) - (((fz.fshift f) : Nat) : Int))) rfl rfl (IntWalk.i64_in _ (by omega))) rfl rfl rfl ?_; clear S a; intro a S
    refine l_mv 1 S rfl ?_; clear S a; intro a S
    refine l_nil ?_
    refine e_then ?_
    refine wp_seq ?_
    refine c_region ?_
    refine l_mv 3 S rfl ?_; clear S a; intro a S
    refine l_pure S (p_sub (r := (((fz.fexp2 f) - (((fz.fshift f) : Nat) : Int)) - 52)) rfl rfl (IntWalk.i64_in _ (by omega))) rfl rfl rfl ?_; clear S a; intro a S
    have hcon : Calls Tryz.prog 56 #[.int .u64 ((fz.fman2 f <<< fz.fshift f).toNat : Int), .int .i64 (fz.fexp2 f - (fz.fshift f : Int) - 52)] _ fun e' w' => e' = .returned (.tuple #[.int .u64 ((fz.fshort f).1.toNat : Int), .int .i64 (fz.fshort f).2]) ∧ HH B wb w' _ := sh.short_ wb _ B _ hT _ _ hb1 H
    refine l_call S rfl rfl Tryz.func56 rfl rfl (hcon) rfl rfl rfl ?_
    rintro e w ⟨rfl, hH⟩
    refine ⟨_, rfl, ?_⟩; clear S a; intro a S
    clear H hcon; have H := hH; clear hH
    refine l_mv 5 S rfl ?_; clear S a; intro a S
    refine l_nil ?_
    refine e_then ?_
    refine wp_seq ?_
    refine d_start (id := 38) [5] 11 #[false, false, false, false, false, false, false, false, false, false, false] H rfl rfl rfl (fun w H => ?_)
    refine d_mv [1, 2, 3] #[false, true, true, true, false, false, false, false, false, false, false] S rfl (by kernel_rfl) (fun _ _ _ _ _ h => h) ?_; clear S a; intro a S
    refine d_pure (i := 0) #[true, true, true, true, false, false, false, false, false, false, false] S rfl (p_slice rfl (fun _ _ => o_none) (fun _ _ => o_none) (fun _ _ => o_none) (fun w => sl_arr_all Tryz.underlying150 sz5 (by decide))) (wanted_none rfl) rfl rfl (by kernel_rfl) (fun _ _ _ h => h) ?_; clear S a; intro a S
    have hcon := sd.nd_ wb _ B _ ht (fz.fshort f).1.toNat (fz.fshort f).1.isLt H
    refine d_call (i := 4) #[true, true, true, true, true, false, false, false, false, false, false] S rfl rfl rfl Tryz.func50 rfl rfl hcon (wanted_none rfl) rfl rfl (by kernel_rfl) rfl ?_
    rintro e w ⟨rfl, hH⟩; refine ⟨_, rfl, hH, ?_⟩; clear hcon H; have H := hH; clear hH; clear S a; intro a S
    have hcon := sd.setd_ wb _ B _ gb (fz.fshort f).1.toNat (fz.fshort f).2 (by omega) (fz.fshort f).1.isLt H
    refine d_call_last (i := 5) #[true, true, true, true, true, true, false, false, false, false, false] S rfl rfl rfl Tryz.func49 rfl rfl hcon (wanted_none rfl) rfl rfl (by kernel_rfl) rfl ?_
    rintro e w ⟨rfl, hH⟩
    refine ⟨_, rfl, ?_⟩; clear S a; intro a S; clear H hcon; have H := hH; clear hH
    have hnl := fz.nd0_le (u := (fz.fshort f).1.toNat) (fz.fshort f).1.isLt
    have htz := fz.trz_le (fz.dg0 (fz.fshort f).1.toNat) (fz.nd0 (fz.fshort f).1.toNat)
    have hrow : bf.Row (spl #[.int .u8 0, .int .u8 0, .int .u8 0, .int .u8 0, .int .u8 0, .int .u8 0, .int .u8 0, .int .u8 0, .int .u8 0, .int .u8 0, .int .u8 0, .int .u8 0, .int .u8 0, .int .u8 0, .int .u8 0, .int .u8 0, .int .u8 0, .int .u8 0, .int .u8 0, .int .u8 0, .int .u8 0, .int .u8 0, .int .u8 0, .int .u8 0, .int .u8 0, .int .u8 0, .int .u8 0, .int .u8 0, .int .u8 0, .int .u8 0, .int .u8 0, .int .u8 0] 0 ((fz.dg0 (fz.fshort f).1.toNat).map (Value.int .u8))) 0 (fz.dg0 (fz.fshort f).1.toNat) := bf.row0_spl (by rw [fz.dg0_len]; show _ ≤ 32; omega)
    refine d_mv [6, 7, 8, 9, 10] #[true, true, true, true, true, true, true, true, true, true, true] S rfl (by kernel_rfl) (fun _ _ _ _ _ h => h) ?_; clear S a; intro a S
    refine d_done (by kernel_rfl) ?_
    refine e_then ?_
    refine wp_seq ?_
    refine wp_seq ?_
    refine c_region ?_
    refine l_mv 1 S rfl ?_; clear S a; intro a S
    refine l_nil ?_
    refine e_then ?_
    refine wp_block ?_
    refine wp_seq ?_
    refine wp_seq ?_
    refine c_region ?_
    refine l_pure S (p_eql rfl rfl) rfl rfl rfl ?_; clear S a; intro a S
    refine l_mv 1 S rfl ?_; clear S a; intro a S
    refine l_nil ?_
    refine e_then ?_
    refine c_cond (b := false) S rfl (fun h => by cases h) (fun _ => ?_)
    refine c_region ?_
    refine l_pure S (p_eql rfl rfl) rfl rfl rfl ?_; clear S a; intro a S
    refine l_mv 1 S rfl ?_; clear S a; intro a S
    refine l_nil ?_
    refine e_then ?_
    refine c_cond (b := false) S rfl (fun h => by cases h) (fun _ => ?_)
    refine wp_seq ?_
    refine c_region ?_
    refine l_pure S (p_eql rfl rfl) rfl rfl rfl ?_; clear S a; intro a S
    refine l_mv 1 S rfl ?_; clear S a; intro a S
    refine l_nil ?_
    refine e_then ?_
    refine c_cond (b := true) S rfl (fun _ => ?_) (fun h => by cases h)
    refine c_region ?_
    refine l_mv 2 S rfl ?_; clear S a; intro a S
    refine l_pure S (p_sub (r := ((((fz.trz (fz.dg0 (fz.fshort f).1.toNat) (fz.nd0 (fz.fshort f).1.toNat)) : Nat) : Int) - ((fz.nd0 (fz.fshort f).1.toNat : Int) + (fz.fshort f).2))) rfl rfl (IntWalk.i64_in _ (by omega))) rfl rfl rfl ?_; clear S a; intro a S
    refine l_pure S (fz.p_maxV (r := (((((((fz.trz (fz.dg0 (fz.fshort f).1.toNat) (fz.nd0 (fz.fshort f).1.toNat)) : Nat) : Int) - ((fz.nd0 (fz.fshort f).1.toNat : Int) + (fz.fshort f).2))).toNat : Nat) : Int)) rfl rfl (by split <;> omega)) rfl rfl rfl ?_; clear S a; intro a S
    refine l_mv 1 S rfl ?_; clear S a; intro a S
    refine l_nil ?_
    refine e_in 1 ?_
    refine e_then ?_
    refine wp_seq ?_
    refine c_region ?_
    refine l_mv 2 S rfl ?_; clear S a; intro a S
    refine l_pure S (p_slice rfl (fun _ _ => o_none) (fun _ _ => o_none) (fun _ _ => o_none) (fun w => sl_arr_all Tryz.underlying150 sz5 (by decide))) rfl rfl rfl ?_; clear S a; intro a S
    refine l_mv 4 S rfl ?_; clear S a; intro a S
    replace H := H.mid
    have hcon := ef.efg_ wb _ B L0 gb (fz.trz (fz.dg0 (fz.fshort f).1.toNat) (fz.nd0 (fz.fshort f).1.toNat)) _ (fz.dg0 (fz.fshort f).1.toNat) hrow (by rw [fz.dg0_len]; exact htz) (by rw [fz.dg0_len]; omega) ((fz.nd0 (fz.fshort f).1.toNat : Int) + (fz.fshort f).2) (by omega) (fz.fneg f) A c l ow hown hl H
    refine l_call S rfl rfl Tryz.func46 rfl rfl (hcon) rfl rfl rfl ?_
    rintro e w ⟨A1, c1, ow1, rfl, hown1, hH⟩
    refine ⟨_, rfl, ?_⟩; clear S a; intro a S
    clear H hcon; have H := hH.sub (List.Sublist.append (.refl _) (.cons _ (.refl _))); clear hH
    refine l_mv 1 S rfl ?_; clear S a; intro a S
    refine l_nil ?_
    refine e_then ?_
    refine wp_ret ?_
    refine e_then_ret ?_
    have eF : fz.fmtF (fz.fneg f) (fz.dg0 (fz.fshort f).1.toNat) (fz.trz (fz.dg0 (fz.fshort f).1.toNat) (fz.nd0 (fz.fshort f).1.toNat)) ((fz.nd0 (fz.fshort f).1.toNat : Int) + (fz.fshort f).2) = fz.ftoa f := by unfold fz.ftoa; rw [bc7, bc19]; rfl
    rw [eF] at S hown1
    exact r_ret1 S rfl rfl ⟨A1, c1, ow1, rfl, hown1, H⟩
  ·
   have c12 := bc12
   have c12 := ne_of_beq_false c12
   refine c_region ?_
   refine l_mv 2 S rfl ?_; clear S a; intro a S
   refine l_pure S (p_shl rfl rfl (by decide) (shl64 1#64 (n := (52 : Nat)) rfl (by decide))) rfl rfl rfl ?_; clear S a; intro a S
   refine l_pure S (p_or rfl rfl (or64 ((fz.bits f) &&& ((1#64 <<< (52 : Nat)) - 1#64)) (1#64 <<< (52 : Nat)))) rfl rfl rfl ?_; clear S a; intro a S
   refine l_mv 1 S rfl ?_; clear S a; intro a S
   refine l_nil ?_
   refine e_then ?_
   refine wp_seq ?_
   refine c_region ?_
   refine l_mv 2 S rfl ?_; clear S a; intro a S
   refine l_pure S (p_add (r := ((((fz.fexp f) : Nat) : Int) + (-1023))) rfl rfl (IntWalk.i64_in _ (by omega))) rfl rfl rfl ?_; clear S a; intro a S
   have eE : ((((fz.fexp f) : Nat) : Int) + (-1023)) = fz.fexp2 f := by unfold fz.fexp2; rw [bc12]; rfl
   have eM : (((fz.bits f) &&& ((1#64 <<< (52 : Nat)) - 1#64)) ||| (1#64 <<< (52 : Nat))) = fz.fman2 f := by unfold fz.fman2; rw [bc12]; rfl
   rw [eE] at S
   rw [show ((((((fz.bits f) &&& ((1#64 <<< (52 : Nat)) - 1#64)) ||| (1#64 <<< (52 : Nat)))).toNat : Nat) : Int) = ((fz.fman2 f).toNat : Int) by rw [eM]] at S
   refine l_mv 1 S rfl ?_; clear S a; intro a S
   refine l_nil ?_
   refine e_then ?_
   refine wp_seq ?_
   refine wp_seq ?_
   refine c_region ?_
   refine l_mv 1 S rfl ?_; clear S a; intro a S
   refine l_pure S (p_eql rfl rfl) rfl rfl rfl ?_; clear S a; intro a S
   refine l_nil ?_
   refine e_then ?_
   refine c_cond (b := false) S rfl (fun h => by cases h) (fun _ => ?_)
   refine wp_skip ?_
   refine e_then ?_
   refine wp_seq ?_
   refine wp_seq ?_
   refine c_region ?_
   refine l_mv 1 S rfl ?_; clear S a; intro a S
   refine l_pure S (p_eql rfl rfl) rfl rfl rfl ?_; clear S a; intro a S
   refine l_mv 1 S rfl ?_; clear S a; intro a S
   refine l_on S rfl rfl rfl rfl rfl ?_
   refine l_pure S (p_move rfl) rfl rfl rfl ?_; clear S a; intro a S
   refine l_on S rfl rfl rfl rfl rfl ?_
   refine l_pure S (p_eql rfl rfl) rfl rfl rfl ?_; clear S a; intro a S
   refine l_pure S (p_pick_f rfl rfl rfl) rfl rfl rfl ?_; clear S a; intro a S
   refine l_nil ?_
   refine e_then ?_
   refine c_cond (b := false) S rfl (fun h => by cases h) (fun _ => ?_)
   refine wp_skip ?_
   refine e_then ?_
   refine wp_seq ?_
   refine wp_seq ?_
   refine c_region ?_
   refine l_mv 1 S rfl ?_; clear S a; intro a S
   refine l_pure S (p_eql rfl rfl) rfl rfl rfl ?_; clear S a; intro a S
   refine l_nil ?_
   refine e_then ?_
   refine c_cond S rfl (fun bc35 => ?_) (fun bc35 => ?_)
   ·
    have c35 := bc35
    have c35 := eq_of_beq c35
    refine wp_seq ?_
    refine c_region ?_
    refine l_mv 5 S rfl ?_; clear S a; intro a S
    refine l_pure S (p_lss rfl rfl) rfl rfl rfl ?_; clear S a; intro a S
    have hcon := ef.efgZ_ wb _ B L0 (fz.fneg f) A c l ow hown hl H
    refine l_call S rfl rfl Tryz.func46 rfl rfl (hcon) rfl rfl rfl ?_
    rintro e w ⟨A1, c1, ow1, rfl, hown1, hH⟩
    refine ⟨_, rfl, ?_⟩; clear S a; intro a S
    clear H hcon; have H := hH; clear hH
    refine l_mv 1 S rfl ?_; clear S a; intro a S
    refine l_nil ?_
    refine e_then ?_
    refine wp_ret ?_
    refine e_then_ret ?_
    have eF : fz.fmtF (fz.fneg f) [] 0 0 = fz.ftoa f := by unfold fz.ftoa; rw [bc7, bc35]; rfl
    rw [eF] at S hown1
    exact r_ret1 S rfl rfl ⟨A1, c1, ow1, rfl, hown1, H⟩
   ·
    have c35 := bc35
    have c35 := ne_of_beq_false c35
    refine wp_skip ?_
    refine e_then ?_
    refine wp_seq ?_
    refine wp_seq ?_
    refine c_region ?_
    refine l_mv 1 S rfl ?_; clear S a; intro a S
    refine l_pure S (p_lss rfl rfl) rfl rfl rfl ?_; clear S a; intro a S
    refine l_nil ?_
    refine e_then ?_
    refine c_cond (b := true) S rfl (fun _ => ?_) (fun h => by cases h)
    refine wp_seq ?_
    refine c_region ?_
    refine l_alloc (cs := #[.int .u8 0, .int .u8 0, .int .u8 0, .int .u8 0, .int .u8 0, .int .u8 0, .int .u8 0, .int .u8 0, .int .u8 0, .int .u8 0, .int .u8 0, .int .u8 0, .int .u8 0, .int .u8 0, .int .u8 0, .int .u8 0, .int .u8 0, .int .u8 0, .int .u8 0, .int .u8 0, .int .u8 0, .int .u8 0, .int .u8 0, .int .u8 0, .int .u8 0, .int .u8 0, .int .u8 0, .int .u8 0, .int .u8 0, .int .u8 0, .int .u8 0, .int .u8 0]) S H rfl (fun w => al zv150) rfl rfl rfl ?_; clear S a H; intro gb w a H S
    refine l_nil ?_
    refine e_then ?_
    refine wp_seq ?_
    refine c_region ?_
    refine l_mv 1 S rfl ?_; clear S a; intro a S
    obtain ⟨hb1, hb2⟩ := fz.fnum_bd bc7 bc35
    have hsb := fz.fshift_bd f bc35
    have heb := fz.fexp2_bd f bc7
    have hbl := fz.bl_le (fz.fman2 f).toNat
    refine l_call S rfl rfl Tryz.func47 rfl rfl (li.len64_ (fz.fman2 f) _) rfl rfl rfl ?_
    rintro e w' ⟨rfl, rfl⟩
    refine ⟨_, rfl, ?_⟩; clear S a; intro a S
    refine l_pure S (p_sub (r := ((fz.fshift f : Nat) : Int)) rfl rfl (by rw [IntWalk.i64_in _ (by omega)]; unfold fz.fshift; omega)) rfl rfl rfl ?_; clear S a; intro a S
    refine l_mv 1 S rfl ?_; clear S a; intro a S
    refine l_nil ?_
    refine e_then ?_
    refine wp_seq ?_
    refine c_region ?_
    refine l_mv 2 S rfl ?_; clear S a; intro a S
    refine l_pure S (p_shl rfl rfl (by omega) (shl64 (fz.fman2 f) (n := ((fz.fshift f))) rfl (by omega))) rfl rfl rfl ?_; clear S a; intro a S
    refine l_mv 1 S rfl ?_; clear S a; intro a S
    refine l_nil ?_
    refine e_then ?_
    refine wp_seq ?_
    refine c_region ?_
    refine l_mv 2 S rfl ?_; clear S a; intro a S
    refine l_pure S (p_sub (r := ((fz.fexp2 f) - (((fz.fshift f) : Nat) : Int))) rfl rfl (IntWalk.i64_in _ (by omega))) rfl rfl rfl ?_; clear S a; intro a S
    refine l_mv 1 S rfl ?_; clear S a; intro a S
    refine l_nil ?_
    refine e_then ?_
    refine wp_seq ?_
    refine c_region ?_
    refine l_mv 3 S rfl ?_; clear S a; intro a S
    refine l_pure S (p_sub (r := (((fz.fexp2 f) - (((fz.fshift f) : Nat) : Int)) - 52)) rfl rfl (IntWalk.i64_in _ (by omega))) rfl rfl rfl ?_; clear S a; intro a S
    have hcon : Calls Tryz.prog 56 #[.int .u64 ((fz.fman2 f <<< fz.fshift f).toNat : Int), .int .i64 (fz.fexp2 f - (fz.fshift f : Int) - 52)] _ fun e' w' => e' = .returned (.tuple #[.int .u64 ((fz.fshort f).1.toNat : Int), .int .i64 (fz.fshort f).2]) ∧ HH B wb w' _ := sh.short_ wb _ B _ hT _ _ hb1 H
    refine l_call S rfl rfl Tryz.func56 rfl rfl (hcon) rfl rfl rfl ?_
    rintro e w ⟨rfl, hH⟩
    refine ⟨_, rfl, ?_⟩; clear S a; intro a S
    clear H hcon; have H := hH; clear hH
    refine l_mv 5 S rfl ?_; clear S a; intro a S
    refine l_nil ?_
    refine e_then ?_
    refine wp_seq ?_
    refine d_start (id := 38) [5] 11 #[false, false, false, false, false, false, false, false, false, false, false] H rfl rfl rfl (fun w H => ?_)
    refine d_mv [1, 2, 3] #[false, true, true, true, false, false, false, false, false, false, false] S rfl (by kernel_rfl) (fun _ _ _ _ _ h => h) ?_; clear S a; intro a S
    refine d_pure (i := 0) #[true, true, true, true, false, false, false, false, false, false, false] S rfl (p_slice rfl (fun _ _ => o_none) (fun _ _ => o_none) (fun _ _ => o_none) (fun w => sl_arr_all Tryz.underlying150 sz5 (by decide))) (wanted_none rfl) rfl rfl (by kernel_rfl) (fun _ _ _ h => h) ?_; clear S a; intro a S
    have hcon := sd.nd_ wb _ B _ ht (fz.fshort f).1.toNat (fz.fshort f).1.isLt H
    refine d_call (i := 4) #[true, true, true, true, true, false, false, false, false, false, false] S rfl rfl rfl Tryz.func50 rfl rfl hcon (wanted_none rfl) rfl rfl (by kernel_rfl) rfl ?_
    rintro e w ⟨rfl, hH⟩; refine ⟨_, rfl, hH, ?_⟩; clear hcon H; have H := hH; clear hH; clear S a; intro a S
    have hcon := sd.setd_ wb _ B _ gb (fz.fshort f).1.toNat (fz.fshort f).2 (by omega) (fz.fshort f).1.isLt H
    refine d_call_last (i := 5) #[true, true, true, true, true, true, false, false, false, false, false] S rfl rfl rfl Tryz.func49 rfl rfl hcon (wanted_none rfl) rfl rfl (by kernel_rfl) rfl ?_
    rintro e w ⟨rfl, hH⟩
    refine ⟨_, rfl, ?_⟩; clear S a; intro a S; clear H hcon; have H := hH; clear hH
    have hnl := fz.nd0_le (u := (fz.fshort f).1.toNat) (fz.fshort f).1.isLt
    have htz := fz.trz_le (fz.dg0 (fz.fshort f).1.toNat) (fz.nd0 (fz.fshort f).1.toNat)
    have hrow : bf.Row (spl #[.int .u8 0, .int .u8 0, .int .u8 0, .int .u8 0, .int .u8 0, .int .u8 0, .int .u8 0, .int .u8 0, .int .u8 0, .int .u8 0, .int .u8 0, .int .u8 0, .int .u8 0, .int .u8 0, .int .u8 0, .int .u8 0, .int .u8 0, .int .u8 0, .int .u8 0, .int .u8 0, .int .u8 0, .int .u8 0, .int .u8 0, .int .u8 0, .int .u8 0, .int .u8 0, .int .u8 0, .int .u8 0, .int .u8 0, .int .u8 0, .int .u8 0, .int .u8 0] 0 ((fz.dg0 (fz.fshort f).1.toNat).map (Value.int .u8))) 0 (fz.dg0 (fz.fshort f).1.toNat) := bf.row0_spl (by rw [fz.dg0_len]; show _ ≤ 32; omega)
    refine d_mv [6, 7, 8, 9, 10] #[true, true, true, true, true, true, true, true, true, true, true] S rfl (by kernel_rfl) (fun _ _ _ _ _ h => h) ?_; clear S a; intro a S
    refine d_done (by kernel_rfl) ?_
    refine e_then ?_
    refine wp_seq ?_
    refine wp_seq ?_
    refine c_region ?_
    refine l_mv 1 S rfl ?_; clear S a; intro a S
    refine l_nil ?_
    refine e_then ?_
    refine wp_block ?_
    refine wp_seq ?_
    refine wp_seq ?_
    refine c_region ?_
    refine l_pure S (p_eql rfl rfl) rfl rfl rfl ?_; clear S a; intro a S
    refine l_mv 1 S rfl ?_; clear S a; intro a S
    refine l_nil ?_
    refine e_then ?_
    refine c_cond (b := false) S rfl (fun h => by cases h) (fun _ => ?_)
    refine c_region ?_
    refine l_pure S (p_eql rfl rfl) rfl rfl rfl ?_; clear S a; intro a S
    refine l_mv 1 S rfl ?_; clear S a; intro a S
    refine l_nil ?_
    refine e_then ?_
    refine c_cond (b := false) S rfl (fun h => by cases h) (fun _ => ?_)
    refine wp_seq ?_
    refine c_region ?_
    refine l_pure S (p_eql rfl rfl) rfl rfl rfl ?_; clear S a; intro a S
    refine l_mv 1 S rfl ?_; clear S a; intro a S
    refine l_nil ?_
    refine e_then ?_
    refine c_cond (b := true) S rfl (fun _ => ?_) (fun h => by cases h)
    refine c_region ?_
    refine l_mv 2 S rfl ?_; clear S a; intro a S
    refine l_pure S (p_sub (r := ((((fz.trz (fz.dg0 (fz.fshort f).1.toNat) (fz.nd0 (fz.fshort f).1.toNat)) : Nat) : Int) - ((fz.nd0 (fz.fshort f).1.toNat : Int) + (fz.fshort f).2))) rfl rfl (IntWalk.i64_in _ (by omega))) rfl rfl rfl ?_; clear S a; intro a S
    refine l_pure S (fz.p_maxV (r := (((((((fz.trz (fz.dg0 (fz.fshort f).1.toNat) (fz.nd0 (fz.fshort f).1.toNat)) : Nat) : Int) - ((fz.nd0 (fz.fshort f).1.toNat : Int) + (fz.fshort f).2))).toNat : Nat) : Int)) rfl rfl (by split <;> omega)) rfl rfl rfl ?_; clear S a; intro a S
    refine l_mv 1 S rfl ?_; clear S a; intro a S
    refine l_nil ?_
    refine e_in 1 ?_
    refine e_then ?_
    refine wp_seq ?_
    refine c_region ?_
    refine l_mv 2 S rfl ?_; clear S a; intro a S
    refine l_pure S (p_slice rfl (fun _ _ => o_none) (fun _ _ => o_none) (fun _ _ => o_none) (fun w => sl_arr_all Tryz.underlying150 sz5 (by decide))) rfl rfl rfl ?_; clear S a; intro a S
    refine l_mv 4 S rfl ?_; clear S a; intro a S
    replace H := H.mid
    have hcon := ef.efg_ wb _ B L0 gb (fz.trz (fz.dg0 (fz.fshort f).1.toNat) (fz.nd0 (fz.fshort f).1.toNat)) _ (fz.dg0 (fz.fshort f).1.toNat) hrow (by rw [fz.dg0_len]; exact htz) (by rw [fz.dg0_len]; omega) ((fz.nd0 (fz.fshort f).1.toNat : Int) + (fz.fshort f).2) (by omega) (fz.fneg f) A c l ow hown hl H
    refine l_call S rfl rfl Tryz.func46 rfl rfl (hcon) rfl rfl rfl ?_
    rintro e w ⟨A1, c1, ow1, rfl, hown1, hH⟩
    refine ⟨_, rfl, ?_⟩; clear S a; intro a S
    clear H hcon; have H := hH.sub (List.Sublist.append (.refl _) (.cons _ (.refl _))); clear hH
    refine l_mv 1 S rfl ?_; clear S a; intro a S
    refine l_nil ?_
    refine e_then ?_
    refine wp_ret ?_
    refine e_then_ret ?_
    have eF : fz.fmtF (fz.fneg f) (fz.dg0 (fz.fshort f).1.toNat) (fz.trz (fz.dg0 (fz.fshort f).1.toNat) (fz.nd0 (fz.fshort f).1.toNat)) ((fz.nd0 (fz.fshort f).1.toNat : Int) + (fz.fshort f).2) = fz.ftoa f := by unfold fz.ftoa; rw [bc7, bc35]; rfl
    rw [eF] at S hown1
    exact r_ret1 S rfl rfl ⟨A1, c1, ow1, rfl, hown1, H⟩
theorem appF0_ (wb w0 : World) (B : Nat) (L0 : List (Nat × Obj)) (ht : Lib.TabBelow Tryz.prog B wb "internal/strconv.uint64pow10" .u64 Lib.pow10Tab) (hT : fz.PTab 3 B wb) (f : Nat) (hf : f < 18446744073709551616) (A : Option Addr) (c : Nat) (l : List Int) (ow : List (Nat × Obj)) (hown : OwnB 5 (.slice A l.length c) l ow) (hl : l.length ≤ 100000000000000) (H : HH B wb w0 (ow ++ L0)) : Calls Tryz.prog 117 #[.slice A l.length c, .float .f64 f, .int .u8 102, .int .i64 (-1), .int .i64 64] w0 fun e w' => ∃ (A' : Option Addr) (c' : Nat) (ow' : List (Nat × Obj)), e = .returned (.slice A' (l ++ fz.ftoa f).length c') ∧ OwnB 5 (.slice A' (l ++ fz.ftoa f).length c') (l ++ fz.ftoa f) ow' ∧ HH B wb w' (ow' ++ L0) := by
 refine c_enter (args := [.slice A l.length c, .float .f64 f, .int .u8 102, .int .i64 (-1), .int .i64 64]) (k := 22) Tryz.func117 rfl rfl rfl (fun a S => ?_)
 refine wp_seq ?_
 refine c_region ?_
 refine l_mv 1 S rfl ?_; clear S a; intro a S
 refine l_nil ?_
 refine e_then ?_
 refine wp_seq ?_
 refine wp_seq ?_
 refine c_region ?_
 refine l_mv 1 S rfl ?_; clear S a; intro a S
 refine l_pure S (p_eql rfl rfl) rfl rfl rfl ?_; clear S a; intro a S
 refine l_nil ?_
 refine e_then ?_
 refine c_cond (b := false) S rfl (fun h => by cases h) (fun _ => ?_)
 refine wp_skip ?_
 refine e_then ?_
 refine wp_seq ?_
 refine wp_seq ?_
 refine c_region ?_
 refine l_mv 1 S rfl ?_; clear S a; intro a S
 refine l_pure S (p_eql rfl rfl) rfl rfl rfl ?_; clear S a; intro a S
 refine l_nil ?_
 refine e_then ?_
 refine c_cond (b := true) S rfl (fun _ => ?_) (fun h => by cases h)
 refine wp_seq ?_
 refine c_region ?_
 refine l_mv 4 S rfl ?_; clear S a; intro a S
 refine l_call S rfl rfl Tryz.func41 rfl rfl (ftoa_ wb _ B L0 ht hT f hf A c l ow hown hl H) rfl rfl rfl ?_
 rintro e w ⟨A1, c1, ow1, rfl, hown1, hH⟩
 refine ⟨_, rfl, ?_⟩; clear S a; intro a S
 clear H; have H := hH; clear hH
 refine l_mv 1 S rfl ?_; clear S a; intro a S
 refine l_nil ?_
 refine e_then ?_
 refine wp_ret ?_
 refine e_then_ret ?_
 exact r_ret1 S rfl rfl ⟨A1, c1, ow1, rfl, hown1, H⟩
theorem appF_ (wb w0 : World) (B : Nat) (L0 : List (Nat × Obj)) (ht : Lib.TabBelow Tryz.prog B wb "internal/strconv.uint64pow10" .u64 Lib.pow10Tab) (hT : fz.PTab 3 B wb) (f : Nat) (hf : f < 18446744073709551616) (A : Option Addr) (c : Nat) (l : List Int) (ow : List (Nat × Obj)) (hown : OwnB 5 (.slice A l.length c) l ow) (hl : l.length ≤ 100000000000000) (H : HH B wb w0 (ow ++ L0)) : Calls Tryz.prog 116 #[.slice A l.length c, .float .f64 f, .int .u8 102, .int .i64 (-1), .int .i64 64] w0 fun e w' => ∃ (A' : Option Addr) (c' : Nat) (ow' : List (Nat × Obj)), e = .returned (.slice A' (l ++ fz.ftoa f).length c') ∧ OwnB 5 (.slice A' (l ++ fz.ftoa f).length c') (l ++ fz.ftoa f) ow' ∧ HH B wb w' (ow' ++ L0) := by
 refine c_enter (args := [.slice A l.length c, .float .f64 f, .int .u8 102, .int .i64 (-1), .int .i64 64]) (k := 12) Tryz.func116 rfl rfl rfl (fun a S => ?_)
 refine wp_seq ?_
 refine c_region ?_
 refine l_mv 1 S rfl ?_; clear S a; intro a S
 refine l_nil ?_
 refine e_then ?_
 refine wp_seq ?_
 refine c_region ?_
 refine l_mv 5 S rfl ?_; clear S a; intro a S
 refine l_call S rfl rfl Tryz.func117 rfl rfl (appF0_ wb _ B L0 ht hT f hf A c l ow hown hl H) rfl rfl rfl ?_
 rintro e w ⟨A1, c1, ow1, rfl, hown1, hH⟩
 refine ⟨_, rfl, ?_⟩; clear S a; intro a S
 clear H; have H := hH; clear hH
 refine l_mv 1 S rfl ?_; clear S a; intro a S
 refine l_nil ?_
 refine e_then ?_
 refine wp_ret ?_
 exact r_ret1 S rfl rfl ⟨A1, c1, ow1, rfl, hown1, H⟩
theorem fmtF0_ (wb w0 : World) (B : Nat) (L0 : List (Nat × Obj)) (ht : Lib.TabBelow Tryz.prog B wb "internal/strconv.uint64pow10" .u64 Lib.pow10Tab) (hT : fz.PTab 3 B wb) (f : Nat) (hf : f < 18446744073709551616) (H : HH B wb w0 L0) : Calls Tryz.prog 36 #[.float .f64 f, .int .u8 102, .int .i64 (-1), .int .i64 64] w0 fun e w' => e = .returned (.string (strOfNums (fz.ftoa f))) ∧ HH B wb w' L0 := by
 refine c_enter (args := [.float .f64 f, .int .u8 102, .int .i64 (-1), .int .i64 64]) (k := 29) Tryz.func36 rfl rfl rfl (fun a S => ?_)
 refine wp_seq ?_
 refine c_region ?_
 refine l_mv 1 S rfl ?_; clear S a; intro a S
 refine l_nil ?_
 refine e_then ?_
 refine wp_seq ?_
 refine wp_seq ?_
 refine c_region ?_
 refine l_mv 1 S rfl ?_; clear S a; intro a S
 refine l_pure S (p_eql rfl rfl) rfl rfl rfl ?_; clear S a; intro a S
 refine l_nil ?_
 refine e_then ?_
 refine c_cond (b := false) S rfl (fun h => by cases h) (fun _ => ?_)
 refine wp_skip ?_
 refine e_then ?_
 refine wp_seq ?_
 refine wp_seq ?_
 refine c_region ?_
 refine l_mv 1 S rfl ?_; clear S a; intro a S
 refine l_pure S (p_eql rfl rfl) rfl rfl rfl ?_; clear S a; intro a S
 refine l_nil ?_
 refine e_then ?_
 refine c_cond (b := true) S rfl (fun _ => ?_) (fun h => by cases h)
 refine wp_seq ?_
 refine c_region ?_
 refine l_mv 1 S rfl ?_; clear S a; intro a S
 refine l_pure S (p_add (r := 3) rfl rfl (by decide)) rfl rfl rfl ?_; clear S a; intro a S
 refine l_pure S (fz.p_maxV (r := 24) rfl rfl (by decide)) rfl rfl rfl ?_; clear S a; intro a S
 refine l_make (l := 0) (c := 24) S H rfl rfl rfl Tryz.underlying34 in5 (by omega) (by omega) (by omega) rfl rfl rfl ?_; clear S a H; intro gm cm w a hcm H S
 refine l_mv 3 S rfl ?_; clear S a; intro a S
 refine l_call S rfl rfl Tryz.func41 rfl rfl (ftoa_ wb _ B L0 ht hT f hf (some ⟨gm, 0, none⟩) 24 [] [(gm, _)] (dc.own_new hcm) (by decide) H) rfl rfl rfl ?_
 rintro e w ⟨A1, c1, ow1, rfl, hown1, hH⟩
 refine ⟨_, rfl, ?_⟩; clear S a; intro a S
 clear H; have H := hH; clear hH
 rw [List.nil_append] at S hown1
 have hfl := fz.ftoa_len f
 refine l_read S H (r_str (l := fz.ftoa f) rfl Tryz.underlying34 Tryz.underlying5 Tryz.underlying9 (fun w H => Own.bytes hown1 H (by omega))) rfl rfl rfl ?_; clear S a; intro a S
 refine l_mv 1 S rfl ?_; clear S a; intro a S
 refine l_nil ?_
 refine e_then ?_
 refine wp_ret ?_
 refine e_then_ret ?_
 exact r_ret1 S rfl rfl ⟨rfl, H.sub (List.sublist_append_right _ _)⟩
theorem fmtFl_ (wb w0 : World) (B : Nat) (L0 : List (Nat × Obj)) (ht : Lib.TabBelow Tryz.prog B wb "internal/strconv.uint64pow10" .u64 Lib.pow10Tab) (hT : fz.PTab 3 B wb) (f : Nat) (hf : f < 18446744073709551616) (H : HH B wb w0 L0) : Calls Tryz.prog 32 #[.float .f64 f, .int .u8 102, .int .i64 (-1), .int .i64 64] w0 fun e w' => e = .returned (.string (strOfNums (fz.ftoa f))) ∧ HH B wb w' L0 := by
 refine c_enter (args := [.float .f64 f, .int .u8 102, .int .i64 (-1), .int .i64 64]) (k := 10) Tryz.func32 rfl rfl rfl (fun a S => ?_)
 refine wp_seq ?_
 refine c_region ?_
 refine l_mv 1 S rfl ?_; clear S a; intro a S
 refine l_nil ?_
 refine e_then ?_
 refine wp_seq ?_
 refine c_region ?_
 refine l_mv 4 S rfl ?_; clear S a; intro a S
 have hcon := fmtF0_ wb _ B L0 ht hT f hf H
 refine l_call S rfl rfl Tryz.func36 rfl rfl (hcon) rfl rfl rfl ?_
 rintro e w ⟨rfl, hH⟩
 refine ⟨_, rfl, ?_⟩; clear S a; intro a S
 clear H hcon; have H := hH; clear hH
 refine l_mv 1 S rfl ?_; clear S a; intro a S
 refine l_nil ?_
 refine e_then ?_
 refine wp_ret ?_
 exact r_ret1 S rfl rfl ⟨rfl, H⟩
end ft
end Go.Proofs.YtfbfmcjjohiikaaGreatDoor.fz
end
section
namespace Go.Proofs.YtfbfmcjjohiikaaGreatDoor.mw
open Go.Proofs.YtfbfmcjjohiikaaGreatDoor.fx
open Go.RowKit Go.Proofs.HHW Go.Proofs.YtfbfmcjjohiikaaGreatDoorW.PrintWords
namespace nm
theorem zv157 : zvB Tryz.prog 157 = some (.agg #[.int .u8 0, .int .u8 0, .int .u8 0, .int .u8 0, .int .u8 0, .int .u8 0, .int .u8 0, .int .u8 0, .int .u8 0, .int .u8 0, .int .u8 0, .int .u8 0, .int .u8 0, .int .u8 0, .int .u8 0, .int .u8 0, .int .u8 0, .int .u8 0, .int .u8 0, .int .u8 0, .int .u8 0, .int .u8 0, .int .u8 0, .int .u8 0]) := by kernel_rfl
theorem appU_ (wb w0 : World) (B : Nat) (L0 : dc.Bk) (ht : Lib.TabBelow Tryz.prog B wb "internal/strconv.uint64pow10" .u64 Lib.pow10Tab) (hT : fz.PTab 3 B wb) (A : Option Addr) (c u : Nat) (l : List Int) (ow : List (Nat × Obj)) (hown : OwnB 5 (.slice A l.length c) l ow) (H : HH B wb w0 (ow ++ L0)) (hu : u < 18446744073709551616) (hl : l.length ≤ 100000000000000) : Calls Tryz.prog 57 #[.slice A l.length c, .int .u64 (u : Int), .int .i64 10] w0 fun e w' => ∃ (A' : Option Addr) (c' : Nat) (ow' : List (Nat × Obj)), e = .returned (.slice A' (l ++ wq.dec u).length c') ∧ OwnB 5 (.slice A' (l ++ wq.dec u).length c') (l ++ wq.dec u) ow' ∧ HH B wb w' (ow' ++ L0) := by
 refine c_enter (args := [.slice A l.length c, .int .u64 (u : Int), .int .i64 10]) (k := 33) Tryz.func57 rfl rfl rfl (fun a S => ?_)
 refine wp_seq ?_
 refine c_region ?_
 refine l_mv 1 S rfl ?_; clear S a; intro a S
 refine l_nil ?_
 refine e_then ?_
 refine wp_seq ?_
 refine wp_seq ?_
 refine c_region ?_
 refine l_mv 1 S rfl ?_; clear S a; intro a S
 refine l_pure S (p_eql rfl rfl) rfl rfl rfl ?_; clear S a; intro a S
 refine l_nil ?_
 refine e_then ?_
 refine c_cond (b := true) S rfl (fun _ => ?_) (fun h => by cases h)
 refine wp_seq ?_
 refine wp_seq ?_
 refine c_region ?_
 refine l_mv 1 S rfl ?_; clear S a; intro a S
 refine l_pure S (p_lss rfl rfl) rfl rfl rfl ?_; clear S a; intro a S
 refine l_nil ?_
 refine e_then ?_
 refine c_cond S rfl (fun bc4 => ?_) (fun bc4 => ?_)
 ·
  have c4 := bc4
  have c4 := of_decide_eq_true c4
  refine wp_seq ?_
  refine c_region ?_
  refine l_mv 2 S rfl ?_; clear S a; intro a S
  refine l_pure S (p_conv rfl (fun w => cv_int Tryz.underlying107 Tryz.underlying3 (nat_toI (x := u) (by omega)))) rfl rfl rfl ?_; clear S a; intro a S
  refine l_call S rfl rfl Tryz.func78 rfl rfl (wr.li.small_ u (by omega) _) rfl rfl rfl ?_
  rintro e w' ⟨rfl, rfl⟩
  refine ⟨_, rfl, ?_⟩; clear S a; intro a S
  refine l_ownB [] (l := l) (r := ints (⟨(Lib.decDigits u).toArray⟩ : ByteArray)) S H rfl rfl rfl hown (wq.src_str Tryz.underlying9 _) Tryz.underlying34 in5 rfl (by rw [wq.ints_dec, wq.dec_len]; have := wq.nDigits_le (u := u) (k := 19) (by omega); omega) (by decide) rfl rfl rfl ?_; clear S a H; intro A1 c1 ow1 w a hown1 H S
  rw [wq.ints_dec] at hown1 S
  refine l_mv 1 S rfl ?_; clear S a; intro a S
  refine l_nil ?_
  refine e_then ?_
  refine wp_ret ?_
  refine e_then_ret ?_
  refine e_then_ret ?_
  exact r_ret1 S rfl rfl ⟨A1, c1, ow1, rfl, hown1, H⟩
 ·
  have c4 := bc4
  have c4 := of_decide_eq_false c4
  refine wp_skip ?_
  refine e_then ?_
  refine wp_seq ?_
  refine c_region ?_
  refine l_alloc (cs := #[.int .u8 0, .int .u8 0, .int .u8 0, .int .u8 0, .int .u8 0, .int .u8 0, .int .u8 0, .int .u8 0, .int .u8 0, .int .u8 0, .int .u8 0, .int .u8 0, .int .u8 0, .int .u8 0, .int .u8 0, .int .u8 0, .int .u8 0, .int .u8 0, .int .u8 0, .int .u8 0, .int .u8 0, .int .u8 0, .int .u8 0, .int .u8 0]) S H rfl (fun w => al zv157) rfl rfl rfl ?_; clear S a H; intro ga w a H S
  refine l_nil ?_
  refine e_then ?_
  refine wp_seq ?_
  refine c_region ?_
  refine l_mv 1 S rfl ?_; clear S a; intro a S
  refine l_call S rfl rfl Tryz.func50 rfl rfl (wr.li.nd_ u (by omega) hu _ (ht _ H.below)) rfl rfl rfl ?_
  rintro e w' ⟨rfl, rfl⟩
  refine ⟨_, rfl, ?_⟩; clear S a; intro a S
  have hnd : Lib.nDigits u ≤ 20 := wq.nDigits_le (k := 19) (by omega)
  have hnp := Lib.nDigits_pos u
  refine l_mv 1 S rfl ?_; clear S a; intro a S
  refine l_nil ?_
  refine e_then ?_
  refine wp_seq ?_
  refine c_region ?_
  refine l_mv 1 S rfl ?_; clear S a; intro a S
  refine l_pure S (p_slice rfl (fun _ _ => o_none) (o_some rfl) (fun _ _ => o_none) (fun w => sl_arr_hi Tryz.underlying157 sz5 (by omega) (by omega) (by omega))) rfl rfl rfl ?_; clear S a; intro a S
  rw [Int.toNat_natCast] at S
  refine l_mv 1 S rfl ?_; clear S a; intro a S
  have hcon := wr.li.fmt_ (u := u) (off := 0) (c := 24) (cs := #[.int .u8 0, .int .u8 0, .int .u8 0, .int .u8 0, .int .u8 0, .int .u8 0, .int .u8 0, .int .u8 0, .int .u8 0, .int .u8 0, .int .u8 0, .int .u8 0, .int .u8 0, .int .u8 0, .int .u8 0, .int .u8 0, .int .u8 0, .int .u8 0, .int .u8 0, .int .u8 0, .int .u8 0, .int .u8 0, .int .u8 0, .int .u8 0]) (t := 157) H (fun j hj => by rw [Nat.zero_add]; exact wq.zeros24 (by omega)) (by show 0 + Lib.nDigits u ≤ 24; omega) hu (by omega)
  refine l_call S rfl rfl Tryz.func68 rfl rfl (hcon) rfl rfl rfl ?_
  rintro e w ⟨rfl, hH⟩
  refine ⟨_, rfl, ?_⟩; clear S a; intro a S
  clear H hcon; have H := hH; clear hH
  refine l_nil ?_
  refine e_then ?_
  refine wp_seq ?_
  refine c_region ?_
  refine l_mv 2 S rfl ?_; clear S a; intro a S
  refine l_pure S (p_slice rfl (fun _ _ => o_none) (o_some rfl) (fun _ _ => o_none) (fun w => sl_arr_hi Tryz.underlying157 sz5 (by omega) (by omega) (by omega))) rfl rfl rfl ?_; clear S a; intro a S
  rw [Int.toNat_natCast] at S
  rw [← wq.dec_len] at S
  refine l_ownB [_] (l := l) (r := wq.dec u) S H rfl rfl rfl hown (src_rb (rp.row_rb H List.mem_cons_self (by have := bf.row0_spl (cs := #[.int .u8 0, .int .u8 0, .int .u8 0, .int .u8 0, .int .u8 0, .int .u8 0, .int .u8 0, .int .u8 0, .int .u8 0, .int .u8 0, .int .u8 0, .int .u8 0, .int .u8 0, .int .u8 0, .int .u8 0, .int .u8 0, .int .u8 0, .int .u8 0, .int .u8 0, .int .u8 0, .int .u8 0, .int .u8 0, .int .u8 0, .int .u8 0]) (vis := wq.dec u) (by rw [wq.dec_len]; show _ ≤ 24; omega); exact this)) Tryz.underlying34) Tryz.underlying34 in5 rfl (by rw [wq.dec_len]; omega) (by decide) rfl rfl rfl ?_; clear S a H; intro A1 c1 ow1 w a hown1 H S
  replace H := H.tail
  refine l_mv 1 S rfl ?_; clear S a; intro a S
  refine l_nil ?_
  refine e_then ?_
  refine wp_ret ?_
  refine e_then_ret ?_
  exact r_ret1 S rfl rfl ⟨A1, c1, ow1, rfl, hown1, H⟩
theorem appIp_ (wb w0 : World) (B : Nat) (L0 : dc.Bk) (ht : Lib.TabBelow Tryz.prog B wb "internal/strconv.uint64pow10" .u64 Lib.pow10Tab) (hT : fz.PTab 3 B wb) (A : Option Addr) (c u : Nat) (l : List Int) (ow : List (Nat × Obj)) (hown : OwnB 5 (.slice A l.length c) l ow) (H : HH B wb w0 (ow ++ L0)) (hu : u < 9223372036854775808) (hl : l.length ≤ 90000000000000) : Calls Tryz.prog 58 #[.slice A l.length c, .int .i64 (u : Int), .int .i64 10] w0 fun e w' => ∃ (A' : Option Addr) (c' : Nat) (ow' : List (Nat × Obj)), e = .returned (.slice A' (l ++ mw.sdec (u : Int)).length c') ∧ OwnB 5 (.slice A' (l ++ mw.sdec (u : Int)).length c') (l ++ mw.sdec (u : Int)) ow' ∧ HH B wb w' (ow' ++ L0) := by
 refine c_enter (args := [.slice A l.length c, .int .i64 (u : Int), .int .i64 10]) (k := 18) Tryz.func58 rfl rfl rfl (fun a S => ?_)
 refine wp_seq ?_
 refine c_region ?_
 refine l_mv 1 S rfl ?_; clear S a; intro a S
 refine l_nil ?_
 refine e_then ?_
 refine wp_seq ?_
 refine c_region ?_
 refine l_mv 1 S rfl ?_; clear S a; intro a S
 refine l_pure S (p_conv rfl (fun w => cv_int Tryz.underlying2 Tryz.underlying107 (r := (u : Int)) (by rw [IntKind.wrap_u64]; omega))) rfl rfl rfl ?_; clear S a; intro a S
 refine l_mv 1 S rfl ?_; clear S a; intro a S
 refine l_nil ?_
 refine e_then ?_
 refine wp_seq ?_
 refine wp_seq ?_
 refine c_region ?_
 refine l_mv 1 S rfl ?_; clear S a; intro a S
 refine l_pure S (p_lss rfl rfl) rfl rfl rfl ?_; clear S a; intro a S
 refine l_nil ?_
 refine e_then ?_
 refine c_cond S rfl (fun c2 => by have c2 := of_decide_eq_true c2; exfalso; omega) (fun c2 => ?_)
 have c2 := of_decide_eq_false c2
 refine wp_skip ?_
 refine e_then ?_
 refine wp_seq ?_
 refine c_region ?_
 refine l_mv 3 S rfl ?_; clear S a; intro a S
 have hln : l.length ≤ 100000000000000 := by (try simp only [List.length_append, List.length_cons, List.length_nil]); omega
 refine l_call S rfl rfl Tryz.func57 rfl rfl (appU_ wb _ B L0 ht hT A c u l ow hown H (by omega) hln) rfl rfl rfl ?_
 rintro e w ⟨A1, c1, ow1, rfl, hown1, hH⟩
 refine ⟨_, rfl, ?_⟩; clear S a; intro a S
 clear H; have H := hH; clear hH
 refine l_mv 1 S rfl ?_; clear S a; intro a S
 refine l_nil ?_
 refine e_then ?_
 refine wp_ret ?_
 rw [← mw.sdec_nat] at S hown1
 exact r_ret1 S rfl rfl ⟨A1, c1, ow1, rfl, hown1, H⟩
theorem appIn_ (wb w0 : World) (B : Nat) (L0 : dc.Bk) (ht : Lib.TabBelow Tryz.prog B wb "internal/strconv.uint64pow10" .u64 Lib.pow10Tab) (hT : fz.PTab 3 B wb) (A : Option Addr) (c u : Nat) (l : List Int) (ow : List (Nat × Obj)) (hown : OwnB 5 (.slice A l.length c) l ow) (H : HH B wb w0 (ow ++ L0)) (hu0 : 0 < u) (hu : u ≤ 9223372036854775808) (hl : l.length ≤ 90000000000000) : Calls Tryz.prog 58 #[.slice A l.length c, .int .i64 (-(u : Int)), .int .i64 10] w0 fun e w' => ∃ (A' : Option Addr) (c' : Nat) (ow' : List (Nat × Obj)), e = .returned (.slice A' (l ++ mw.sdec (-(u : Int))).length c') ∧ OwnB 5 (.slice A' (l ++ mw.sdec (-(u : Int))).length c') (l ++ mw.sdec (-(u : Int))) ow' ∧ HH B wb w' (ow' ++ L0) := by
 refine c_enter (args := [.slice A l.length c, .int .i64 (-(u : Int)), .int .i64 10]) (k := 18) Tryz.func58 rfl rfl rfl (fun a S => ?_)
 refine wp_seq ?_
 refine c_region ?_
 refine l_mv 1 S rfl ?_; clear S a; intro a S
 refine l_nil ?_
 refine e_then ?_
 refine wp_seq ?_
 refine c_region ?_
 refine l_mv 1 S rfl ?_; clear S a; intro a S
 refine l_pure S (p_conv rfl (fun w => cv_int Tryz.underlying2 Tryz.underlying107 (r := ((18446744073709551616 - u : Nat) : Int)) (by rw [IntKind.wrap_u64]; omega))) rfl rfl rfl ?_; clear S a; intro a S
 refine l_mv 1 S rfl ?_; clear S a; intro a S
 refine l_nil ?_
 refine e_then ?_
 refine wp_seq ?_
 refine wp_seq ?_
 refine c_region ?_
 refine l_mv 1 S rfl ?_; clear S a; intro a S
 refine l_pure S (p_lss rfl rfl) rfl rfl rfl ?_; clear S a; intro a S
 refine l_nil ?_
 refine e_then ?_
 refine c_cond S rfl (fun c2 => ?_) (fun c2 => by have c2 := of_decide_eq_false c2; exfalso; omega)
 have c2 := of_decide_eq_true c2
 refine wp_seq ?_
 refine c_region ?_
 refine l_mv 1 S rfl ?_; clear S a; intro a S
 refine l_lit [(.const (.int .u8 45))] S H rfl rfl Tryz.underlying34 sz5 zv5 rfl rfl (by simp [Value.cells]) rfl rfl rfl ?_; clear S a H; intro g3 w a H S
 refine l_ownB [_] (r := [45]) S H rfl rfl rfl hown (src_lit (vs := ([45]).map (Value.int .u8)) H List.mem_cons_self Tryz.underlying34 (by simp [Value.oneCell'])) Tryz.underlying34 in5 rfl (by simp only [List.length_cons, List.length_nil, List.length_append]; omega) (by decide) rfl rfl rfl ?_; clear S a H; intro Aow4 cow4 ow4 w a how4 H S; replace H := H.tail
 refine l_mv 1 S rfl ?_; clear S a; intro a S
 refine l_nil ?_
 refine e_then ?_
 refine c_region ?_
 refine l_mv 1 S rfl ?_; clear S a; intro a S
 refine l_pure S (p_un rfl (fun w => mw.negU (x := ((18446744073709551616 - u : Nat) : Int)) (r := (u : Int)) (by rw [IntKind.wrap_u64]; omega) w)) rfl rfl rfl ?_; clear S a; intro a S
 refine l_mv 1 S rfl ?_; clear S a; intro a S
 refine l_nil ?_
 refine e_then ?_
 refine wp_seq ?_
 refine c_region ?_
 refine l_mv 3 S rfl ?_; clear S a; intro a S
 have hln : (l ++ [45]).length ≤ 100000000000000 := by (try simp only [List.length_append, List.length_cons, List.length_nil]); omega
 refine l_call S rfl rfl Tryz.func57 rfl rfl (appU_ wb _ B L0 ht hT Aow4 cow4 u (l ++ [45]) ow4 how4 H (by omega) hln) rfl rfl rfl ?_
 rintro e w ⟨A1, c1, ow1, rfl, hown1, hH⟩
 refine ⟨_, rfl, ?_⟩; clear S a; intro a S
 clear H; have H := hH; clear hH
 refine l_mv 1 S rfl ?_; clear S a; intro a S
 refine l_nil ?_
 refine e_then ?_
 refine wp_ret ?_
 rw [List.append_assoc, show [45] ++ wq.dec u = mw.sdec (-(u : Int)) from (mw.sdec_neg hu0).symm] at S hown1
 exact r_ret1 S rfl rfl ⟨A1, c1, ow1, rfl, hown1, H⟩
theorem appI0_ (wb w0 : World) (B : Nat) (L0 : dc.Bk) (ht : Lib.TabBelow Tryz.prog B wb "internal/strconv.uint64pow10" .u64 Lib.pow10Tab) (hT : fz.PTab 3 B wb) (A : Option Addr) (c : Nat) (i : Int) (l : List Int) (ow : List (Nat × Obj)) (hown : OwnB 5 (.slice A l.length c) l ow) (H : HH B wb w0 (ow ++ L0)) (hi : -9223372036854775808 ≤ i ∧ i ≤ 9223372036854775807) (hl : l.length ≤ 90000000000000) : Calls Tryz.prog 58 #[.slice A l.length c, .int .i64 i, .int .i64 10] w0 fun e w' => ∃ (A' : Option Addr) (c' : Nat) (ow' : List (Nat × Obj)), e = .returned (.slice A' (l ++ mw.sdec i).length c') ∧ OwnB 5 (.slice A' (l ++ mw.sdec i).length c') (l ++ mw.sdec i) ow' ∧ HH B wb w' (ow' ++ L0) := by
 by_cases h : i < 0
 ·
  obtain ⟨u, rfl⟩ : ∃ u : Nat, i = -(u : Int) := ⟨(-i).toNat, by omega⟩
  exact appIn_ wb w0 B L0 ht hT A c u l ow hown H (by omega) (by omega) hl
 ·
  obtain ⟨u, rfl⟩ : ∃ u : Nat, i = (u : Int) := ⟨i.toNat, by omega⟩
  exact appIp_ wb w0 B L0 ht hT A c u l ow hown H (by omega) hl
theorem appI_ (wb w0 : World) (B : Nat) (L0 : dc.Bk) (ht : Lib.TabBelow Tryz.prog B wb "internal/strconv.uint64pow10" .u64 Lib.pow10Tab) (hT : fz.PTab 3 B wb) (A : Option Addr) (c : Nat) (i : Int) (l : List Int) (ow : List (Nat × Obj)) (hown : OwnB 5 (.slice A l.length c) l ow) (H : HH B wb w0 (ow ++ L0)) (hi : -9223372036854775808 ≤ i ∧ i ≤ 9223372036854775807) (hl : l.length ≤ 90000000000000) : Calls Tryz.prog 106 #[.slice A l.length c, .int .i64 i, .int .i64 10] w0 fun e w' => ∃ (A' : Option Addr) (c' : Nat) (ow' : List (Nat × Obj)), e = .returned (.slice A' (l ++ mw.sdec i).length c') ∧ OwnB 5 (.slice A' (l ++ mw.sdec i).length c') (l ++ mw.sdec i) ow' ∧ HH B wb w' (ow' ++ L0) := by
 refine c_enter (args := [.slice A l.length c, .int .i64 i, .int .i64 10]) (k := 8) Tryz.func106 rfl rfl rfl (fun a S => ?_)
 refine wp_seq ?_
 refine c_region ?_
 refine l_mv 1 S rfl ?_; clear S a; intro a S
 refine l_nil ?_
 refine e_then ?_
 refine wp_seq ?_
 refine c_region ?_
 refine l_mv 3 S rfl ?_; clear S a; intro a S
 refine l_call S rfl rfl Tryz.func58 rfl rfl (appI0_ wb _ B L0 ht hT A c i l ow hown H hi hl) rfl rfl rfl ?_
 rintro e w ⟨A1, c1, ow1, rfl, hown1, hH⟩
 refine ⟨_, rfl, ?_⟩; clear S a; intro a S
 clear H; have H := hH; clear hH
 refine l_mv 1 S rfl ?_; clear S a; intro a S
 refine l_nil ?_
 refine e_then ?_
 refine wp_ret ?_
 exact r_ret1 S rfl rfl ⟨A1, c1, ow1, rfl, hown1, H⟩
theorem isInf1_ (wb w0 : World) (B : Nat) (L0 : dc.Bk) (f : Nat) (H : HH B wb w0 L0) : Calls Tryz.prog 31 #[.float .f64 f, .int .i64 1] w0 fun e w' => e = .returned (.bool (mw.isInf1 f)) ∧ HH B wb w' L0 := by
 refine c_enter (args := [.float .f64 f, .int .i64 1]) (k := 13) Tryz.func31 rfl rfl rfl (fun a S => ?_)
 refine wp_seq ?_
 refine c_region ?_
 refine l_mv 1 S rfl ?_; clear S a; intro a S
 refine l_nil ?_
 refine e_then ?_
 refine wp_seq ?_
 refine wp_seq ?_
 refine c_region ?_
 refine l_mv 1 S rfl ?_; clear S a; intro a S
 refine l_pure S (p_eql rfl rfl) rfl rfl rfl ?_; clear S a; intro a S
 refine l_nil ?_
 refine e_then ?_
 refine c_cond (b := false) S rfl (fun h => by cases h) (fun _ => ?_)
 refine wp_seq ?_
 refine c_region ?_
 refine l_mv 1 S rfl ?_; clear S a; intro a S
 refine l_pure S (p_lss rfl rfl) rfl rfl rfl ?_; clear S a; intro a S
 refine l_nil ?_
 refine e_then ?_
 refine c_cond (b := false) S rfl (fun h => by cases h) (fun _ => ?_)
 refine wp_skip ?_
 refine e_then ?_
 refine wp_seq ?_
 refine c_region ?_
 refine l_mv 1 S rfl ?_; clear S a; intro a S
 refine l_pure S (p_fgtr rfl rfl) rfl rfl rfl ?_; clear S a; intro a S
 refine l_mv 1 S rfl ?_; clear S a; intro a S
 refine l_nil ?_
 refine e_then ?_
 refine wp_ret ?_
 exact r_ret1 S rfl rfl ⟨rfl, H⟩
theorem isInfM_ (wb w0 : World) (B : Nat) (L0 : dc.Bk) (f : Nat) (H : HH B wb w0 L0) : Calls Tryz.prog 31 #[.float .f64 f, .int .i64 (-1)] w0 fun e w' => e = .returned (.bool (mw.isInfM f)) ∧ HH B wb w' L0 := by
 refine c_enter (args := [.float .f64 f, .int .i64 (-1)]) (k := 13) Tryz.func31 rfl rfl rfl (fun a S => ?_)
 refine wp_seq ?_
 refine c_region ?_
 refine l_mv 1 S rfl ?_; clear S a; intro a S
 refine l_nil ?_
 refine e_then ?_
 refine wp_seq ?_
 refine wp_seq ?_
 refine c_region ?_
 refine l_mv 1 S rfl ?_; clear S a; intro a S
 refine l_pure S (p_eql rfl rfl) rfl rfl rfl ?_; clear S a; intro a S
 refine l_nil ?_
 refine e_then ?_
 refine c_cond (b := false) S rfl (fun h => by cases h) (fun _ => ?_)
 refine wp_seq ?_
 refine c_region ?_
 refine l_mv 1 S rfl ?_; clear S a; intro a S
 refine l_pure S (p_lss rfl rfl) rfl rfl rfl ?_; clear S a; intro a S
 refine l_nil ?_
 refine e_then ?_
 refine c_cond (b := true) S rfl (fun _ => ?_) (fun h => by cases h)
 refine c_region ?_
 refine l_mv 1 S rfl ?_; clear S a; intro a S
 refine l_pure S (p_un (v := .float .f64 (mw.negF f)) rfl (fun w => rfl)) rfl rfl rfl ?_; clear S a; intro a S
 refine l_mv 1 S rfl ?_; clear S a; intro a S
 refine l_nil ?_
 refine e_then ?_
 refine wp_seq ?_
 refine c_region ?_
 refine l_mv 1 S rfl ?_; clear S a; intro a S
 refine l_pure S (p_fgtr rfl rfl) rfl rfl rfl ?_; clear S a; intro a S
 refine l_mv 1 S rfl ?_; clear S a; intro a S
 refine l_nil ?_
 refine e_then ?_
 refine wp_ret ?_
 exact r_ret1 S rfl rfl ⟨rfl, H⟩
theorem litB (e g : Nat) (v : Int) : OwnB e (.slice (some ⟨g, 0, none⟩) 1 1) [v] [(g, .cells #[.int .u8 v] e (0, 0))] := ⟨rfl, .inr ⟨g, _, 1, (0, 0), rfl, Nat.le_refl _, rfl, rfl, thaw0 _, fun j hj => by simp⟩⟩
theorem dig_ (wb w0 : World) (B : Nat) (L0 : dc.Bk) (u : Nat) (hu : u < 18446744073709551616) (H : HH B wb w0 L0) : Calls Tryz.prog 30 #[.int .u64 (u : Int)] w0 fun e w' => e = .returned (.string (strOfNums (wq.dec u))) ∧ HH B wb w' L0 := by
 refine c_enter (args := [.int .u64 (u : Int)]) (k := 23) Tryz.func30 rfl rfl rfl (fun a S => ?_)
 refine wp_seq ?_
 refine c_region ?_
 refine l_mv 1 S rfl ?_; clear S a; intro a S
 refine l_nil ?_
 refine e_then ?_
 refine wp_seq ?_
 refine c_region ?_
 refine l_mv 1 S rfl ?_; clear S a; intro a S
 refine l_pure S (p_rem rfl rfl (by omega) (nat_rem u 10)) rfl rfl rfl ?_; clear S a; intro a S
 refine l_pure S (p_add rfl rfl (nat_addU (x := 48) (y := (u % 10)) (by omega))) rfl rfl rfl ?_; clear S a; intro a S
 refine l_pure S (p_conv rfl (fun w => cv_int Tryz.underlying107 Tryz.underlying5 (r := ((48 + u % 10 : Nat) : Int)) (by rw [IntKind.wrap_u8]; omega))) rfl rfl rfl ?_; clear S a; intro a S
 refine l_lit [(.tmp 7)] S H rfl rfl Tryz.underlying34 sz5 zv5 rfl rfl (by simp [Value.cells]) rfl rfl rfl ?_; clear S a H; intro g1 w a H S
 refine l_mv 1 S rfl ?_; clear S a; intro a S
 refine l_nil ?_
 refine e_then ?_
 refine wp_seq ?_
 refine wp_seq ?_
 refine c_region ?_
 refine l_mv 1 S rfl ?_; clear S a; intro a S
 refine l_pure S (p_quo rfl rfl (by decide) (mw.nat_quoU (x := u) (y := 10) (by omega))) rfl rfl rfl ?_; clear S a; intro a S
 refine l_mv 1 S rfl ?_; clear S a; intro a S
 refine l_nil ?_
 refine e_then ?_
 refine wp_block ?_
 refine c_loop (σ := Nat × List Int × Option Addr × Nat × List (Nat × Obj)) (fun s_ a w => match s_ with | ⟨m, X, A, c, ow⟩ => SL a 24 [] [(0, .int .u64 (m : Int)), (3, .slice A X.length c)] ∧ HH (B) wb w (ow ++ L0) ∧ (m < 18446744073709551616 ∧ wq.dec u = px.dz m ++ X ∧ 0 < X.length ∧ OwnB 5 (.slice A X.length c) X ow)) (fun s_ => match s_ with | ⟨m, X, A, c, ow⟩ => m) ⟨u / 10, [((48 + u % 10 : Nat) : Int)], some ⟨g1, 0, none⟩, 1, [(g1, .cells #[.int .u8 ((48 + u % 10 : Nat) : Int)] 5 (0, 0))]⟩ ⟨S.only ⟨rfl, rfl, trivial⟩, H, ⟨by omega, px.dz_step u, by simp, litB _ _ _⟩⟩ ?_
 clear S a H; rintro ⟨m, X, A, c, ow⟩ a w ⟨S, H, hinv⟩
 obtain ⟨hm, hdec, hX0, hown⟩ := hinv
 have hXl : X.length ≤ 20 := by have h1 := mw.dec_le20 hu; rw [hdec, List.length_append] at h1; omega
 refine wp_seq ?_
 refine wp_seq ?_
 refine c_region ?_
 refine l_mv 1 S rfl ?_; clear S a; intro a S
 refine l_pure S (p_gtr rfl rfl) rfl rfl rfl ?_; clear S a; intro a S
 refine l_nil ?_
 refine e_then ?_
 refine c_cond S rfl (fun bc3 => ?_) (fun bc3 => ?_)
 ·
  have c3 := bc3
  have c3 := of_decide_eq_true c3
  refine wp_skip ?_
  refine e_then ?_
  refine wp_seq ?_
  refine wp_block ?_
  refine c_region ?_
  refine l_mv 1 S rfl ?_; clear S a; intro a S
  refine l_pure S (p_rem rfl rfl (by omega) (nat_rem m 10)) rfl rfl rfl ?_; clear S a; intro a S
  refine l_pure S (p_add rfl rfl (nat_addU (x := 48) (y := (m % 10)) (by omega))) rfl rfl rfl ?_; clear S a; intro a S
  refine l_pure S (p_conv rfl (fun w => cv_int Tryz.underlying107 Tryz.underlying5 (r := ((48 + m % 10 : Nat) : Int)) (by rw [IntKind.wrap_u8]; omega))) rfl rfl rfl ?_; clear S a; intro a S
  refine l_lit [(.tmp 18)] S H rfl rfl Tryz.underlying34 sz5 zv5 rfl rfl (by simp [Value.cells]) rfl rfl rfl ?_; clear S a H; intro g4 w a H S
  refine l_mv 1 S rfl ?_; clear S a; intro a S
  obtain ⟨gr, cr, fr, rfl, rfl, hlc, hcr, hth, hrow⟩ := rp.own_open hown hX0
  replace H : HH B wb _ ((g4, .cells #[.int .u8 ((48 + m % 10 : Nat) : Int)] 5 (0, 0)) :: (gr, .cells cr 5 fr) :: L0) := H
  refine l_ownB [] (l := [((48 + m % 10 : Nat) : Int)]) (r := X) (ow := [(g4, .cells #[.int .u8 ((48 + m % 10 : Nat) : Int)] 5 (0, 0))]) (L := (gr, .cells cr 5 fr) :: L0) S H rfl rfl rfl (litB _ _ _) (src_rb (rp.row_rb H (List.mem_cons_of_mem _ List.mem_cons_self) hrow) Tryz.underlying34) Tryz.underlying34 in5 rfl (by simp only [List.length_cons, List.length_nil]; omega) (by decide) rfl rfl rfl ?_; clear S a H; intro A' c' ow' w a hown' H S
  replace H : HH B wb w (ow' ++ ((gr, .cells cr 5 fr) :: L0)) := H
  replace H : HH B wb w (ow' ++ L0) := H.sub (List.Sublist.append (.refl _) (.cons _ (.refl _)))
  refine l_mv 1 S rfl ?_; clear S a; intro a S
  refine l_nil ?_
  refine e_in 1 ?_
  refine e_then ?_
  refine c_region ?_
  refine l_mv 1 S rfl ?_; clear S a; intro a S
  refine l_pure S (p_quo rfl rfl (by decide) (mw.nat_quoU (x := m) (y := 10) (by omega))) rfl rfl rfl ?_; clear S a; intro a S
  refine l_mv 1 S rfl ?_; clear S a; intro a S
  refine l_nil ?_
  refine e_then ?_
  exact ⟨⟨m / 10, [((48 + m % 10 : Nat) : Int)] ++ X, A', c', ow'⟩, ⟨S.only ⟨rfl, rfl, trivial⟩, H, ⟨by omega, by rw [hdec, px.dz_pos (show m ≠ 0 by omega), List.append_assoc], by simp, hown'⟩⟩, by show m / 10 < m; omega⟩
 ·
  have c3 := bc3
  have c3 := of_decide_eq_false c3
  refine wp_exit ?_
  refine e_then_exit ?_
  refine e_then_exit ?_
  refine e_in_exit ?_
  refine e_then ?_
  refine wp_seq ?_
  refine c_region ?_
  refine l_mv 1 S rfl ?_; clear S a; intro a S
  obtain rfl : m = 0 := by omega
  rw [show px.dz 0 = [] from rfl, List.nil_append] at hdec
  subst hdec
  refine l_read S H (r_str (l := wq.dec u) rfl Tryz.underlying34 Tryz.underlying5 Tryz.underlying9 (fun w H => Own.bytes hown H (by omega))) rfl rfl rfl ?_; clear S a; intro a S
  refine l_mv 1 S rfl ?_; clear S a; intro a S
  refine l_nil ?_
  refine e_then ?_
  refine wp_ret ?_
  exact r_ret1 S rfl rfl ⟨rfl, H.bring⟩
theorem sgdp_ (wb w0 : World) (B : Nat) (L0 : dc.Bk) (u : Nat) (hu : u < 9223372036854775808) (H : HH B wb w0 L0) : Calls Tryz.prog 18 #[.int .i64 (u : Int)] w0 fun e w' => e = .returned (.string (strOfNums (mw.sdec (u : Int)))) ∧ HH B wb w' L0 := by
 refine c_enter (args := [.int .i64 (u : Int)]) (k := 12) Tryz.func18 rfl rfl rfl (fun a S => ?_)
 refine wp_seq ?_
 refine c_region ?_
 refine l_mv 1 S rfl ?_; clear S a; intro a S
 refine l_nil ?_
 refine e_then ?_
 refine wp_seq ?_
 refine wp_seq ?_
 refine c_region ?_
 refine l_mv 1 S rfl ?_; clear S a; intro a S
 refine l_pure S (p_lss rfl rfl) rfl rfl rfl ?_; clear S a; intro a S
 refine l_nil ?_
 refine e_then ?_
 refine c_cond S rfl (fun c2 => by have c2 := of_decide_eq_true c2; exfalso; omega) (fun c2 => ?_)
 have c2 := of_decide_eq_false c2
 refine wp_skip ?_
 refine e_then ?_
 refine wp_seq ?_
 refine c_region ?_
 refine l_mv 1 S rfl ?_; clear S a; intro a S
 refine l_pure S (p_conv rfl (fun w => cv_int Tryz.underlying2 Tryz.underlying107 (r := (u : Int)) (by rw [IntKind.wrap_u64]; omega))) rfl rfl rfl ?_; clear S a; intro a S
 have hcon := dig_ wb _ B _ u (by omega) H
 refine l_call S rfl rfl Tryz.func30 rfl rfl (hcon) rfl rfl rfl ?_
 rintro e w ⟨rfl, hH⟩
 refine ⟨_, rfl, ?_⟩; clear S a; intro a S
 clear H hcon; have H := hH; clear hH
 refine l_mv 1 S rfl ?_; clear S a; intro a S
 refine l_nil ?_
 refine e_then ?_
 refine wp_ret ?_
 exact r_ret1 S rfl rfl ⟨by rw [mw.sdec_nat], H⟩
theorem sgdn_ (wb w0 : World) (B : Nat) (L0 : dc.Bk) (u : Nat) (hu0 : 0 < u) (hu : u ≤ 9223372036854775808) (H : HH B wb w0 L0) : Calls Tryz.prog 18 #[.int .i64 (-(u : Int))] w0 fun e w' => e = .returned (.string (strOfNums (mw.sdec (-(u : Int))))) ∧ HH B wb w' L0 := by
 refine c_enter (args := [.int .i64 (-(u : Int))]) (k := 12) Tryz.func18 rfl rfl rfl (fun a S => ?_)
 refine wp_seq ?_
 refine c_region ?_
 refine l_mv 1 S rfl ?_; clear S a; intro a S
 refine l_nil ?_
 refine e_then ?_
 refine wp_seq ?_
 refine wp_seq ?_
 refine c_region ?_
 refine l_mv 1 S rfl ?_; clear S a; intro a S
 refine l_pure S (p_lss rfl rfl) rfl rfl rfl ?_; clear S a; intro a S
 refine l_nil ?_
 refine e_then ?_
 refine c_cond S rfl (fun c2 => ?_) (fun c2 => by have c2 := of_decide_eq_false c2; exfalso; omega)
 have c2 := of_decide_eq_true c2
 refine wp_seq ?_
 refine c_region ?_
 refine l_mv 1 S rfl ?_; clear S a; intro a S
 refine l_pure S (p_conv rfl (fun w => cv_int Tryz.underlying2 Tryz.underlying107 (r := ((18446744073709551616 - u : Nat) : Int)) (by rw [IntKind.wrap_u64]; omega))) rfl rfl rfl ?_; clear S a; intro a S
 refine l_pure S (p_un rfl (fun w => mw.negU (x := ((18446744073709551616 - u : Nat) : Int)) (r := (u : Int)) (by rw [IntKind.wrap_u64]; omega) w)) rfl rfl rfl ?_; clear S a; intro a S
 have hcon := dig_ wb _ B _ u (by omega) H
 refine l_call S rfl rfl Tryz.func30 rfl rfl (hcon) rfl rfl rfl ?_
 rintro e w ⟨rfl, hH⟩
 refine ⟨_, rfl, ?_⟩; clear S a; intro a S
 clear H hcon; have H := hH; clear hH
 refine l_pure S (p_sadd rfl rfl (by have h1 := mw.dec_le20 (u := u) (by omega); rw [ByteArray.size_append, strOfNums_size]; show 1 + _ ≤ _; omega)) rfl rfl rfl ?_; clear S a; intro a S
 rw [show (⟨#[45]⟩ : ByteArray) = strOfNums [45] from rfl, ← px.sapp, show [45] ++ wq.dec u = mw.sdec (-(u : Int)) from (mw.sdec_neg hu0).symm] at S
 refine l_mv 1 S rfl ?_; clear S a; intro a S
 refine l_nil ?_
 refine e_then ?_
 refine wp_ret ?_
 refine e_then_ret ?_
 exact r_ret1 S rfl rfl ⟨rfl, H⟩
theorem sgd_ (wb w0 : World) (B : Nat) (L0 : dc.Bk) (i : Int) (hi : -9223372036854775808 ≤ i ∧ i ≤ 9223372036854775807) (H : HH B wb w0 L0) : Calls Tryz.prog 18 #[.int .i64 i] w0 fun e w' => e = .returned (.string (strOfNums (mw.sdec i))) ∧ HH B wb w' L0 := by
 by_cases h : i < 0
 ·
  obtain ⟨u, rfl⟩ : ∃ u : Nat, i = -(u : Int) := ⟨(-i).toNat, by omega⟩
  exact sgdn_ wb w0 B L0 u (by omega) (by omega) H
 ·
  obtain ⟨u, rfl⟩ : ∃ u : Nat, i = (u : Int) := ⟨i.toNat, by omega⟩
  exact sgdp_ wb w0 B L0 u (by omega) H
theorem dtx_ (wb w0 : World) (B : Nat) (L0 : dc.Bk) (ht : Lib.TabBelow Tryz.prog B wb "internal/strconv.uint64pow10" .u64 Lib.pow10Tab) (hT : fz.PTab 3 B wb) (f : Nat) (hf : f < 18446744073709551616) (H : HH B wb w0 L0) : Calls Tryz.prog 19 #[.float .f64 f] w0 fun e w' => e = .returned (.string (strOfNums (mw.dtext f))) ∧ HH B wb w' L0 := by
 refine c_enter (args := [.float .f64 f]) (k := 10) Tryz.func19 rfl rfl rfl (fun a S => ?_)
 refine wp_seq ?_
 refine c_region ?_
 refine l_mv 1 S rfl ?_; clear S a; intro a S
 refine l_nil ?_
 refine e_then ?_
 refine wp_seq ?_
 refine wp_block ?_
 refine wp_seq ?_
 refine c_region ?_
 refine l_mv 1 S rfl ?_; clear S a; intro a S
 have hcon := isInf1_ wb _ B _ f H
 refine l_call S rfl rfl Tryz.func31 rfl rfl (hcon) rfl rfl rfl ?_
 rintro e w ⟨rfl, hH⟩
 refine ⟨_, rfl, ?_⟩; clear S a; intro a S
 clear H hcon; have H := hH; clear hH
 refine l_mv 1 S rfl ?_; clear S a; intro a S
 refine l_nil ?_
 refine e_then ?_
 refine c_cond S rfl (fun bc2 => ?_) (fun bc2 => ?_)
 ·
  have c2 := bc2
  refine wp_seq ?_
  refine c_region ?_
  refine l_mv 1 S rfl ?_; clear S a; intro a S
  refine l_nil ?_
  refine e_then ?_
  refine wp_ret ?_
  refine e_in_ret ?_
  refine e_then_ret ?_
  exact r_ret1 S rfl rfl ⟨by unfold mw.dtext; rw [bc2]; rfl, H⟩
 ·
  have c2 := bc2
  refine wp_seq ?_
  refine c_region ?_
  refine l_mv 1 S rfl ?_; clear S a; intro a S
  have hcon := isInfM_ wb _ B _ f H
  refine l_call S rfl rfl Tryz.func31 rfl rfl (hcon) rfl rfl rfl ?_
  rintro e w ⟨rfl, hH⟩
  refine ⟨_, rfl, ?_⟩; clear S a; intro a S
  clear H hcon; have H := hH; clear hH
  refine l_mv 1 S rfl ?_; clear S a; intro a S
  refine l_nil ?_
  refine e_then ?_
  refine c_cond S rfl (fun bc4 => ?_) (fun bc4 => ?_)
  ·
   have c4 := bc4
   refine wp_seq ?_
   refine c_region ?_
   refine l_mv 1 S rfl ?_; clear S a; intro a S
   refine l_nil ?_
   refine e_then ?_
   refine wp_ret ?_
   refine e_in_ret ?_
   refine e_then_ret ?_
   exact r_ret1 S rfl rfl ⟨by unfold mw.dtext; rw [bc2, bc4]; rfl, H⟩
  ·
   have c4 := bc4
   refine wp_skip ?_
   refine e_in 0 ?_
   refine e_then ?_
   refine wp_seq ?_
   refine c_region ?_
   refine l_mv 1 S rfl ?_; clear S a; intro a S
   have hcon := fz.ft.fmtFl_ wb _ B _ ht hT f hf H
   refine l_call S rfl rfl Tryz.func32 rfl rfl (hcon) rfl rfl rfl ?_
   rintro e w ⟨rfl, hH⟩
   refine ⟨_, rfl, ?_⟩; clear S a; intro a S
   clear H hcon; have H := hH; clear hH
   refine l_mv 1 S rfl ?_; clear S a; intro a S
   refine l_nil ?_
   refine e_then ?_
   refine wp_ret ?_
   exact r_ret1 S rfl rfl ⟨by unfold mw.dtext; rw [bc2, bc4]; rfl, H⟩
set_option maxRecDepth 20000 in
theorem blob_ (wb w0 : World) (B : Nat) (L0 : dc.Bk) (k : Int) (s : ByteArray) (hs : s.size ≤ 1000000) (H : HH B wb w0 L0) : Calls Tryz.prog 17 #[.int .u8 k, .string s] w0 fun e w' => e = .returned (.string (strOfNums (px.blob k s))) ∧ HH B wb w' L0 := by
 refine c_enter (args := [.int .u8 k, .string s]) (k := 15) Tryz.func17 rfl rfl rfl (fun a S => ?_)
 refine wp_seq ?_
 refine c_region ?_
 refine l_mv 1 S rfl ?_; clear S a; intro a S
 refine l_nil ?_
 refine e_then ?_
 refine wp_seq ?_
 refine d_start (id := 1) [] 13 #[false, false, false, false, false, false, false, false, false, false, false, false, false] H rfl rfl rfl (fun w H => ?_)
 refine d_mv [0, 3, 9] #[true, false, false, true, false, false, false, false, false, true, false, false, false] S rfl (by kernel_rfl) (fun _ _ _ _ _ h => h) ?_; clear S a; intro a S
 refine d_pure (i := 4) #[true, false, false, true, true, false, false, false, false, true, false, false, false] S rfl (p_lens Tryz.underlying9 rfl) (wanted_none rfl) rfl rfl (by kernel_rfl) (fun _ _ _ h => h) ?_; clear S a; intro a S
 refine d_pure (i := 5) #[true, false, false, true, true, true, false, false, false, true, false, false, false] S rfl (p_conv rfl (fun w => cv_int (Tryz.underlying3) (Tryz.underlying107) (nat_toU (x := s.size) (by omega)))) (wanted_none rfl) rfl rfl (by kernel_rfl) (fun _ _ _ h => h) ?_; clear S a; intro a S
 refine Go.Proofs.YtfbfmcjjohiikaaGreatDoorW.PrintLast.two_ (i := 1) (j := 6) #[true, true, false, true, true, true, false, false, false, true, false, false, false] #[true, false, false, true, true, true, true, false, false, true, false, false, false] rfl rfl rfl rfl (by kernel_rfl) (by simp) (by simp) (fun K hK => ?_) (fun K hK => ?_)
 ·
  refine e_lit (i := 1) [(.tmp 5)] hK rfl S (.refl _) H rfl rfl Tryz.underlying34 sz5 zv5 rfl rfl (by simp [Value.cells]) (wanted_none rfl) rfl rfl ?_; clear S a H; intro g1 w a H S
  refine Go.Proofs.YtfbfmcjjohiikaaGreatDoorW.PrintLast.two_ (i := 2) (j := 6) #[true, true, true, true, true, true, false, false, false, true, false, false, false] #[true, true, false, true, true, true, true, false, false, true, false, false, false] rfl rfl rfl rfl (by kernel_rfl) (by simp) (by simp) (fun K hK => ?_) (fun K hK => ?_)
  ·
   refine e_read (i := 2) hK rfl S (.cons _ (.refl _)) H (r_str (l := [k]) rfl Tryz.underlying34 Tryz.underlying5 Tryz.underlying9 (fun w H => RB.C (RB.of H List.mem_cons_self (fun i v hi => by rcases i with _ | i <;> simp_all)) (show 1 ≤ 9223372036854775807 by decide))) (wanted_none rfl) rfl rfl ?_; clear S a; intro a S
   have hcon := dig_ wb _ B _ s.size (by omega) H
   refine d_call (i := 6) #[true, true, true, true, true, true, true, false, false, true, false, false, false] S rfl rfl rfl Tryz.func30 rfl rfl hcon (wanted_none rfl) rfl rfl (by kernel_rfl) rfl ?_
   rintro e w ⟨rfl, hH⟩
   refine ⟨_, rfl, hH.sub (.cons _ (.refl _)), ?_⟩; clear S a; intro a S; clear H hcon; have H := hH; clear hH
   refine d_pure (i := 7) #[true, true, true, true, true, true, true, true, false, true, false, false, false] S rfl (p_sadd rfl rfl (by have := px.dec_le hs; have h1 : (strOfNums [k]).size = 1 := strOfNums_size _; have h2 : (strOfNums (wq.dec s.size)).size = (wq.dec s.size).length := strOfNums_size _; have h3 : (⟨#[13, 10]⟩ : ByteArray).size = 2 := rfl; simp only [ByteArray.size_append]; omega)) (wanted_none rfl) rfl rfl (by kernel_rfl) (fun _ _ _ h => h) ?_; clear S a; intro a S
   refine d_pure (i := 8) #[true, true, true, true, true, true, true, true, true, true, false, false, false] S rfl (p_sadd rfl rfl (by have := px.dec_le hs; have h1 : (strOfNums [k]).size = 1 := strOfNums_size _; have h2 : (strOfNums (wq.dec s.size)).size = (wq.dec s.size).length := strOfNums_size _; have h3 : (⟨#[13, 10]⟩ : ByteArray).size = 2 := rfl; simp only [ByteArray.size_append]; omega)) (wanted_none rfl) rfl rfl (by kernel_rfl) (fun _ _ _ h => h) ?_; clear S a; intro a S
   refine d_pure (i := 10) #[true, true, true, true, true, true, true, true, true, true, true, false, false] S rfl (p_sadd rfl rfl (by have := px.dec_le hs; have h1 : (strOfNums [k]).size = 1 := strOfNums_size _; have h2 : (strOfNums (wq.dec s.size)).size = (wq.dec s.size).length := strOfNums_size _; have h3 : (⟨#[13, 10]⟩ : ByteArray).size = 2 := rfl; simp only [ByteArray.size_append]; omega)) (wanted_none rfl) rfl rfl (by kernel_rfl) (fun _ _ _ h => h) ?_; clear S a; intro a S
   refine d_pure (i := 11) #[true, true, true, true, true, true, true, true, true, true, true, true, false] S rfl (p_sadd rfl rfl (by have := px.dec_le hs; have h1 : (strOfNums [k]).size = 1 := strOfNums_size _; have h2 : (strOfNums (wq.dec s.size)).size = (wq.dec s.size).length := strOfNums_size _; have h3 : (⟨#[13, 10]⟩ : ByteArray).size = 2 := rfl; simp only [ByteArray.size_append]; omega)) (wanted_none rfl) rfl rfl (by kernel_rfl) (fun _ _ _ h => h) ?_; clear S a; intro a S
   refine d_mv [12] #[true, true, true, true, true, true, true, true, true, true, true, true, true] S rfl (by kernel_rfl) (fun _ _ _ _ _ h => h) ?_; clear S a; intro a S
   refine d_done (by kernel_rfl) ?_
   refine e_then ?_
   refine wp_ret ?_
   exact r_ret1 S rfl rfl ⟨by rw [px.blob_str], H.tail⟩
  ·
   have hcon := dig_ wb _ B ((g1, .cells #[.int .u8 k] 5 (0, 0)) :: L0) s.size (by omega) H
   refine e_call (i := 6) hK rfl S rfl rfl Tryz.func30 rfl rfl hcon (wanted_none rfl) rfl rfl ?_
   rintro e w ⟨rfl, hH⟩
   refine ⟨_, rfl, hH.sub (.cons _ (.refl _)), ?_⟩; clear S a; intro a S; clear H hcon; have H := hH; clear hH
   refine Go.Proofs.YtfbfmcjjohiikaaGreatDoorW.PrintLast.one_ (i := 2) #[true, true, true, true, true, true, true, false, false, true, false, false, false] rfl rfl (by kernel_rfl) (by simp) (fun K hK => ?_)
   refine e_read (i := 2) hK rfl S (.cons _ (.refl _)) H (r_str (l := [k]) rfl Tryz.underlying34 Tryz.underlying5 Tryz.underlying9 (fun w H => RB.C (RB.of H List.mem_cons_self (fun i v hi => by rcases i with _ | i <;> simp_all)) (show 1 ≤ 9223372036854775807 by decide))) (wanted_none rfl) rfl rfl ?_; clear S a; intro a S
   refine d_pure (i := 7) #[true, true, true, true, true, true, true, true, false, true, false, false, false] S rfl (p_sadd rfl rfl (by have := px.dec_le hs; have h1 : (strOfNums [k]).size = 1 := strOfNums_size _; have h2 : (strOfNums (wq.dec s.size)).size = (wq.dec s.size).length := strOfNums_size _; have h3 : (⟨#[13, 10]⟩ : ByteArray).size = 2 := rfl; simp only [ByteArray.size_append]; omega)) (wanted_none rfl) rfl rfl (by kernel_rfl) (fun _ _ _ h => h) ?_; clear S a; intro a S
   refine d_pure (i := 8) #[true, true, true, true, true, true, true, true, true, true, false, false, false] S rfl (p_sadd rfl rfl (by have := px.dec_le hs; have h1 : (strOfNums [k]).size = 1 := strOfNums_size _; have h2 : (strOfNums (wq.dec s.size)).size = (wq.dec s.size).length := strOfNums_size _; have h3 : (⟨#[13, 10]⟩ : ByteArray).size = 2 := rfl; simp only [ByteArray.size_append]; omega)) (wanted_none rfl) rfl rfl (by kernel_rfl) (fun _ _ _ h => h) ?_; clear S a; intro a S
   refine d_pure (i := 10) #[true, true, true, true, true, true, true, true, true, true, true, false, false] S rfl (p_sadd rfl rfl (by have := px.dec_le hs; have h1 : (strOfNums [k]).size = 1 := strOfNums_size _; have h2 : (strOfNums (wq.dec s.size)).size = (wq.dec s.size).length := strOfNums_size _; have h3 : (⟨#[13, 10]⟩ : ByteArray).size = 2 := rfl; simp only [ByteArray.size_append]; omega)) (wanted_none rfl) rfl rfl (by kernel_rfl) (fun _ _ _ h => h) ?_; clear S a; intro a S
   refine d_pure (i := 11) #[true, true, true, true, true, true, true, true, true, true, true, true, false] S rfl (p_sadd rfl rfl (by have := px.dec_le hs; have h1 : (strOfNums [k]).size = 1 := strOfNums_size _; have h2 : (strOfNums (wq.dec s.size)).size = (wq.dec s.size).length := strOfNums_size _; have h3 : (⟨#[13, 10]⟩ : ByteArray).size = 2 := rfl; simp only [ByteArray.size_append]; omega)) (wanted_none rfl) rfl rfl (by kernel_rfl) (fun _ _ _ h => h) ?_; clear S a; intro a S
   refine d_mv [12] #[true, true, true, true, true, true, true, true, true, true, true, true, true] S rfl (by kernel_rfl) (fun _ _ _ _ _ h => h) ?_; clear S a; intro a S
   refine d_done (by kernel_rfl) ?_
   refine e_then ?_
   refine wp_ret ?_
   exact r_ret1 S rfl rfl ⟨by rw [px.blob_str], H.tail⟩
 ·
  have hcon := dig_ wb _ B L0 s.size (by omega) H
  refine e_call (i := 6) hK rfl S rfl rfl Tryz.func30 rfl rfl hcon (wanted_none rfl) rfl rfl ?_
  rintro e w ⟨rfl, hH⟩
  refine ⟨_, rfl, hH.sub (.refl _), ?_⟩; clear S a; intro a S; clear H hcon; have H := hH; clear hH
  refine d_lit (i := 1) [(.tmp 5)] #[true, true, false, true, true, true, true, false, false, true, false, false, false] S (.refl _) H rfl rfl rfl Tryz.underlying34 sz5 zv5 rfl rfl (by simp [Value.cells]) (wanted_none rfl) rfl rfl (by kernel_rfl) rfl ?_; clear S a H; intro g2 w a H S
  refine Go.Proofs.YtfbfmcjjohiikaaGreatDoorW.PrintLast.one_ (i := 2) #[true, true, true, true, true, true, true, false, false, true, false, false, false] rfl rfl (by kernel_rfl) (by simp) (fun K hK => ?_)
  refine e_read (i := 2) hK rfl S (.cons _ (.refl _)) H (r_str (l := [k]) rfl Tryz.underlying34 Tryz.underlying5 Tryz.underlying9 (fun w H => RB.C (RB.of H List.mem_cons_self (fun i v hi => by rcases i with _ | i <;> simp_all)) (show 1 ≤ 9223372036854775807 by decide))) (wanted_none rfl) rfl rfl ?_; clear S a; intro a S
  refine d_pure (i := 7) #[true, true, true, true, true, true, true, true, false, true, false, false, false] S rfl (p_sadd rfl rfl (by have := px.dec_le hs; have h1 : (strOfNums [k]).size = 1 := strOfNums_size _; have h2 : (strOfNums (wq.dec s.size)).size = (wq.dec s.size).length := strOfNums_size _; have h3 : (⟨#[13, 10]⟩ : ByteArray).size = 2 := rfl; simp only [ByteArray.size_append]; omega)) (wanted_none rfl) rfl rfl (by kernel_rfl) (fun _ _ _ h => h) ?_; clear S a; intro a S
  refine d_pure (i := 8) #[true, true, true, true, true, true, true, true, true, true, false, false, false] S rfl (p_sadd rfl rfl (by have := px.dec_le hs; have h1 : (strOfNums [k]).size = 1 := strOfNums_size _; have h2 : (strOfNums (wq.dec s.size)).size = (wq.dec s.size).length := strOfNums_size _; have h3 : (⟨#[13, 10]⟩ : ByteArray).size = 2 := rfl; simp only [ByteArray.size_append]; omega)) (wanted_none rfl) rfl rfl (by kernel_rfl) (fun _ _ _ h => h) ?_; clear S a; intro a S
  refine d_pure (i := 10) #[true, true, true, true, true, true, true, true, true, true, true, false, false] S rfl (p_sadd rfl rfl (by have := px.dec_le hs; have h1 : (strOfNums [k]).size = 1 := strOfNums_size _; have h2 : (strOfNums (wq.dec s.size)).size = (wq.dec s.size).length := strOfNums_size _; have h3 : (⟨#[13, 10]⟩ : ByteArray).size = 2 := rfl; simp only [ByteArray.size_append]; omega)) (wanted_none rfl) rfl rfl (by kernel_rfl) (fun _ _ _ h => h) ?_; clear S a; intro a S
  refine d_pure (i := 11) #[true, true, true, true, true, true, true, true, true, true, true, true, false] S rfl (p_sadd rfl rfl (by have := px.dec_le hs; have h1 : (strOfNums [k]).size = 1 := strOfNums_size _; have h2 : (strOfNums (wq.dec s.size)).size = (wq.dec s.size).length := strOfNums_size _; have h3 : (⟨#[13, 10]⟩ : ByteArray).size = 2 := rfl; simp only [ByteArray.size_append]; omega)) (wanted_none rfl) rfl rfl (by kernel_rfl) (fun _ _ _ h => h) ?_; clear S a; intro a S
  refine d_mv [12] #[true, true, true, true, true, true, true, true, true, true, true, true, true] S rfl (by kernel_rfl) (fun _ _ _ _ _ h => h) ?_; clear S a; intro a S
  refine d_done (by kernel_rfl) ?_
  refine e_then ?_
  refine wp_ret ?_
  exact r_ret1 S rfl rfl ⟨by rw [px.blob_str], H.tail⟩
end nm
end Go.Proofs.YtfbfmcjjohiikaaGreatDoor.mw
end
