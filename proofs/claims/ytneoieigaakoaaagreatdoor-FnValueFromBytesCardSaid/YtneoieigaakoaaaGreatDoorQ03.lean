/- The proof of laws.FnValueFromBytes: a value of a kind is read from any bytes as the rules of its kind say, or refused; what is too great is told so. Conditions: those of the given row (the listed variables read as laid). -/
import Derived.Test.YtneoieigaakoaaaGreatDoorQ02
import Derived.Test.YtneoieigaakoaaaGreatDoorProg
import Derived.Test.YtneoieigaakoaaaGreatDoorQ01
import Derived.Ground.NamesProg
import Derived.WalkKit
import Derived.Below
import Derived.Shelf.Strconv.Itoa0
import Derived.Shelf.Bits.Mul64
set_option linter.unusedVariables false
set_option linter.unusedSimpArgs false
section
namespace Go.Proofs.YtneoieigaakoaaaGreatDoor.pf
open Go.Proofs.YtneoieigaakoaaaGreatDoor.fx
open Go.RowKit Go.Proofs.HHW Go.Proofs.YtneoieigaakoaaaGreatDoorW.PrintWords
namespace s2
def cpll (s p : ByteArray) : Nat → Int → Int
 | 0, _ => default
 | fu + 1, i => (bif (decide (i < (min ((p.size : Nat) : Int) ((s.size : Nat) : Int)))) then (bif (decide (65 ≤ (HHW.bt s i))) then (bif (decide ((HHW.bt s i) ≤ 90)) then (bif (((HHW.bt s i) + 32) != (HHW.bt p i)) then i else cpll s p fu (i + 1)) else (bif ((HHW.bt s i) != (HHW.bt p i)) then i else cpll s p fu (i + 1))) else (bif ((HHW.bt s i) != (HHW.bt p i)) then i else cpll s p fu (i + 1))) else (min ((p.size : Nat) : Int) ((s.size : Nat) : Int)))
def cpl (s p : ByteArray) : Int := cpll s p ((((s.size : Int) - 0).toNat) + 1) 0
set_option maxHeartbeats 2000000 in
theorem cpl_ (wb w0 : World) (B : Nat) (L0 : List (Nat × Obj)) (s p : ByteArray) (hs : s.size ≤ 1000000000) (hp : p.size ≤ 1000000000) (H : HH B wb w0 L0) : Calls Tryz.prog 68 #[.string s, .string p] w0 fun e w' => e = .returned (.int .i64 (cpl s p)) ∧ HH B wb w' L0 ∧ 0 ≤ cpl s p ∧ cpl s p ≤ p.size := by
 generalize hR : cpl s p = R
 refine c_enter (args := [.string s, .string p]) (k := 34) Tryz.func68 rfl rfl rfl (fun a S => ?_)
 refine wp_seq ?_
 refine c_region ?_
 refine l_mv 1 S rfl ?_; clear S a; intro a S
 refine l_nil ?_
 refine e_then ?_
 refine wp_seq ?_
 refine c_region ?_
 refine l_mv 1 S rfl ?_; clear S a; intro a S
 refine l_pure S (p_lens Tryz.underlying9 rfl) rfl rfl rfl ?_; clear S a; intro a S
 refine l_mv 1 S rfl ?_; clear S a; intro a S
 refine l_pure S (p_lens Tryz.underlying9 rfl) rfl rfl rfl ?_; clear S a; intro a S
 refine l_pure S (fz.p_minV (r := min ((p.size : Nat) : Int) ((s.size : Nat) : Int)) rfl rfl (by simp only [Int.min_def]; split <;> split <;> omega)) rfl rfl rfl ?_; clear S a; intro a S
 refine l_mv 1 S rfl ?_; clear S a; intro a S
 refine l_nil ?_
 refine e_then ?_
 refine wp_seq ?_
 refine wp_seq ?_
 refine c_region ?_
 refine l_mv 1 S rfl ?_; clear S a; intro a S
 refine l_nil ?_
 refine e_then ?_
 refine wp_block ?_
 refine c_loop (σ := Nat × Int) (fun s_ a w => match s_ with | (k_, i) => SL a 36 [] [(0, .string s), (1, .string p), (5, .int .i64 (min ((p.size : Nat) : Int) ((s.size : Nat) : Int))), (6, .int .i64 i)] ∧ HH B wb w (L0) ∧ (cpll s p k_ i = R ∧ ((s.size : Int) - i).toNat < k_ ∧ (0 ≤ i))) (fun s_ => s_.1) ((((s.size : Int) - 0).toNat) + 1, 0) ⟨S.only ⟨rfl, rfl, rfl, rfl, trivial⟩, H, by rw [← hR]; simp only [cpl, cond_true, cond_false], by omega, by omega⟩ ?_
 clear S a H hR; rintro ⟨fu, i⟩ a w ⟨S, H, hR, hk, hinv⟩
 obtain ⟨fu, rfl⟩ : ∃ j, fu = j + 1 := ⟨fu - 1, by omega⟩
 have hi := hinv
 refine wp_seq ?_
 refine wp_seq ?_
 refine c_region ?_
 refine l_mv 2 S rfl ?_; clear S a; intro a S
 refine l_pure S (p_lss rfl rfl) rfl rfl rfl ?_; clear S a; intro a S
 refine l_nil ?_
 refine e_then ?_
 refine c_cond S rfl (fun bc2 => ?_) (fun bc2 => ?_)
 ·
  have c2 := bc2
  have c2 := of_decide_eq_true c2
  refine wp_skip ?_
  refine e_then ?_
  refine wp_seq ?_
  refine wp_block ?_
  refine wp_seq ?_
  refine c_region ?_
  refine l_mv 2 S rfl ?_; clear S a; intro a S
  refine l_pure S (p_index rfl rfl (fun w => ix_string Tryz.underlying9 (by omega) (by omega))) rfl rfl rfl ?_; clear S a; intro a S
  have := bt_rng s i
  refine l_mv 1 S rfl ?_; clear S a; intro a S
  refine l_nil ?_
  refine e_then ?_
  refine wp_seq ?_
  refine wp_seq ?_
  refine c_region ?_
  refine l_mv 1 S rfl ?_; clear S a; intro a S
  refine l_pure S (p_leq rfl rfl) rfl rfl rfl ?_; clear S a; intro a S
  refine l_mv 1 S rfl ?_; clear S a; intro a S
  refine l_split (S.of 23 rfl) (fun bc4 => ?_) (fun bc4 => ?_)
  ·
   have c4 := bc4
   have c4 := of_decide_eq_true c4
   refine l_on S rfl rfl rfl rfl bc4 ?_
   refine l_pure S (p_move rfl) rfl rfl rfl ?_; clear S a; intro a S
   refine l_on S rfl rfl rfl rfl bc4 ?_
   refine l_pure S (p_leq rfl rfl) rfl rfl rfl ?_; clear S a; intro a S
   refine l_pure S (p_pick_t rfl bc4 rfl) rfl rfl rfl ?_; clear S a; intro a S
   refine l_nil ?_
   refine e_then ?_
   refine c_cond S rfl (fun bc6 => ?_) (fun bc6 => ?_)
   ·
    have c6 := bc6
    have c6 := of_decide_eq_true c6
    refine c_region ?_
    refine l_mv 1 S rfl ?_; clear S a; intro a S
    refine l_pure S (p_add (r := ((HHW.bt s i) + 32)) rfl rfl (IntWalk.u8_in _ (by omega))) rfl rfl rfl ?_; clear S a; intro a S
    refine l_mv 1 S rfl ?_; clear S a; intro a S
    refine l_nil ?_
    refine e_then ?_
    refine wp_seq ?_
    refine c_region ?_
    refine l_mv 3 S rfl ?_; clear S a; intro a S
    refine l_pure S (p_index rfl rfl (fun w => ix_string Tryz.underlying9 (by omega) (by omega))) rfl rfl rfl ?_; clear S a; intro a S
    have := bt_rng p i
    refine l_pure S (p_neq rfl rfl) rfl rfl rfl ?_; clear S a; intro a S
    refine l_nil ?_
    refine e_then ?_
    refine c_cond S rfl (fun bc8 => ?_) (fun bc8 => ?_)
    ·
     have c8 := bc8
     have c8 := bne_iff_ne.1 c8
     refine wp_seq ?_
     refine c_region ?_
     refine l_mv 2 S rfl ?_; clear S a; intro a S
     refine l_nil ?_
     refine e_then ?_
     refine wp_ret ?_
     refine e_in_ret ?_
     refine e_then_ret ?_
     refine e_then_ret ?_
     refine e_in_ret ?_
     refine e_then_ret ?_
     have eR : R = i := by rw [← hR]; simp only [cpll, bc2, bc4, bc6, bc8, cond_true, cond_false]
     clear hR; subst eR
     exact r_ret1 S rfl rfl ⟨rfl, H, by omega⟩
    ·
     have c8 := bc8
     have c8 := bne_eq_false_iff_eq.1 c8
     refine wp_skip ?_
     refine e_in 1 ?_
     refine e_then ?_
     refine c_region ?_
     refine l_mv 1 S rfl ?_; clear S a; intro a S
     refine l_pure S (p_add (r := (i + 1)) rfl rfl (IntWalk.i64_in _ (by omega))) rfl rfl rfl ?_; clear S a; intro a S
     refine l_mv 1 S rfl ?_; clear S a; intro a S
     refine l_nil ?_
     refine e_then ?_
     exact ⟨(fu, (i + 1)), ⟨S.only ⟨rfl, rfl, rfl, rfl, trivial⟩, H, by rw [← hR]; simp only [cpll, bc2, bc4, bc6, bc8, cond_true, cond_false], by omega, by omega⟩, Nat.lt_succ_self fu⟩
   ·
    have c6 := bc6
    have c6 := of_decide_eq_false c6
    refine wp_skip ?_
    refine e_then ?_
    refine wp_seq ?_
    refine c_region ?_
    refine l_mv 3 S rfl ?_; clear S a; intro a S
    refine l_pure S (p_index rfl rfl (fun w => ix_string Tryz.underlying9 (by omega) (by omega))) rfl rfl rfl ?_; clear S a; intro a S
    have := bt_rng p i
    refine l_pure S (p_neq rfl rfl) rfl rfl rfl ?_; clear S a; intro a S
    refine l_nil ?_
    refine e_then ?_
    refine c_cond S rfl (fun bc10 => ?_) (fun bc10 => ?_)
    ·
     have c10 := bc10
     have c10 := bne_iff_ne.1 c10
     refine wp_seq ?_
     refine c_region ?_
     refine l_mv 2 S rfl ?_; clear S a; intro a S
     refine l_nil ?_
     refine e_then ?_
     refine wp_ret ?_
     refine e_in_ret ?_
     refine e_then_ret ?_
     refine e_then_ret ?_
     refine e_in_ret ?_
     refine e_then_ret ?_
     have eR : R = i := by rw [← hR]; simp only [cpll, bc2, bc4, bc6, bc10, cond_true, cond_false]
     clear hR; subst eR
     exact r_ret1 S rfl rfl ⟨rfl, H, by omega⟩
    ·
     have c10 := bc10
     have c10 := bne_eq_false_iff_eq.1 c10
     refine wp_skip ?_
     refine e_in 1 ?_
     refine e_then ?_
     refine c_region ?_
     refine l_mv 1 S rfl ?_; clear S a; intro a S
     refine l_pure S (p_add (r := (i + 1)) rfl rfl (IntWalk.i64_in _ (by omega))) rfl rfl rfl ?_; clear S a; intro a S
     refine l_mv 1 S rfl ?_; clear S a; intro a S
     refine l_nil ?_
     refine e_then ?_
     exact ⟨(fu, (i + 1)), ⟨S.only ⟨rfl, rfl, rfl, rfl, trivial⟩, H, by rw [← hR]; simp only [cpll, bc2, bc4, bc6, bc10, cond_true, cond_false], by omega, by omega⟩, Nat.lt_succ_self fu⟩
  ·
   have c4 := bc4
   have c4 := of_decide_eq_false c4
   refine l_off S rfl rfl rfl rfl bc4 rfl rfl ?_; clear S a; intro a S
   refine l_off S rfl rfl rfl rfl bc4 rfl rfl ?_; clear S a; intro a S
   refine l_pure S (p_pick_f rfl bc4 rfl) rfl rfl rfl ?_; clear S a; intro a S
   refine l_nil ?_
   refine e_then ?_
   refine c_cond (b := false) S rfl (fun h => by cases h) (fun _ => ?_)
   refine wp_skip ?_
   refine e_then ?_
   refine wp_seq ?_
   refine c_region ?_
   refine l_mv 3 S rfl ?_; clear S a; intro a S
   refine l_pure S (p_index rfl rfl (fun w => ix_string Tryz.underlying9 (by omega) (by omega))) rfl rfl rfl ?_; clear S a; intro a S
   have := bt_rng p i
   refine l_pure S (p_neq rfl rfl) rfl rfl rfl ?_; clear S a; intro a S
   refine l_nil ?_
   refine e_then ?_
   refine c_cond S rfl (fun bc14 => ?_) (fun bc14 => ?_)
   ·
    have c14 := bc14
    have c14 := bne_iff_ne.1 c14
    refine wp_seq ?_
    refine c_region ?_
    refine l_mv 2 S rfl ?_; clear S a; intro a S
    refine l_nil ?_
    refine e_then ?_
    refine wp_ret ?_
    refine e_in_ret ?_
    refine e_then_ret ?_
    refine e_then_ret ?_
    refine e_in_ret ?_
    refine e_then_ret ?_
    have eR : R = i := by rw [← hR]; simp only [cpll, bc2, bc4, bc14, cond_true, cond_false]
    clear hR; subst eR
    exact r_ret1 S rfl rfl ⟨rfl, H, by omega⟩
   ·
    have c14 := bc14
    have c14 := bne_eq_false_iff_eq.1 c14
    refine wp_skip ?_
    refine e_in 1 ?_
    refine e_then ?_
    refine c_region ?_
    refine l_mv 1 S rfl ?_; clear S a; intro a S
    refine l_pure S (p_add (r := (i + 1)) rfl rfl (IntWalk.i64_in _ (by omega))) rfl rfl rfl ?_; clear S a; intro a S
    refine l_mv 1 S rfl ?_; clear S a; intro a S
    refine l_nil ?_
    refine e_then ?_
    exact ⟨(fu, (i + 1)), ⟨S.only ⟨rfl, rfl, rfl, rfl, trivial⟩, H, by rw [← hR]; simp only [cpll, bc2, bc4, bc14, cond_true, cond_false], by omega, by omega⟩, Nat.lt_succ_self fu⟩
 ·
  have c2 := bc2
  have c2 := of_decide_eq_false c2
  refine wp_exit ?_
  refine e_then_exit ?_
  refine e_then_exit ?_
  refine e_in_exit ?_
  refine e_then ?_
  refine wp_seq ?_
  refine c_region ?_
  refine l_mv 2 S rfl ?_; clear S a; intro a S
  refine l_nil ?_
  refine e_then ?_
  refine wp_ret ?_
  have eR : R = (min ((p.size : Nat) : Int) ((s.size : Nat) : Int)) := by rw [← hR]; simp only [cpll, bc2, cond_true, cond_false]
  clear hR; subst eR
  exact r_ret1 S rfl rfl ⟨rfl, H, by omega⟩
def inf (x : Int) : Nat := (bif (decide (x ≥ 0)) then ((9218868437227405312#64).toNat) else ((18442240474082181120#64).toNat))
set_option maxHeartbeats 2000000 in
theorem inf_ (wb w0 : World) (B : Nat) (L0 : List (Nat × Obj)) (x : Int) (H : HH B wb w0 L0) : Calls Tryz.prog 69 #[.int .i64 x] w0 fun e w' => e = .returned (.float .f64 (inf x)) ∧ HH B wb w' L0 := by
 generalize hR : inf x = R
 refine c_enter (args := [.int .i64 x]) (k := 7) Tryz.func69 rfl rfl rfl (fun a S => ?_)
 refine wp_seq ?_
 refine c_region ?_
 refine l_mv 1 S rfl ?_; clear S a; intro a S
 refine l_nil ?_
 refine e_then ?_
 refine wp_seq ?_
 refine c_region ?_
 refine l_mv 1 S rfl ?_; clear S a; intro a S
 refine l_nil ?_
 refine e_then ?_
 refine wp_seq ?_
 refine wp_seq ?_
 refine c_region ?_
 refine l_mv 1 S rfl ?_; clear S a; intro a S
 refine l_pure S (p_geq rfl rfl) rfl rfl rfl ?_; clear S a; intro a S
 refine l_nil ?_
 refine e_then ?_
 refine c_cond S rfl (fun bc2 => ?_) (fun bc2 => ?_)
 ·
  have c2 := bc2
  have c2 := of_decide_eq_true c2
  refine c_region ?_
  refine l_mv 1 S rfl ?_; clear S a; intro a S
  refine l_nil ?_
  refine e_then ?_
  refine wp_seq ?_
  refine c_region ?_
  refine l_mv 1 S rfl ?_; clear S a; intro a S
  refine l_pure S (p_ext (v := .float .f64 (9218868437227405312#64).toNat) rfl (fun w => fb_run 9218868437227405312#64 w)) rfl rfl rfl ?_; clear S a; intro a S
  refine l_mv 1 S rfl ?_; clear S a; intro a S
  refine l_nil ?_
  refine e_then ?_
  refine wp_ret ?_
  have eR : R = ((9218868437227405312#64).toNat) := by rw [← hR]; simp only [inf, bc2, cond_true, cond_false]
  clear hR; subst eR
  exact r_ret1 S rfl rfl ⟨rfl, H⟩
 ·
  have c2 := bc2
  have c2 := of_decide_eq_false c2
  refine c_region ?_
  refine l_mv 1 S rfl ?_; clear S a; intro a S
  refine l_nil ?_
  refine e_then ?_
  refine wp_seq ?_
  refine c_region ?_
  refine l_mv 1 S rfl ?_; clear S a; intro a S
  refine l_pure S (p_ext (v := .float .f64 (18442240474082181120#64).toNat) rfl (fun w => fb_run 18442240474082181120#64 w)) rfl rfl rfl ?_; clear S a; intro a S
  refine l_mv 1 S rfl ?_; clear S a; intro a S
  refine l_nil ?_
  refine e_then ?_
  refine wp_ret ?_
  have eR : R = ((18442240474082181120#64).toNat) := by rw [← hR]; simp only [inf, bc2, cond_true, cond_false]
  clear hR; subst eR
  exact r_ret1 S rfl rfl ⟨rfl, H⟩
theorem nan_ (wb w0 : World) (B : Nat) (L0 : List (Nat × Obj)) (H : HH B wb w0 L0) : Calls Tryz.prog 70 #[] w0 fun e w' => e = .returned (.float .f64 9221120237041090561) ∧ HH B wb w' L0 := by
 refine c_enter (args := []) (k := 2) Tryz.func70 rfl rfl rfl (fun a S => ?_)
 refine wp_seq ?_
 refine c_region ?_
 refine l_mv 1 S rfl ?_; clear S a; intro a S
 refine l_nil ?_
 refine e_then ?_
 refine wp_seq ?_
 refine c_region ?_
 refine l_pure S (p_ext (v := .float .f64 (9221120237041090561#64).toNat) rfl (fun w => fb_run 9221120237041090561#64 w)) rfl rfl rfl ?_; clear S a; intro a S
 refine l_mv 1 S rfl ?_; clear S a; intro a S
 refine l_nil ?_
 refine e_then ?_
 refine wp_ret ?_
 exact r_ret1 S rfl rfl ⟨rfl, H⟩
def spc2 (s : ByteArray) (z : ByteArray) (sg : Int) (ns : Int) : Nat × Int × Bool := (bif (decide (3 < (cpl z (⟨#[105, 110, 102, 105, 110, 105, 116, 121]⟩ : ByteArray)))) then (bif (decide ((cpl z (⟨#[105, 110, 102, 105, 110, 105, 116, 121]⟩ : ByteArray)) < 8)) then ((inf sg), (ns + 3), true) else (bif ((cpl z (⟨#[105, 110, 102, 105, 110, 105, 116, 121]⟩ : ByteArray)) == 3) then ((inf sg), (ns + (cpl z (⟨#[105, 110, 102, 105, 110, 105, 116, 121]⟩ : ByteArray))), true) else (bif ((cpl z (⟨#[105, 110, 102, 105, 110, 105, 116, 121]⟩ : ByteArray)) == 8) then ((inf sg), (ns + (cpl z (⟨#[105, 110, 102, 105, 110, 105, 116, 121]⟩ : ByteArray))), true) else (0, 0, false)))) else (bif ((cpl z (⟨#[105, 110, 102, 105, 110, 105, 116, 121]⟩ : ByteArray)) == 3) then ((inf sg), (ns + (cpl z (⟨#[105, 110, 102, 105, 110, 105, 116, 121]⟩ : ByteArray))), true) else (bif ((cpl z (⟨#[105, 110, 102, 105, 110, 105, 116, 121]⟩ : ByteArray)) == 8) then ((inf sg), (ns + (cpl z (⟨#[105, 110, 102, 105, 110, 105, 116, 121]⟩ : ByteArray))), true) else (0, 0, false))))
def spc (s : ByteArray) : Nat × Int × Bool := (bif (((s.size : Nat) : Int) == 0) then (0, 0, false) else (bif ((HHW.bt s 0) == 43) then (bif ((HHW.bt s 0) == 45) then spc2 s (s.extract (1 : Int).toNat s.size) (-1) 1 else spc2 s (s.extract (1 : Int).toNat s.size) 1 1) else (bif ((HHW.bt s 0) == 45) then spc2 s (s.extract (1 : Int).toNat s.size) (-1) 1 else (bif ((HHW.bt s 0) == 105) then spc2 s s 1 0 else (bif ((HHW.bt s 0) == 73) then spc2 s s 1 0 else (bif ((HHW.bt s 0) == 110) then (bif ((cpl s (⟨#[110, 97, 110]⟩ : ByteArray)) == 3) then (9221120237041090561, 3, true) else (0, 0, false)) else (bif ((HHW.bt s 0) == 78) then (bif ((cpl s (⟨#[110, 97, 110]⟩ : ByteArray)) == 3) then (9221120237041090561, 3, true) else (0, 0, false)) else (0, 0, false))))))))
set_option maxHeartbeats 2000000 in
theorem spc_ (wb w0 : World) (B : Nat) (L0 : List (Nat × Obj)) (s : ByteArray) (hs : s.size ≤ 1000000000) (H : HH B wb w0 L0) : Calls Tryz.prog 52 #[.string s] w0 fun e w' => e = .returned (.tuple #[.float .f64 (spc s).1, .int .i64 (spc s).2.1, .bool (spc s).2.2]) ∧ HH B wb w' L0 ∧ 0 ≤ (spc s).2.1 ∧ (spc s).2.1 ≤ 100 := by
 generalize hR : spc s = R
 refine c_enter (args := [.string s]) (k := 49) Tryz.func52 rfl rfl rfl (fun a S => ?_)
 refine wp_seq ?_
 refine c_region ?_
 refine l_mv 3 S rfl ?_; clear S a; intro a S
 refine l_nil ?_
 refine e_then ?_
 refine wp_seq ?_
 refine wp_seq ?_
 refine c_region ?_
 refine l_mv 1 S rfl ?_; clear S a; intro a S
 refine l_pure S (p_lens Tryz.underlying9 rfl) rfl rfl rfl ?_; clear S a; intro a S
 refine l_pure S (p_eql rfl rfl) rfl rfl rfl ?_; clear S a; intro a S
 refine l_nil ?_
 refine e_then ?_
 refine c_cond S rfl (fun bc3 => ?_) (fun bc3 => ?_)
 ·
  have c3 := bc3
  have c3 := eq_of_beq c3
  refine wp_seq ?_
  refine c_region ?_
  refine l_mv 3 S rfl ?_; clear S a; intro a S
  refine l_nil ?_
  refine e_then ?_
  refine wp_ret ?_
  refine e_then_ret ?_
  have eR : R = (0, 0, false) := by rw [← hR]; simp only [spc, bc3, cond_true, cond_false]
  clear hR; subst eR
  exact r_ret3 S rfl rfl rfl rfl ⟨rfl, H, by dsimp only; omega⟩
 ·
  have c3 := bc3
  have c3 := ne_of_beq_false c3
  refine wp_skip ?_
  refine e_then ?_
  refine wp_seq ?_
  refine c_region ?_
  refine l_mv 1 S rfl ?_; clear S a; intro a S
  refine l_nil ?_
  refine e_then ?_
  refine wp_seq ?_
  refine c_region ?_
  refine l_mv 1 S rfl ?_; clear S a; intro a S
  refine l_nil ?_
  refine e_then ?_
  refine wp_seq ?_
  refine wp_seq ?_
  refine c_region ?_
  refine l_mv 1 S rfl ?_; clear S a; intro a S
  refine l_pure S (p_index rfl rfl (fun w => ix_string Tryz.underlying9 (by omega) (by omega))) rfl rfl rfl ?_; clear S a; intro a S
  have := bt_rng s 0
  refine l_nil ?_
  refine e_then ?_
  refine wp_block ?_
  refine wp_seq ?_
  refine wp_block ?_
  refine c_cut (fun a w => ∃ z : ByteArray, ∃ sg : Int, ∃ ns : Int, SL a 50 [] [(2, .float .f64 0), (3, .int .i64 0), (4, .bool false), (0, .string z), (5, .int .i64 sg), (6, .int .i64 ns)] ∧ HH B wb w (L0) ∧ spc2 s z sg ns = R ∧ (z.size ≤ 1000000000 ∧ -1 ≤ sg ∧ sg ≤ 1 ∧ 0 ≤ ns ∧ ns ≤ 1)) ?_ ?_
  ·
   clear S a H hR; rintro a w ⟨z, sg, ns, S, H, hR, hinv⟩
   obtain ⟨hz, h1, h2, h3, h4⟩ := hinv
   refine wp_seq ?_
   refine wp_seq ?_
   refine c_region ?_
   refine l_mv 1 S rfl ?_; clear S a; intro a S
   have hcon := cpl_ wb _ B _ z (⟨#[105, 110, 102, 105, 110, 105, 116, 121]⟩ : ByteArray) (by first | exact hs | exact hz) (by decide) H
   refine l_call S rfl rfl Tryz.func68 rfl rfl (hcon) rfl rfl rfl ?_
   rintro e w ⟨rfl, hH, hc1, hc2⟩
   refine ⟨_, rfl, ?_⟩; clear S a; intro a S
   clear H hcon; have H := hH; clear hH
   replace hc2 : cpl z (⟨#[105, 110, 102, 105, 110, 105, 116, 121]⟩ : ByteArray) ≤ 8 := hc2
   refine l_mv 1 S rfl ?_; clear S a; intro a S
   refine l_nil ?_
   refine e_then ?_
   refine wp_seq ?_
   refine wp_seq ?_
   refine c_region ?_
   refine l_mv 1 S rfl ?_; clear S a; intro a S
   refine l_pure S (p_lss rfl rfl) rfl rfl rfl ?_; clear S a; intro a S
   refine l_mv 1 S rfl ?_; clear S a; intro a S
   refine l_split (S.of 31 rfl) (fun bc6 => ?_) (fun bc6 => ?_)
   ·
    have c6 := bc6
    have c6 := of_decide_eq_true c6
    refine l_on S rfl rfl rfl rfl bc6 ?_
    refine l_pure S (p_move rfl) rfl rfl rfl ?_; clear S a; intro a S
    refine l_on S rfl rfl rfl rfl bc6 ?_
    refine l_pure S (p_lss rfl rfl) rfl rfl rfl ?_; clear S a; intro a S
    refine l_pure S (p_pick_t rfl bc6 rfl) rfl rfl rfl ?_; clear S a; intro a S
    refine l_nil ?_
    refine e_then ?_
    refine c_cond S rfl (fun bc8 => ?_) (fun bc8 => ?_)
    ·
     have c8 := bc8
     have c8 := of_decide_eq_true c8
     refine c_region ?_
     refine l_mv 1 S rfl ?_; clear S a; intro a S
     refine l_nil ?_
     refine e_then ?_
     refine wp_seq ?_
     refine c_region ?_
     refine l_mv 1 S rfl ?_; clear S a; intro a S
     refine l_pure S (p_eql rfl rfl) rfl rfl rfl ?_; clear S a; intro a S
     refine l_mv 1 S rfl ?_; clear S a; intro a S
     refine l_off S rfl rfl rfl rfl rfl rfl rfl ?_; clear S a; intro a S
     refine l_off S rfl rfl rfl rfl rfl rfl rfl ?_; clear S a; intro a S
     refine l_pure S (p_pick_t rfl rfl rfl) rfl rfl rfl ?_; clear S a; intro a S
     refine l_nil ?_
     refine e_then ?_
     refine c_cond (b := true) S rfl (fun _ => ?_) (fun h => by cases h)
     refine wp_seq ?_
     refine c_region ?_
     refine l_mv 1 S rfl ?_; clear S a; intro a S
     have hcon := inf_ wb _ B _ sg H
     refine l_call S rfl rfl Tryz.func69 rfl rfl (hcon) rfl rfl rfl ?_
     rintro e w ⟨rfl, hH⟩
     refine ⟨_, rfl, ?_⟩; clear S a; intro a S
     clear H hcon; have H := hH; clear hH
     refine l_mv 2 S rfl ?_; clear S a; intro a S
     refine l_pure S (p_add (r := (ns + 3)) rfl rfl (IntWalk.i64_in _ (by omega))) rfl rfl rfl ?_; clear S a; intro a S
     refine l_mv 3 S rfl ?_; clear S a; intro a S
     refine l_nil ?_
     refine e_then ?_
     refine wp_ret ?_
     refine e_then_ret ?_
     refine e_in_ret ?_
     refine e_then_ret ?_
     refine e_in_ret ?_
     refine e_then_ret ?_
     have eR : R = ((inf sg), (ns + 3), true) := by rw [← hR]; simp only [spc2, bc6, bc8, cond_true, cond_false]
     clear hR; subst eR
     exact r_ret3 S rfl rfl rfl rfl ⟨rfl, H, by dsimp only; omega⟩
    ·
     have c8 := bc8
     have c8 := of_decide_eq_false c8
     refine wp_skip ?_
     refine e_then ?_
     refine wp_seq ?_
     refine c_region ?_
     refine l_mv 1 S rfl ?_; clear S a; intro a S
     refine l_pure S (p_eql rfl rfl) rfl rfl rfl ?_; clear S a; intro a S
     refine l_mv 1 S rfl ?_; clear S a; intro a S
     refine l_split (S.of 37 rfl) (fun bc14 => ?_) (fun bc14 => ?_)
     ·
      have c14 := bc14
      have c14 := eq_of_beq c14
      refine l_off S rfl rfl rfl rfl bc14 rfl rfl ?_; clear S a; intro a S
      refine l_off S rfl rfl rfl rfl bc14 rfl rfl ?_; clear S a; intro a S
      refine l_pure S (p_pick_t rfl bc14 rfl) rfl rfl rfl ?_; clear S a; intro a S
      refine l_nil ?_
      refine e_then ?_
      refine c_cond (b := true) S rfl (fun _ => ?_) (fun h => by cases h)
      refine wp_seq ?_
      refine c_region ?_
      refine l_mv 1 S rfl ?_; clear S a; intro a S
      have hcon := inf_ wb _ B _ sg H
      refine l_call S rfl rfl Tryz.func69 rfl rfl (hcon) rfl rfl rfl ?_
      rintro e w ⟨rfl, hH⟩
      refine ⟨_, rfl, ?_⟩; clear S a; intro a S
      clear H hcon; have H := hH; clear hH
      refine l_mv 2 S rfl ?_; clear S a; intro a S
      refine l_pure S (p_add (r := (ns + (cpl z (⟨#[105, 110, 102, 105, 110, 105, 116, 121]⟩ : ByteArray)))) rfl rfl (IntWalk.i64_in _ (by omega))) rfl rfl rfl ?_; clear S a; intro a S
      refine l_mv 3 S rfl ?_; clear S a; intro a S
      refine l_nil ?_
      refine e_then ?_
      refine wp_ret ?_
      refine e_then_ret ?_
      refine e_in_ret ?_
      refine e_then_ret ?_
      refine e_in_ret ?_
      refine e_then_ret ?_
      have eR : R = ((inf sg), (ns + (cpl z (⟨#[105, 110, 102, 105, 110, 105, 116, 121]⟩ : ByteArray))), true) := by rw [← hR]; simp only [spc2, bc6, bc8, bc14, cond_true, cond_false]
      clear hR; subst eR
      exact r_ret3 S rfl rfl rfl rfl ⟨rfl, H, by dsimp only; omega⟩
     ·
      have c14 := bc14
      have c14 := ne_of_beq_false c14
      refine l_on S rfl rfl rfl rfl bc14 ?_
      refine l_pure S (p_move rfl) rfl rfl rfl ?_; clear S a; intro a S
      refine l_on S rfl rfl rfl rfl bc14 ?_
      refine l_pure S (p_eql rfl rfl) rfl rfl rfl ?_; clear S a; intro a S
      refine l_pure S (p_pick_f rfl bc14 rfl) rfl rfl rfl ?_; clear S a; intro a S
      refine l_nil ?_
      refine e_then ?_
      refine c_cond S rfl (fun bc19 => ?_) (fun bc19 => ?_)
      ·
       have c19 := bc19
       have c19 := eq_of_beq c19
       refine wp_seq ?_
       refine c_region ?_
       refine l_mv 1 S rfl ?_; clear S a; intro a S
       have hcon := inf_ wb _ B _ sg H
       refine l_call S rfl rfl Tryz.func69 rfl rfl (hcon) rfl rfl rfl ?_
       rintro e w ⟨rfl, hH⟩
       refine ⟨_, rfl, ?_⟩; clear S a; intro a S
       clear H hcon; have H := hH; clear hH
       refine l_mv 2 S rfl ?_; clear S a; intro a S
       refine l_pure S (p_add (r := (ns + (cpl z (⟨#[105, 110, 102, 105, 110, 105, 116, 121]⟩ : ByteArray)))) rfl rfl (IntWalk.i64_in _ (by omega))) rfl rfl rfl ?_; clear S a; intro a S
       refine l_mv 3 S rfl ?_; clear S a; intro a S
       refine l_nil ?_
       refine e_then ?_
       refine wp_ret ?_
       refine e_then_ret ?_
       refine e_in_ret ?_
       refine e_then_ret ?_
       refine e_in_ret ?_
       refine e_then_ret ?_
       have eR : R = ((inf sg), (ns + (cpl z (⟨#[105, 110, 102, 105, 110, 105, 116, 121]⟩ : ByteArray))), true) := by rw [← hR]; simp only [spc2, bc6, bc8, bc14, bc19, cond_true, cond_false]
       clear hR; subst eR
       exact r_ret3 S rfl rfl rfl rfl ⟨rfl, H, by dsimp only; omega⟩
      ·
       have c19 := bc19
       have c19 := ne_of_beq_false c19
       refine wp_skip ?_
       refine e_then ?_
       refine wp_exit ?_
       refine e_in_other rfl ?_
       refine e_then_exit ?_
       refine e_in_exit ?_
       refine e_then ?_
       refine wp_seq ?_
       refine c_region ?_
       refine l_mv 3 S rfl ?_; clear S a; intro a S
       refine l_nil ?_
       refine e_then ?_
       refine wp_ret ?_
       have eR : R = (0, 0, false) := by rw [← hR]; simp only [spc2, bc6, bc8, bc14, bc19, cond_true, cond_false]
       clear hR; subst eR
       exact r_ret3 S rfl rfl rfl rfl ⟨rfl, H, by dsimp only; omega⟩
   ·
    have c6 := bc6
    have c6 := of_decide_eq_false c6
    refine l_off S rfl rfl rfl rfl bc6 rfl rfl ?_; clear S a; intro a S
    refine l_off S rfl rfl rfl rfl bc6 rfl rfl ?_; clear S a; intro a S
    refine l_pure S (p_pick_f rfl bc6 rfl) rfl rfl rfl ?_; clear S a; intro a S
    refine l_nil ?_
    refine e_then ?_
    refine c_cond (b := false) S rfl (fun h => by cases h) (fun _ => ?_)
    refine wp_skip ?_
    refine e_then ?_
    refine wp_seq ?_
    refine c_region ?_
    refine l_mv 1 S rfl ?_; clear S a; intro a S
    refine l_pure S (p_eql rfl rfl) rfl rfl rfl ?_; clear S a; intro a S
    refine l_mv 1 S rfl ?_; clear S a; intro a S
    refine l_split (S.of 37 rfl) (fun bc25 => ?_) (fun bc25 => ?_)
    ·
     have c25 := bc25
     have c25 := eq_of_beq c25
     refine l_off S rfl rfl rfl rfl bc25 rfl rfl ?_; clear S a; intro a S
     refine l_off S rfl rfl rfl rfl bc25 rfl rfl ?_; clear S a; intro a S
     refine l_pure S (p_pick_t rfl bc25 rfl) rfl rfl rfl ?_; clear S a; intro a S
     refine l_nil ?_
     refine e_then ?_
     refine c_cond (b := true) S rfl (fun _ => ?_) (fun h => by cases h)
     refine wp_seq ?_
     refine c_region ?_
     refine l_mv 1 S rfl ?_; clear S a; intro a S
     have hcon := inf_ wb _ B _ sg H
     refine l_call S rfl rfl Tryz.func69 rfl rfl (hcon) rfl rfl rfl ?_
     rintro e w ⟨rfl, hH⟩
     refine ⟨_, rfl, ?_⟩; clear S a; intro a S
     clear H hcon; have H := hH; clear hH
     refine l_mv 2 S rfl ?_; clear S a; intro a S
     refine l_pure S (p_add (r := (ns + (cpl z (⟨#[105, 110, 102, 105, 110, 105, 116, 121]⟩ : ByteArray)))) rfl rfl (IntWalk.i64_in _ (by omega))) rfl rfl rfl ?_; clear S a; intro a S
     refine l_mv 3 S rfl ?_; clear S a; intro a S
     refine l_nil ?_
     refine e_then ?_
     refine wp_ret ?_
     refine e_then_ret ?_
     refine e_in_ret ?_
     refine e_then_ret ?_
     refine e_in_ret ?_
     refine e_then_ret ?_
     have eR : R = ((inf sg), (ns + (cpl z (⟨#[105, 110, 102, 105, 110, 105, 116, 121]⟩ : ByteArray))), true) := by rw [← hR]; simp only [spc2, bc6, bc25, cond_true, cond_false]
     clear hR; subst eR
     exact r_ret3 S rfl rfl rfl rfl ⟨rfl, H, by dsimp only; omega⟩
    ·
     have c25 := bc25
     have c25 := ne_of_beq_false c25
     refine l_on S rfl rfl rfl rfl bc25 ?_
     refine l_pure S (p_move rfl) rfl rfl rfl ?_; clear S a; intro a S
     refine l_on S rfl rfl rfl rfl bc25 ?_
     refine l_pure S (p_eql rfl rfl) rfl rfl rfl ?_; clear S a; intro a S
     refine l_pure S (p_pick_f rfl bc25 rfl) rfl rfl rfl ?_; clear S a; intro a S
     refine l_nil ?_
     refine e_then ?_
     refine c_cond S rfl (fun bc30 => ?_) (fun bc30 => ?_)
     ·
      have c30 := bc30
      have c30 := eq_of_beq c30
      refine wp_seq ?_
      refine c_region ?_
      refine l_mv 1 S rfl ?_; clear S a; intro a S
      have hcon := inf_ wb _ B _ sg H
      refine l_call S rfl rfl Tryz.func69 rfl rfl (hcon) rfl rfl rfl ?_
      rintro e w ⟨rfl, hH⟩
      refine ⟨_, rfl, ?_⟩; clear S a; intro a S
      clear H hcon; have H := hH; clear hH
      refine l_mv 2 S rfl ?_; clear S a; intro a S
      refine l_pure S (p_add (r := (ns + (cpl z (⟨#[105, 110, 102, 105, 110, 105, 116, 121]⟩ : ByteArray)))) rfl rfl (IntWalk.i64_in _ (by omega))) rfl rfl rfl ?_; clear S a; intro a S
      refine l_mv 3 S rfl ?_; clear S a; intro a S
      refine l_nil ?_
      refine e_then ?_
      refine wp_ret ?_
      refine e_then_ret ?_
      refine e_in_ret ?_
      refine e_then_ret ?_
      refine e_in_ret ?_
      refine e_then_ret ?_
      have eR : R = ((inf sg), (ns + (cpl z (⟨#[105, 110, 102, 105, 110, 105, 116, 121]⟩ : ByteArray))), true) := by rw [← hR]; simp only [spc2, bc6, bc25, bc30, cond_true, cond_false]
      clear hR; subst eR
      exact r_ret3 S rfl rfl rfl rfl ⟨rfl, H, by dsimp only; omega⟩
     ·
      have c30 := bc30
      have c30 := ne_of_beq_false c30
      refine wp_skip ?_
      refine e_then ?_
      refine wp_exit ?_
      refine e_in_other rfl ?_
      refine e_then_exit ?_
      refine e_in_exit ?_
      refine e_then ?_
      refine wp_seq ?_
      refine c_region ?_
      refine l_mv 3 S rfl ?_; clear S a; intro a S
      refine l_nil ?_
      refine e_then ?_
      refine wp_ret ?_
      have eR : R = (0, 0, false) := by rw [← hR]; simp only [spc2, bc6, bc25, bc30, cond_true, cond_false]
      clear hR; subst eR
      exact r_ret3 S rfl rfl rfl rfl ⟨rfl, H, by dsimp only; omega⟩
  ·
   refine wp_block ?_
   refine wp_seq ?_
   refine wp_block ?_
   refine wp_seq ?_
   refine wp_seq ?_
   refine wp_seq ?_
   refine wp_seq ?_
   refine c_region ?_
   refine l_pure S (p_eql rfl rfl) rfl rfl rfl ?_; clear S a; intro a S
   refine l_mv 1 S rfl ?_; clear S a; intro a S
   refine l_nil ?_
   refine e_then ?_
   refine c_cond S rfl (fun bc34 => ?_) (fun bc34 => ?_)
   ·
    have c34 := bc34
    have c34 := eq_of_beq c34
    refine wp_skip ?_
    refine e_then ?_
    refine c_cond S rfl (fun _ => ?_) (fun h => by rw [bc34] at h; cases h)
    refine wp_exit ?_
    refine e_then_exit ?_
    refine e_then_exit ?_
    refine e_in_exit ?_
    refine e_then ?_
    refine wp_seq ?_
    refine wp_seq ?_
    refine c_region ?_
    refine l_mv 1 S rfl ?_; clear S a; intro a S
    refine l_pure S (p_index rfl rfl (fun w => ix_string Tryz.underlying9 (by omega) (by omega))) rfl rfl rfl ?_; clear S a; intro a S
    have := bt_rng s 0
    refine l_pure S (p_eql rfl rfl) rfl rfl rfl ?_; clear S a; intro a S
    refine l_nil ?_
    refine e_then ?_
    refine c_cond S rfl (fun bc37 => ?_) (fun bc37 => ?_)
    ·
     have c37 := bc37
     have c37 := eq_of_beq c37
     refine c_region ?_
     refine l_mv 1 S rfl ?_; clear S a; intro a S
     refine l_nil ?_
     refine e_then ?_
     refine wp_seq ?_
     refine c_region ?_
     refine l_mv 1 S rfl ?_; clear S a; intro a S
     refine l_nil ?_
     refine e_then ?_
     refine c_region ?_
     refine l_mv 1 S rfl ?_; clear S a; intro a S
     refine l_pure S (p_slice rfl (o_some rfl) (fun _ _ => o_none) (fun _ _ => o_none) (fun w => sl_string_lo Tryz.underlying9 (by omega) (by omega))) rfl rfl rfl ?_; clear S a; intro a S
     refine l_mv 1 S rfl ?_; clear S a; intro a S
     refine l_nil ?_
     refine e_in 2 ?_
     refine e_then ?_
     exact ⟨(s.extract (1 : Int).toNat s.size), (-1), 1, S.only ⟨rfl, rfl, rfl, rfl, rfl, rfl, trivial⟩, H, by rw [← hR]; simp only [spc, bc3, bc34, bc37, cond_true, cond_false], ⟨by first | exact hs | (rw [ByteArray.size_extract]; omega), by omega⟩⟩
    ·
     have c37 := bc37
     have c37 := ne_of_beq_false c37
     refine wp_skip ?_
     refine e_then ?_
     refine wp_seq ?_
     refine c_region ?_
     refine l_mv 1 S rfl ?_; clear S a; intro a S
     refine l_nil ?_
     refine e_then ?_
     refine c_region ?_
     refine l_mv 1 S rfl ?_; clear S a; intro a S
     refine l_pure S (p_slice rfl (o_some rfl) (fun _ _ => o_none) (fun _ _ => o_none) (fun w => sl_string_lo Tryz.underlying9 (by omega) (by omega))) rfl rfl rfl ?_; clear S a; intro a S
     refine l_mv 1 S rfl ?_; clear S a; intro a S
     refine l_nil ?_
     refine e_in 2 ?_
     refine e_then ?_
     exact ⟨(s.extract (1 : Int).toNat s.size), 1, 1, S.only ⟨rfl, rfl, rfl, rfl, rfl, rfl, trivial⟩, H, by rw [← hR]; simp only [spc, bc3, bc34, bc37, cond_true, cond_false], ⟨by first | exact hs | (rw [ByteArray.size_extract]; omega), by omega⟩⟩
   ·
    have c34 := bc34
    have c34 := ne_of_beq_false c34
    refine c_region ?_
    refine l_pure S (p_eql rfl rfl) rfl rfl rfl ?_; clear S a; intro a S
    refine l_mv 1 S rfl ?_; clear S a; intro a S
    refine l_nil ?_
    refine e_then ?_
    refine c_cond S rfl (fun bc39 => ?_) (fun bc39 => ?_)
    ·
     have c39 := bc39
     have c39 := eq_of_beq c39
     refine wp_exit ?_
     refine e_then_exit ?_
     refine e_then_exit ?_
     refine e_in_exit ?_
     refine e_then ?_
     refine wp_seq ?_
     refine wp_seq ?_
     refine c_region ?_
     refine l_mv 1 S rfl ?_; clear S a; intro a S
     refine l_pure S (p_index rfl rfl (fun w => ix_string Tryz.underlying9 (by omega) (by omega))) rfl rfl rfl ?_; clear S a; intro a S
     have := bt_rng s 0
     refine l_pure S (p_eql rfl rfl) rfl rfl rfl ?_; clear S a; intro a S
     refine l_nil ?_
     refine e_then ?_
     refine c_cond S rfl (fun _ => ?_) (fun h => by rw [bc39] at h; cases h)
     refine c_region ?_
     refine l_mv 1 S rfl ?_; clear S a; intro a S
     refine l_nil ?_
     refine e_then ?_
     refine wp_seq ?_
     refine c_region ?_
     refine l_mv 1 S rfl ?_; clear S a; intro a S
     refine l_nil ?_
     refine e_then ?_
     refine c_region ?_
     refine l_mv 1 S rfl ?_; clear S a; intro a S
     refine l_pure S (p_slice rfl (o_some rfl) (fun _ _ => o_none) (fun _ _ => o_none) (fun w => sl_string_lo Tryz.underlying9 (by omega) (by omega))) rfl rfl rfl ?_; clear S a; intro a S
     refine l_mv 1 S rfl ?_; clear S a; intro a S
     refine l_nil ?_
     refine e_in 2 ?_
     refine e_then ?_
     exact ⟨(s.extract (1 : Int).toNat s.size), (-1), 1, S.only ⟨rfl, rfl, rfl, rfl, rfl, rfl, trivial⟩, H, by rw [← hR]; simp only [spc, bc3, bc34, bc39, cond_true, cond_false], ⟨by first | exact hs | (rw [ByteArray.size_extract]; omega), by omega⟩⟩
    ·
     have c39 := bc39
     have c39 := ne_of_beq_false c39
     refine wp_skip ?_
     refine e_then ?_
     refine wp_seq ?_
     refine wp_seq ?_
     refine wp_seq ?_
     refine c_region ?_
     refine l_pure S (p_eql rfl rfl) rfl rfl rfl ?_; clear S a; intro a S
     refine l_mv 1 S rfl ?_; clear S a; intro a S
     refine l_nil ?_
     refine e_then ?_
     refine c_cond S rfl (fun bc43 => ?_) (fun bc43 => ?_)
     ·
      have c43 := bc43
      have c43 := eq_of_beq c43
      refine wp_skip ?_
      refine e_then ?_
      refine c_cond S rfl (fun _ => ?_) (fun h => by rw [bc43] at h; cases h)
      refine wp_exit ?_
      refine e_then_exit ?_
      refine e_then_exit ?_
      refine e_in_other rfl ?_
      refine e_then_exit ?_
      refine e_in_exit ?_
      refine e_then ?_
      exact ⟨s, 1, 0, S.only ⟨rfl, rfl, rfl, rfl, rfl, rfl, trivial⟩, H, by rw [← hR]; simp only [spc, bc3, bc34, bc39, bc43, cond_true, cond_false], ⟨by first | exact hs | (rw [ByteArray.size_extract]; omega), by omega⟩⟩
     ·
      have c43 := bc43
      have c43 := ne_of_beq_false c43
      refine c_region ?_
      refine l_pure S (p_eql rfl rfl) rfl rfl rfl ?_; clear S a; intro a S
      refine l_mv 1 S rfl ?_; clear S a; intro a S
      refine l_nil ?_
      refine e_then ?_
      refine c_cond S rfl (fun bc46 => ?_) (fun bc46 => ?_)
      ·
       have c46 := bc46
       have c46 := eq_of_beq c46
       refine wp_exit ?_
       refine e_then_exit ?_
       refine e_then_exit ?_
       refine e_in_other rfl ?_
       refine e_then_exit ?_
       refine e_in_exit ?_
       refine e_then ?_
       exact ⟨s, 1, 0, S.only ⟨rfl, rfl, rfl, rfl, rfl, rfl, trivial⟩, H, by rw [← hR]; simp only [spc, bc3, bc34, bc39, bc43, bc46, cond_true, cond_false], ⟨by first | exact hs | (rw [ByteArray.size_extract]; omega), by omega⟩⟩
      ·
       have c46 := bc46
       have c46 := ne_of_beq_false c46
       refine wp_skip ?_
       refine e_then ?_
       refine wp_seq ?_
       refine wp_seq ?_
       refine c_region ?_
       refine l_pure S (p_eql rfl rfl) rfl rfl rfl ?_; clear S a; intro a S
       refine l_mv 1 S rfl ?_; clear S a; intro a S
       refine l_nil ?_
       refine e_then ?_
       refine c_cond S rfl (fun bc48 => ?_) (fun bc48 => ?_)
       ·
        have c48 := bc48
        have c48 := eq_of_beq c48
        refine wp_skip ?_
        refine e_then ?_
        refine c_cond S rfl (fun _ => ?_) (fun h => by rw [bc48] at h; cases h)
        refine wp_exit ?_
        refine e_then_exit ?_
        refine e_in_other rfl ?_
        refine e_then_exit ?_
        refine e_in_other rfl ?_
        refine e_then_exit ?_
        refine e_in_exit ?_
        refine e_then ?_
        refine wp_seq ?_
        refine wp_seq ?_
        refine c_region ?_
        refine l_mv 1 S rfl ?_; clear S a; intro a S
        have hcon := cpl_ wb _ B _ s (⟨#[110, 97, 110]⟩ : ByteArray) (by first | exact hs | exact hz) (by decide) H
        refine l_call S rfl rfl Tryz.func68 rfl rfl (hcon) rfl rfl rfl ?_
        rintro e w ⟨rfl, hH, hc1, hc2⟩
        refine ⟨_, rfl, ?_⟩; clear S a; intro a S
        clear H hcon; have H := hH; clear hH
        replace hc2 : cpl s (⟨#[110, 97, 110]⟩ : ByteArray) ≤ 3 := hc2
        refine l_pure S (p_eql rfl rfl) rfl rfl rfl ?_; clear S a; intro a S
        refine l_nil ?_
        refine e_then ?_
        refine c_cond S rfl (fun bc51 => ?_) (fun bc51 => ?_)
        ·
         have c51 := bc51
         have c51 := eq_of_beq c51
         refine wp_seq ?_
         refine c_region ?_
         have hcon := nan_ wb _ B _ H
         refine l_call S rfl rfl Tryz.func70 rfl rfl (hcon) rfl rfl rfl ?_
         rintro e w ⟨rfl, hH⟩
         refine ⟨_, rfl, ?_⟩; clear S a; intro a S
         clear H hcon; have H := hH; clear hH
         refine l_mv 3 S rfl ?_; clear S a; intro a S
         refine l_nil ?_
         refine e_then ?_
         refine wp_ret ?_
         refine e_then_ret ?_
         refine e_in_ret ?_
         refine e_then_ret ?_
         have eR : R = (9221120237041090561, 3, true) := by rw [← hR]; simp only [spc, bc3, bc34, bc39, bc43, bc46, bc48, bc51, cond_true, cond_false]
         clear hR; subst eR
         exact r_ret3 S rfl rfl rfl rfl ⟨rfl, H, by dsimp only; omega⟩
        ·
         have c51 := bc51
         have c51 := ne_of_beq_false c51
         refine wp_skip ?_
         refine e_then ?_
         refine wp_exit ?_
         refine e_in_exit ?_
         refine e_then ?_
         refine wp_seq ?_
         refine c_region ?_
         refine l_mv 3 S rfl ?_; clear S a; intro a S
         refine l_nil ?_
         refine e_then ?_
         refine wp_ret ?_
         have eR : R = (0, 0, false) := by rw [← hR]; simp only [spc, bc3, bc34, bc39, bc43, bc46, bc48, bc51, cond_true, cond_false]
         clear hR; subst eR
         exact r_ret3 S rfl rfl rfl rfl ⟨rfl, H, by dsimp only; omega⟩
       ·
        have c48 := bc48
        have c48 := ne_of_beq_false c48
        refine c_region ?_
        refine l_pure S (p_eql rfl rfl) rfl rfl rfl ?_; clear S a; intro a S
        refine l_mv 1 S rfl ?_; clear S a; intro a S
        refine l_nil ?_
        refine e_then ?_
        refine c_cond S rfl (fun bc55 => ?_) (fun bc55 => ?_)
        ·
         have c55 := bc55
         have c55 := eq_of_beq c55
         refine wp_exit ?_
         refine e_then_exit ?_
         refine e_in_other rfl ?_
         refine e_then_exit ?_
         refine e_in_other rfl ?_
         refine e_then_exit ?_
         refine e_in_exit ?_
         refine e_then ?_
         refine wp_seq ?_
         refine wp_seq ?_
         refine c_region ?_
         refine l_mv 1 S rfl ?_; clear S a; intro a S
         have hcon := cpl_ wb _ B _ s (⟨#[110, 97, 110]⟩ : ByteArray) (by first | exact hs | exact hz) (by decide) H
         refine l_call S rfl rfl Tryz.func68 rfl rfl (hcon) rfl rfl rfl ?_
         rintro e w ⟨rfl, hH, hc1, hc2⟩
         refine ⟨_, rfl, ?_⟩; clear S a; intro a S
         clear H hcon; have H := hH; clear hH
         replace hc2 : cpl s (⟨#[110, 97, 110]⟩ : ByteArray) ≤ 3 := hc2
         refine l_pure S (p_eql rfl rfl) rfl rfl rfl ?_; clear S a; intro a S
         refine l_nil ?_
         refine e_then ?_
         refine c_cond S rfl (fun bc57 => ?_) (fun bc57 => ?_)
         ·
          have c57 := bc57
          have c57 := eq_of_beq c57
          refine wp_seq ?_
          refine c_region ?_
          have hcon := nan_ wb _ B _ H
          refine l_call S rfl rfl Tryz.func70 rfl rfl (hcon) rfl rfl rfl ?_
          rintro e w ⟨rfl, hH⟩
          refine ⟨_, rfl, ?_⟩; clear S a; intro a S
          clear H hcon; have H := hH; clear hH
          refine l_mv 3 S rfl ?_; clear S a; intro a S
          refine l_nil ?_
          refine e_then ?_
          refine wp_ret ?_
          refine e_then_ret ?_
          refine e_in_ret ?_
          refine e_then_ret ?_
          have eR : R = (9221120237041090561, 3, true) := by rw [← hR]; simp only [spc, bc3, bc34, bc39, bc43, bc46, bc48, bc55, bc57, cond_true, cond_false]
          clear hR; subst eR
          exact r_ret3 S rfl rfl rfl rfl ⟨rfl, H, by dsimp only; omega⟩
         ·
          have c57 := bc57
          have c57 := ne_of_beq_false c57
          refine wp_skip ?_
          refine e_then ?_
          refine wp_exit ?_
          refine e_in_exit ?_
          refine e_then ?_
          refine wp_seq ?_
          refine c_region ?_
          refine l_mv 3 S rfl ?_; clear S a; intro a S
          refine l_nil ?_
          refine e_then ?_
          refine wp_ret ?_
          have eR : R = (0, 0, false) := by rw [← hR]; simp only [spc, bc3, bc34, bc39, bc43, bc46, bc48, bc55, bc57, cond_true, cond_false]
          clear hR; subst eR
          exact r_ret3 S rfl rfl rfl rfl ⟨rfl, H, by dsimp only; omega⟩
        ·
         have c55 := bc55
         have c55 := ne_of_beq_false c55
         refine wp_skip ?_
         refine e_then ?_
         refine wp_exit ?_
         refine e_in_other rfl ?_
         refine e_then_exit ?_
         refine e_in_other rfl ?_
         refine e_then_exit ?_
         refine e_in_other rfl ?_
         refine e_then_exit ?_
         refine e_in_exit ?_
         refine e_then ?_
         refine wp_seq ?_
         refine c_region ?_
         refine l_mv 3 S rfl ?_; clear S a; intro a S
         refine l_nil ?_
         refine e_then ?_
         refine wp_ret ?_
         have eR : R = (0, 0, false) := by rw [← hR]; simp only [spc, bc3, bc34, bc39, bc43, bc46, bc48, bc55, cond_true, cond_false]
         clear hR; subst eR
         exact r_ret3 S rfl rfl rfl rfl ⟨rfl, H, by dsimp only; omega⟩
def pk64 (m : BitVec 64) (e_ : Int) : Nat × Option Int := (bif ((((m &&& 4503599627370496#64)).toNat : Int) == 0) then (((m).toNat), none) else (bif (decide (e_ ≥ 972)) then (((((m &&& 9223372036854775808#64) ||| 9218868437227405312#64)).toNat), (some 1)) else (((((m &&& ~~~ 4503599627370496#64) ||| ((BitVec.ofInt 64 (1075 + e_)) <<< (52 : Nat)))).toNat), none)))
set_option maxHeartbeats 2000000 in
theorem pk64_ (wb w0 : World) (B : Nat) (L0 : List (Nat × Obj)) (m : BitVec 64) (e_ : Int) (he : -100000 ≤ e_ ∧ e_ ≤ 100000) (H : HH B wb w0 L0) : Calls Tryz.prog 81 #[.int .u64 (m.toNat : Int), .int .i64 e_] w0 fun e w' => e = .returned (.tuple #[.float .f64 (pk64 m e_).1, errV 73 (pk64 m e_).2]) ∧ HH B wb w' L0 ∧ ((pk64 m e_).2 = none ∨ (pk64 m e_).2 = some 1) := by
 generalize hR : pk64 m e_ = R
 refine c_enter (args := [.int .u64 (m.toNat : Int), .int .i64 e_]) (k := 24) Tryz.func81 rfl rfl rfl (fun a S => ?_)
 refine wp_seq ?_
 refine c_region ?_
 refine l_mv 2 S rfl ?_; clear S a; intro a S
 refine l_nil ?_
 refine e_then ?_
 refine wp_seq ?_
 refine wp_seq ?_
 refine c_region ?_
 refine l_mv 1 S rfl ?_; clear S a; intro a S
 refine l_pure S (p_and rfl rfl (and64 m 4503599627370496#64)) rfl rfl rfl ?_; clear S a; intro a S
 refine l_pure S (p_eql rfl rfl) rfl rfl rfl ?_; clear S a; intro a S
 refine l_nil ?_
 refine e_then ?_
 refine c_cond S rfl (fun bc2 => ?_) (fun bc2 => ?_)
 ·
  have c2 := bc2
  have c2 := eq_of_beq c2
  refine wp_seq ?_
  refine c_region ?_
  refine l_mv 1 S rfl ?_; clear S a; intro a S
  refine l_pure S (p_ext (v := .float .f64 (m).toNat) rfl (fun w => fb_run m w)) rfl rfl rfl ?_; clear S a; intro a S
  refine l_mv 2 S rfl ?_; clear S a; intro a S
  refine l_nil ?_
  refine e_then ?_
  refine wp_ret ?_
  refine e_then_ret ?_
  have eR : R = (((m).toNat), none) := by rw [← hR]; simp only [pk64, bc2, cond_true, cond_false]
  clear hR; subst eR
  exact r_ret2 S rfl rfl rfl ⟨rfl, H, by first | exact .inl rfl | exact .inr rfl⟩
 ·
  have c2 := bc2
  have c2 := ne_of_beq_false c2
  refine wp_skip ?_
  refine e_then ?_
  refine wp_seq ?_
  refine wp_seq ?_
  refine c_region ?_
  refine l_mv 1 S rfl ?_; clear S a; intro a S
  refine l_pure S (p_geq rfl rfl) rfl rfl rfl ?_; clear S a; intro a S
  refine l_nil ?_
  refine e_then ?_
  refine c_cond S rfl (fun bc4 => ?_) (fun bc4 => ?_)
  ·
   have c4 := bc4
   have c4 := of_decide_eq_true c4
   refine wp_seq ?_
   refine c_region ?_
   refine l_mv 1 S rfl ?_; clear S a; intro a S
   refine l_pure S (p_and rfl rfl (and64 m 9223372036854775808#64)) rfl rfl rfl ?_; clear S a; intro a S
   refine l_pure S (p_or rfl rfl (or64 (m &&& 9223372036854775808#64) 9218868437227405312#64)) rfl rfl rfl ?_; clear S a; intro a S
   refine l_pure S (p_ext (v := .float .f64 (((m &&& 9223372036854775808#64) ||| 9218868437227405312#64)).toNat) rfl (fun w => fb_run ((m &&& 9223372036854775808#64) ||| 9218868437227405312#64) w)) rfl rfl rfl ?_; clear S a; intro a S
   refine l_pure S (p_iface rfl (fun w => mk73 w _)) rfl rfl rfl ?_; clear S a; intro a S
   refine l_mv 2 S rfl ?_; clear S a; intro a S
   refine l_nil ?_
   refine e_then ?_
   refine wp_ret ?_
   refine e_then_ret ?_
   have eR : R = (((((m &&& 9223372036854775808#64) ||| 9218868437227405312#64)).toNat), (some 1)) := by rw [← hR]; simp only [pk64, bc2, bc4, cond_true, cond_false]
   clear hR; subst eR
   exact r_ret2 S rfl rfl rfl ⟨rfl, H, by first | exact .inl rfl | exact .inr rfl⟩
  ·
   have c4 := bc4
   have c4 := of_decide_eq_false c4
   refine wp_skip ?_
   refine e_then ?_
   refine wp_seq ?_
   refine c_region ?_
   refine l_mv 1 S rfl ?_; clear S a; intro a S
   refine l_pure S (p_andnot rfl rfl (andnot64 m 4503599627370496#64)) rfl rfl rfl ?_; clear S a; intro a S
   refine l_mv 1 S rfl ?_; clear S a; intro a S
   refine l_pure S (p_add (r := (1075 + e_)) rfl rfl (IntWalk.i64_in _ (by omega))) rfl rfl rfl ?_; clear S a; intro a S
   refine l_pure S (p_conv rfl (fun w => cv_int (Tryz.underlying3) (Tryz.underlying22) (fz.ofI64 (1075 + e_)))) rfl rfl rfl ?_; clear S a; intro a S
   refine l_pure S (p_shl rfl rfl (by decide) (shl64 (BitVec.ofInt 64 (1075 + e_)) (n := (52 : Nat)) rfl (by decide))) rfl rfl rfl ?_; clear S a; intro a S
   refine l_pure S (p_or rfl rfl (or64 (m &&& ~~~ 4503599627370496#64) ((BitVec.ofInt 64 (1075 + e_)) <<< (52 : Nat)))) rfl rfl rfl ?_; clear S a; intro a S
   refine l_pure S (p_ext (v := .float .f64 (((m &&& ~~~ 4503599627370496#64) ||| ((BitVec.ofInt 64 (1075 + e_)) <<< (52 : Nat)))).toNat) rfl (fun w => fb_run ((m &&& ~~~ 4503599627370496#64) ||| ((BitVec.ofInt 64 (1075 + e_)) <<< (52 : Nat))) w)) rfl rfl rfl ?_; clear S a; intro a S
   refine l_mv 2 S rfl ?_; clear S a; intro a S
   refine l_nil ?_
   refine e_then ?_
   refine wp_ret ?_
   have eR : R = (((((m &&& ~~~ 4503599627370496#64) ||| ((BitVec.ofInt 64 (1075 + e_)) <<< (52 : Nat)))).toNat), none) := by rw [← hR]; simp only [pk64, bc2, bc4, cond_true, cond_false]
   clear hR; subst eR
   exact r_ret2 S rfl rfl rfl ⟨rfl, H, by first | exact .inl rfl | exact .inr rfl⟩
theorem unmin_ (wb w0 : World) (B : Nat) (L0 : List (Nat × Obj)) (H : HH B wb w0 L0) : Calls Tryz.prog 76 #[.int .u64 9007199254740992] w0 fun e w' => e = .returned (.int .u64 36028797018963966) ∧ HH B wb w' L0 := by
 refine c_enter (args := [.int .u64 9007199254740992]) (k := 5) Tryz.func76 rfl rfl rfl (fun a S => ?_)
 refine wp_seq ?_
 refine c_region ?_
 refine l_mv 1 S rfl ?_; clear S a; intro a S
 refine l_nil ?_
 refine e_then ?_
 refine wp_seq ?_
 refine c_region ?_
 refine l_mv 1 S rfl ?_; clear S a; intro a S
 refine l_pure S (p_shl (r := 36028797018963968) rfl rfl (by decide) (by decide)) rfl rfl rfl ?_; clear S a; intro a S
 refine l_pure S (p_sub (r := 36028797018963966) rfl rfl (by decide)) rfl rfl rfl ?_; clear S a; intro a S
 refine l_mv 1 S rfl ?_; clear S a; intro a S
 refine l_nil ?_
 refine e_then ?_
 refine wp_ret ?_
 exact r_ret1 S rfl rfl ⟨rfl, H⟩
end s2
end Go.Proofs.YtneoieigaakoaaaGreatDoor.pf
end
section
namespace Go.Proofs
open Go.RowKit Go.Shelf Go.Lib
def Tryz.flays129_ren : Go.Shelf.Ren := ⟨fun | 129 => 71 | n => n, fun | 53 => 22 | 3 => 3 | 4 => 4 | 46 => 87 | 5 => 5 | 9 => 9 | n => n, fun | n => n⟩
theorem Tryz.flays129 : Go.Proofs.Lays.n129 Tryz.prog Tryz.flays129_ren := {
 mixed := by kernel_rfl
 f129 := Tryz.func71.trans (congrArg some (by kernel_rfl))
 t3 := Tryz.underlying3
 a3 := Tryz.isAgg3
 z3 := Tryz.sizeOf3
 v3 := Tryz.zeroValue3
 t4 := Tryz.underlying4
 a4 := Tryz.isAgg4
 z4 := Tryz.sizeOf4
 v4 := Tryz.zeroValue4
 t5 := Tryz.underlying5
 a5 := Tryz.isAgg5
 z5 := Tryz.sizeOf5
 v5 := Tryz.zeroValue5
 t9 := Tryz.underlying9
 a9 := Tryz.isAgg9
 z9 := Tryz.sizeOf9
 v9 := Tryz.zeroValue9
 t46 := Tryz.underlying87
 a46 := Tryz.isAgg87
 z46 := Tryz.sizeOf87
 v46 := Tryz.zeroValue87
 t53 := Tryz.underlying22
 a53 := Tryz.isAgg22
 z53 := Tryz.sizeOf22
 v53 := Tryz.zeroValue22 }
def Tryz.flays264_ren : Go.Shelf.Ren := ⟨fun | 264 => 83 | n => n, fun | 53 => 22 | 46 => 87 | n => n, fun | n => n⟩
theorem Tryz.flays264 : Go.Proofs.Lays.n264 Tryz.prog Tryz.flays264_ren := {
 mixed := by kernel_rfl
 f264 := Tryz.func83.trans (congrArg some (by kernel_rfl))
 t46 := Tryz.underlying87
 a46 := Tryz.isAgg87
 z46 := Tryz.sizeOf87
 v46 := Tryz.zeroValue87
 t53 := Tryz.underlying22
 a53 := Tryz.isAgg22
 z53 := Tryz.sizeOf22
 v53 := Tryz.zeroValue22 }
namespace YtneoieigaakoaaaGreatDoor.fz.li
open Go.Proofs.HHW Go.Proofs.YtneoieigaakoaaaGreatDoorW.PrintWords
theorem len64_ (x : BitVec 64) (w : World) : Calls Tryz.prog 71 #[.int .u64 (x.toNat : Int)] w fun e w' => e = .returned (.int .i64 ((Lib.bitLen x.toNat : Nat) : Int)) ∧ w' = w := by
 have h := Any.bits_Len64 Tryz.flays129 (x.toNat : Int) w (by omega) (by have := x.isLt; omega)
 rw [Int.toNat_natCast] at h
 exact h
theorem mul64_ (x y : BitVec 64) (w : World) : Calls Tryz.prog 83 #[.int .u64 (x.toNat : Int), .int .u64 (y.toNat : Int)] w fun e w' => e = .returned (.tuple #[.int .u64 ((fz.mulHi x y).toNat : Int), .int .u64 ((x * y).toNat : Int)]) ∧ w' = w := by
 have h := Any.bits_Mul64 Tryz.flays264 x.toNat y.toNat x.isLt y.isLt w
 rw [fz.mulHi_, fz.mulLo_] at h
 exact h
end YtneoieigaakoaaaGreatDoor.fz.li
end Go.Proofs
end
section
namespace Go.Proofs.YtneoieigaakoaaaGreatDoor.fz
open Go.Proofs.YtneoieigaakoaaaGreatDoor.fx
open Go.RowKit Go.Proofs.HHW Go.Proofs.YtneoieigaakoaaaGreatDoorW.PrintWords
namespace sm
theorem fa128_0 (w : World) (g o : Nat) : (Instr.fieldAt 128 (.pointer (some ⟨g, o, none⟩)) 0).run Tryz.prog w = .ok (.pointer (some ⟨g, o + 0, none⟩)) w := by kernel_rfl
theorem fa128_1 (w : World) (g o : Nat) : (Instr.fieldAt 128 (.pointer (some ⟨g, o, none⟩)) 1).run Tryz.prog w = .ok (.pointer (some ⟨g, o + 1, none⟩)) w := by kernel_rfl
theorem fa143_0 (w : World) (g o : Nat) : (Instr.fieldAt 143 (.pointer (some ⟨g, o, none⟩)) 0).run Tryz.prog w = .ok (.pointer (some ⟨g, o + 0, none⟩)) w := by kernel_rfl
theorem fa143_1 (w : World) (g o : Nat) : (Instr.fieldAt 143 (.pointer (some ⟨g, o, none⟩)) 1).run Tryz.prog w = .ok (.pointer (some ⟨g, o + 1, none⟩)) w := by kernel_rfl
theorem sz143 : szB Tryz.prog 143 = some 2 := by kernel_rfl
theorem b2i_ (wb w0 : World) (B : Nat) (L0 : List (Nat × Obj)) (b : Bool) (H : HH B wb w0 (L0)) : Calls Tryz.prog 75 #[.bool b] w0 fun e w' => e = .returned (.int .i64 (fz.b2i b)) ∧ HH B wb w' (L0) := by
 refine c_enter (args := [.bool b]) (k := 3) Tryz.func75 rfl rfl rfl (fun a S => ?_)
 refine wp_seq ?_
 refine c_region ?_
 refine l_mv 1 S rfl ?_; clear S a; intro a S
 refine l_nil ?_
 refine e_then ?_
 refine wp_seq ?_
 refine wp_seq ?_
 refine c_region ?_
 refine l_mv 1 S rfl ?_; clear S a; intro a S
 refine l_nil ?_
 refine e_then ?_
 refine c_cond S rfl (fun bc2 => ?_) (fun bc2 => ?_)
 ·
  have c2 := bc2
  refine wp_seq ?_
  refine c_region ?_
  refine l_mv 1 S rfl ?_; clear S a; intro a S
  refine l_nil ?_
  refine e_then ?_
  refine wp_ret ?_
  refine e_then_ret ?_
  subst bc2; exact r_ret1 S rfl rfl ⟨rfl, H⟩
 ·
  have c2 := bc2
  refine wp_skip ?_
  refine e_then ?_
  refine wp_seq ?_
  refine c_region ?_
  refine l_mv 1 S rfl ?_; clear S a; intro a S
  refine l_nil ?_
  refine e_then ?_
  refine wp_ret ?_
  subst bc2; exact r_ret1 S rfl rfl ⟨rfl, H⟩
theorem b2u_ (wb w0 : World) (B : Nat) (L0 : List (Nat × Obj)) (b : Bool) (H : HH B wb w0 (L0)) : Calls Tryz.prog 61 #[.bool b] w0 fun e w' => e = .returned (.int .u64 ((fz.b2 b).toNat : Int)) ∧ HH B wb w' (L0) := by
 refine c_enter (args := [.bool b]) (k := 3) Tryz.func61 rfl rfl rfl (fun a S => ?_)
 refine wp_seq ?_
 refine c_region ?_
 refine l_mv 1 S rfl ?_; clear S a; intro a S
 refine l_nil ?_
 refine e_then ?_
 refine wp_seq ?_
 refine wp_seq ?_
 refine c_region ?_
 refine l_mv 1 S rfl ?_; clear S a; intro a S
 refine l_nil ?_
 refine e_then ?_
 refine c_cond S rfl (fun bc2 => ?_) (fun bc2 => ?_)
 ·
  have c2 := bc2
  refine wp_seq ?_
  refine c_region ?_
  refine l_mv 1 S rfl ?_; clear S a; intro a S
  refine l_nil ?_
  refine e_then ?_
  refine wp_ret ?_
  refine e_then_ret ?_
  subst bc2; exact r_ret1 S rfl rfl ⟨rfl, H⟩
 ·
  have c2 := bc2
  refine wp_skip ?_
  refine e_then ?_
  refine wp_seq ?_
  refine c_region ?_
  refine l_mv 1 S rfl ?_; clear S a; intro a S
  refine l_nil ?_
  refine e_then ?_
  refine wp_ret ?_
  subst bc2; exact r_ret1 S rfl rfl ⟨rfl, H⟩
theorem lg2_ (wb w0 : World) (B : Nat) (L0 : List (Nat × Obj)) (x : Int) (hx : -10000 ≤ x ∧ x ≤ 10000) (H : HH B wb w0 (L0)) : Calls Tryz.prog 72 #[.int .i64 x] w0 fun e w' => e = .returned (.int .i64 (fz.lg2 x)) ∧ HH B wb w' (L0) := by
 refine c_enter (args := [.int .i64 x]) (k := 5) Tryz.func72 rfl rfl rfl (fun a S => ?_)
 refine wp_seq ?_
 refine c_region ?_
 refine l_mv 1 S rfl ?_; clear S a; intro a S
 refine l_nil ?_
 refine e_then ?_
 refine wp_seq ?_
 refine c_region ?_
 refine l_mv 1 S rfl ?_; clear S a; intro a S
 refine l_pure S (p_mul (r := (x * 108853)) rfl rfl (IntWalk.i64_in _ (by omega))) rfl rfl rfl ?_; clear S a; intro a S
 refine l_pure S (p_shr (r := ((x * 108853) / 32768)) rfl rfl (by decide) (fz.shrI (x * 108853) (n := 15) rfl (by decide) (by decide))) rfl rfl rfl ?_; clear S a; intro a S
 refine l_mv 1 S rfl ?_; clear S a; intro a S
 refine l_nil ?_
 refine e_then ?_
 refine wp_ret ?_
 exact r_ret1 S rfl rfl ⟨rfl, H⟩
theorem rnd_ (wb w0 : World) (B : Nat) (L0 : List (Nat × Obj)) (u : BitVec 64) (H : HH B wb w0 (L0)) : Calls Tryz.prog 78 #[.int .u64 (u.toNat : Int)] w0 fun e w' => e = .returned (.int .u64 ((fz.rnd u).toNat : Int)) ∧ HH B wb w' (L0) := by
 refine c_enter (args := [.int .u64 (u.toNat : Int)]) (k := 9) Tryz.func78 rfl rfl rfl (fun a S => ?_)
 refine wp_seq ?_
 refine c_region ?_
 refine l_mv 1 S rfl ?_; clear S a; intro a S
 refine l_nil ?_
 refine e_then ?_
 refine wp_seq ?_
 refine c_region ?_
 refine l_mv 1 S rfl ?_; clear S a; intro a S
 refine l_pure S (p_add rfl rfl (add64 u 1#64)) rfl rfl rfl ?_; clear S a; intro a S
 refine l_mv 1 S rfl ?_; clear S a; intro a S
 refine l_pure S (p_shr rfl rfl (by decide) (shr64 u (n := (2 : Nat)) rfl (by decide))) rfl rfl rfl ?_; clear S a; intro a S
 refine l_pure S (p_and rfl rfl (and64 (u >>> (2 : Nat)) 1#64)) rfl rfl rfl ?_; clear S a; intro a S
 refine l_pure S (p_add rfl rfl (add64 (u + 1#64) ((u >>> (2 : Nat)) &&& 1#64))) rfl rfl rfl ?_; clear S a; intro a S
 refine l_pure S (p_shr rfl rfl (by decide) (shr64 ((u + 1#64) + ((u >>> (2 : Nat)) &&& 1#64)) (n := (2 : Nat)) rfl (by decide))) rfl rfl rfl ?_; clear S a; intro a S
 refine l_mv 1 S rfl ?_; clear S a; intro a S
 refine l_nil ?_
 refine e_then ?_
 refine wp_ret ?_
 exact r_ret1 S rfl rfl ⟨rfl, H⟩
theorem prescale_ (wb w0 : World) (B : Nat) (L0 : List (Nat × Obj)) (hT : fz.PTab 13 B wb) (gp : Nat) (e_ p lp : Int) (he : -100000 ≤ e_ ∧ e_ ≤ 100000) (hp : -348 ≤ p ∧ p ≤ 347) (hlp : -100000 ≤ lp ∧ lp ≤ 100000) (H : HH B wb w0 ((gp, .cells #[.int .u64 0, .int .u64 0, .int .i64 0] 128 (0, 0)) :: L0)) : Calls Tryz.prog 73 #[.pointer (some ⟨gp, 0, none⟩), .int .i64 e_, .int .i64 p, .int .i64 lp] w0 fun e w' => e = .returned (.tuple #[]) ∧ HH B wb w' ((gp, .cells #[.int .u64 ((fz.pHi p).toNat : Int), .int .u64 ((fz.pLo p).toNat : Int), .int .i64 (-(e_ + lp + 3))] 128 (0, 0)) :: L0) := by
 refine c_enter (args := [.pointer (some ⟨gp, 0, none⟩), .int .i64 e_, .int .i64 p, .int .i64 lp]) (k := 28) Tryz.func73 rfl rfl rfl (fun a S => ?_)
 refine wp_seq ?_
 refine c_region ?_
 refine l_mv 2 S rfl ?_; clear S a; intro a S
 refine l_pure S (p_sub (r := (p - (-348))) rfl rfl (IntWalk.i64_in _ (by omega))) rfl rfl rfl ?_; clear S a; intro a S
 refine l_pure S (p_indexAddr rfl rfl (fun w => ia_array Tryz.underlying144 sz143 (by omega) (by omega))) rfl rfl rfl ?_; clear S a; intro a S
 refine l_pure S (p_fieldAddr rfl (fun w => fa143_0 w _ _)) rfl rfl rfl ?_; clear S a; intro a S
 refine l_read S H (r_loadG rfl (hT.hi hp.1 hp.2) hT.lt ag22) rfl rfl rfl ?_; clear S a; intro a S
 refine l_mv 1 S rfl ?_; clear S a; intro a S
 refine l_pure S (p_fieldAddr rfl (fun w => fa128_0 w _ _)) rfl rfl rfl ?_; clear S a; intro a S
 refine l_store S H rfl rfl rfl .here (by first | decide | simp [Value.cells]) (fun w u hc hz => st1 sz22 rfl hc hz) rfl rfl ?_; clear S a H; intro w a H S
 refine l_nil ?_
 refine e_then ?_
 refine wp_seq ?_
 refine c_region ?_
 refine l_mv 2 S rfl ?_; clear S a; intro a S
 refine l_pure S (p_sub (r := (p - (-348))) rfl rfl (IntWalk.i64_in _ (by omega))) rfl rfl rfl ?_; clear S a; intro a S
 refine l_pure S (p_indexAddr rfl rfl (fun w => ia_array Tryz.underlying144 sz143 (by omega) (by omega))) rfl rfl rfl ?_; clear S a; intro a S
 refine l_pure S (p_fieldAddr rfl (fun w => fa143_1 w _ _)) rfl rfl rfl ?_; clear S a; intro a S
 refine l_read S H (r_loadG rfl (hT.lo hp.1 hp.2) hT.lt ag22) rfl rfl rfl ?_; clear S a; intro a S
 refine l_mv 1 S rfl ?_; clear S a; intro a S
 refine l_pure S (p_fieldAddr rfl (fun w => fa128_1 w _ _)) rfl rfl rfl ?_; clear S a; intro a S
 refine l_store S H rfl rfl rfl .here (by first | decide | simp [Value.cells]) (fun w u hc hz => st1 sz22 rfl hc hz) rfl rfl ?_; clear S a H; intro w a H S
 refine l_nil ?_
 refine e_then ?_
 refine c_region ?_
 refine l_mv 3 S rfl ?_; clear S a; intro a S
 refine l_pure S (p_add (r := (e_ + lp)) rfl rfl (IntWalk.i64_in _ (by omega))) rfl rfl rfl ?_; clear S a; intro a S
 refine l_pure S (p_add (r := ((e_ + lp) + 3)) rfl rfl (IntWalk.i64_in _ (by omega))) rfl rfl rfl ?_; clear S a; intro a S
 refine l_pure S (p_un rfl (fun w => fz.neg64 (by omega) w)) rfl rfl rfl ?_; clear S a; intro a S
 refine l_mv 1 S rfl ?_; clear S a; intro a S
 refine l_pure S (p_fieldAddr rfl (fun w => fa128_2 w _ _)) rfl rfl rfl ?_; clear S a; intro a S
 refine l_store S H rfl rfl rfl .here (by first | decide | simp [Value.cells]) (fun w u hc hz => st1 sz3 rfl hc hz) rfl rfl ?_; clear S a H; intro w a H S
 refine l_nil ?_
 exact r_end0 S rfl ⟨rfl, H⟩
theorem uscale_ (wb w0 : World) (B : Nat) (L0 : List (Nat × Obj)) (gp : Nat) (x h l : BitVec 64) (s : Nat) (hs : s ≤ 100000) (H : HH B wb w0 ((gp, .cells #[.int .u64 (h.toNat : Int), .int .u64 (l.toNat : Int), .int .i64 (s : Int)] 128 (0, 0)) :: L0)) : Calls Tryz.prog 74 #[.int .u64 (x.toNat : Int), .pointer (some ⟨gp, 0, none⟩)] w0 fun e w' => e = .returned (.int .u64 ((fz.usc x h l (s % 64)).toNat : Int)) ∧ HH B wb w' ((gp, .cells #[.int .u64 (h.toNat : Int), .int .u64 (l.toNat : Int), .int .i64 (s : Int)] 128 (0, 0)) :: L0) := by
 refine c_enter (args := [.int .u64 (x.toNat : Int), .pointer (some ⟨gp, 0, none⟩)]) (k := 57) Tryz.func74 rfl rfl rfl (fun a S => ?_)
 refine wp_seq ?_
 refine c_region ?_
 refine l_mv 1 S rfl ?_; clear S a; intro a S
 refine l_nil ?_
 refine e_then ?_
 refine wp_seq ?_
 refine c_region ?_
 refine l_mv 3 S rfl ?_; clear S a; intro a S
 refine l_pure S (p_fieldAddr rfl (fun w => fa128_0 w _ _)) rfl rfl rfl ?_; clear S a; intro a S
 refine l_read S H (r_load rfl List.mem_cons_self rfl (fun w hc => ld1 ag22 hc)) rfl rfl rfl ?_; clear S a; intro a S
 refine l_call S rfl rfl Tryz.func83 rfl rfl (li.mul64_ x h _) rfl rfl rfl ?_
 rintro e w' ⟨rfl, rfl⟩
 refine ⟨_, rfl, ?_⟩; clear S a; intro a S
 refine l_mv 5 S rfl ?_; clear S a; intro a S
 refine l_nil ?_
 refine e_then ?_
 refine wp_seq ?_
 refine c_region ?_
 refine l_mv 2 S rfl ?_; clear S a; intro a S
 refine l_pure S (p_fieldAddr rfl (fun w => fa128_2 w _ _)) rfl rfl rfl ?_; clear S a; intro a S
 refine l_read S H (r_load rfl List.mem_cons_self rfl (fun w hc => ld1 ag3 hc)) rfl rfl rfl ?_; clear S a; intro a S
 refine l_pure S (p_and rfl rfl (nat_mask 6 (by decide) (x := s) (by omega) rfl)) rfl rfl rfl ?_; clear S a; intro a S
 refine l_mv 1 S rfl ?_; clear S a; intro a S
 refine l_nil ?_
 refine e_then ?_
 refine wp_seq ?_
 refine wp_seq ?_
 refine c_region ?_
 refine l_mv 2 S rfl ?_; clear S a; intro a S
 refine l_pure S (p_shr rfl rfl (by omega) (shr64 (fz.mulHi x h) (n := ((s % 64))) rfl (by omega))) rfl rfl rfl ?_; clear S a; intro a S
 refine l_mv 1 S rfl ?_; clear S a; intro a S
 refine l_pure S (p_shl rfl rfl (by omega) (shl64 ((fz.mulHi x h) >>> ((s % 64))) (n := ((s % 64))) rfl (by omega))) rfl rfl rfl ?_; clear S a; intro a S
 refine l_mv 1 S rfl ?_; clear S a; intro a S
 refine l_pure S (p_neq rfl rfl) rfl rfl rfl ?_; clear S a; intro a S
 refine l_nil ?_
 refine e_then ?_
 refine c_cond S rfl (fun bc2 => ?_) (fun bc2 => ?_)
 ·
  have c2 := bc2
  have c2 := bne_iff_ne.1 c2
  refine wp_seq ?_
  refine c_region ?_
  refine l_mv 2 S rfl ?_; clear S a; intro a S
  refine l_pure S (p_shr rfl rfl (by omega) (shr64 (fz.mulHi x h) (n := ((s % 64))) rfl (by omega))) rfl rfl rfl ?_; clear S a; intro a S
  refine l_pure S (p_or rfl rfl (or64 ((fz.mulHi x h) >>> ((s % 64))) 1#64)) rfl rfl rfl ?_; clear S a; intro a S
  refine l_mv 1 S rfl ?_; clear S a; intro a S
  refine l_nil ?_
  refine e_then ?_
  refine wp_ret ?_
  refine e_then_ret ?_
  exact r_ret1 S rfl rfl ⟨by simp only [fz.usc, bc2, cond_true, cond_false], H⟩
 ·
  have c2 := bc2
  have c2 := bne_eq_false_iff_eq.1 c2
  refine wp_skip ?_
  refine e_then ?_
  refine wp_seq ?_
  refine c_region ?_
  refine l_mv 3 S rfl ?_; clear S a; intro a S
  refine l_pure S (p_fieldAddr rfl (fun w => fa128_1 w _ _)) rfl rfl rfl ?_; clear S a; intro a S
  refine l_read S H (r_load rfl List.mem_cons_self rfl (fun w hc => ld1 ag22 hc)) rfl rfl rfl ?_; clear S a; intro a S
  refine l_call S rfl rfl Tryz.func83 rfl rfl (li.mul64_ x l _) rfl rfl rfl ?_
  rintro e w' ⟨rfl, rfl⟩
  refine ⟨_, rfl, ?_⟩; clear S a; intro a S
  refine l_mv 5 S rfl ?_; clear S a; intro a S
  refine l_nil ?_
  refine e_then ?_
  refine wp_seq ?_
  refine c_region ?_
  refine l_mv 3 S rfl ?_; clear S a; intro a S
  refine l_pure S (p_lss rfl rfl) rfl rfl rfl ?_; clear S a; intro a S
  have hcon := b2u_ wb _ B _ (decide ((((x * h)).toNat : Int) < (((fz.mulHi x l)).toNat : Int))) H
  refine l_call S rfl rfl Tryz.func61 rfl rfl (hcon) rfl rfl rfl ?_
  rintro e w ⟨rfl, hH⟩
  refine ⟨_, rfl, ?_⟩; clear S a; intro a S
  clear H hcon; have H := hH; clear hH
  refine l_pure S (p_sub rfl rfl (sub64 (fz.mulHi x h) (fz.b2 (decide ((((x * h)).toNat : Int) < (((fz.mulHi x l)).toNat : Int)))))) rfl rfl rfl ?_; clear S a; intro a S
  refine l_mv 1 S rfl ?_; clear S a; intro a S
  refine l_nil ?_
  refine e_then ?_
  refine wp_seq ?_
  refine d_start (id := 7) [] 10 #[false, false, false, false, false, false, false, false, false, false] H rfl rfl rfl (fun w H => ?_)
  refine d_mv [0, 1, 3, 4] #[true, true, false, true, true, false, false, false, false, false] S rfl (by kernel_rfl) (fun _ _ _ _ _ h => h) ?_; clear S a; intro a S
  refine d_pure (i := 2) #[true, true, true, true, true, false, false, false, false, false] S rfl (p_shr rfl rfl (by omega) (shr64 ((fz.mulHi x h) - (fz.b2 (decide ((((x * h)).toNat : Int) < (((fz.mulHi x l)).toNat : Int))))) (n := ((s % 64))) rfl (by omega))) (wanted_none rfl) rfl rfl (by kernel_rfl) (fun _ _ _ h => h) ?_; clear S a; intro a S
  refine d_pure (i := 5) #[true, true, true, true, true, true, false, false, false, false] S rfl (p_sub rfl rfl (sub64 (x * h) (fz.mulHi x l))) (wanted_none rfl) rfl rfl (by kernel_rfl) (fun _ _ _ h => h) ?_; clear S a; intro a S
  refine d_pure (i := 6) #[true, true, true, true, true, true, true, false, false, false] S rfl (p_gtr rfl rfl) (wanted_none rfl) rfl rfl (by kernel_rfl) (fun _ _ _ h => h) ?_; clear S a; intro a S
  have hcon := b2u_ wb _ B _ (decide (((((x * h) - (fz.mulHi x l))).toNat : Int) > 1)) H
  refine d_call (i := 7) #[true, true, true, true, true, true, true, true, false, false] S rfl rfl rfl Tryz.func61 rfl rfl hcon (wanted_none rfl) rfl rfl (by kernel_rfl) rfl ?_
  rintro e w ⟨rfl, hH⟩; refine ⟨_, rfl, hH, ?_⟩; clear hcon H; have H := hH; clear hH; clear S a; intro a S
  refine d_pure (i := 8) #[true, true, true, true, true, true, true, true, true, false] S rfl (p_or rfl rfl (or64 (((fz.mulHi x h) - (fz.b2 (decide ((((x * h)).toNat : Int) < (((fz.mulHi x l)).toNat : Int))))) >>> ((s % 64))) (fz.b2 (decide (((((x * h) - (fz.mulHi x l))).toNat : Int) > 1))))) (wanted_none rfl) rfl rfl (by kernel_rfl) (fun _ _ _ h => h) ?_; clear S a; intro a S
  refine d_mv [9] #[true, true, true, true, true, true, true, true, true, true] S rfl (by kernel_rfl) (fun _ _ _ _ _ h => h) ?_; clear S a; intro a S
  refine d_done (by kernel_rfl) ?_
  refine e_then ?_
  refine wp_ret ?_
  exact r_ret1 S rfl rfl ⟨by simp only [fz.usc, bc2, cond_true, cond_false], H⟩
end sm
end Go.Proofs.YtneoieigaakoaaaGreatDoor.fz
end
section
namespace Go.Proofs.YtneoieigaakoaaaGreatDoor.pf
open Go.Proofs.YtneoieigaakoaaaGreatDoor.fx
open Go.RowKit Go.Proofs.HHW Go.Proofs.YtneoieigaakoaaaGreatDoorW.PrintWords
theorem shl64b (x : BitVec 64) {i : Int} {n : Nat} (hi : i = (n : Int)) (hn : n ≤ 64) : IntKind.u64.wrap ((x.toNat : Int) * 2 ^ (min i.toNat IntKind.u64.bits)) = ((x <<< n).toNat : Int) := by
 rcases Nat.lt_or_ge n 64 with h | h
 ·
  exact shl64 x hi h
 ·
  have e : n = 64 := by omega
  subst e hi
  rw [show min ((64 : Nat) : Int).toNat IntKind.u64.bits = 64 by decide, IntKind.wrap_u64, BitVec.toNat_shiftLeft, Nat.shiftLeft_eq]
  omega
def nn (b : Nat) : Prop := fl.rung b ≤ 9218868437227405312
theorem nn_word (s : Bool) {r : Nat} (h : r ≤ 9218868437227405312) : nn (Ieee.double.word s r) := by
 unfold nn fl.rung Ieee.Format.word
 rw [fl.sw]
 split <;> omega
theorem nn_nearest (s : Bool) (m : Nat) (i : Int) : nn (Ieee.double.nearest s m i) := by
 unfold Ieee.Format.nearest
 split
 ·
  exact nn_word s (by decide)
 ·
  refine nn_word s ?_
  rw [fl.ir]
  exact Nat.min_le_right _ _
theorem nn_num (s : Bool) (m : Nat) (i : Int) : nn (Ieee.double.write (.number s m i)) := nn_nearest s m i
theorem nn_inf (s : Bool) : nn (Ieee.double.write (.infinity s)) := nn_word s (Nat.le_of_eq fl.ir)
def fmul (x y : Nat) : Nat := (Ieee.double.mul x y).getD 0
def fdiv (x y : Nat) : Nat := (Ieee.double.div x y).getD 0
def i2f (x : BitVec 64) : Nat := FloatKind.f64.nearest (x.toNat : Int)
def fneg (x : Nat) : Nat := Op.negFloat .f64 x
theorem nn_i2f (x : BitVec 64) : nn (i2f x) := nn_num _ _ _
theorem nn_neg {x : Nat} (h : nn x) : nn (fneg x) := by
 unfold nn fl.rung at *
 unfold fneg Op.negFloat
 rw [show FloatKind.f64.format = Ieee.double from rfl, show Ieee.double.exponentBits + Ieee.double.fractionBits = 63 from rfl]
 rw [show (9223372036854775808 : Nat) = 2 ^ 63 from by decide] at *
 rw [Nat.xor_mod_two_pow, Nat.mod_self, Nat.xor_zero]
 exact h
theorem nn_read {x : Nat} (h : nn x) : (∃ s m i, Ieee.double.read x = .number s m i) ∨ ∃ s, Ieee.double.read x = .infinity s := by
 unfold nn at h
 rcases Nat.lt_or_ge (fl.rung x) 4503599627370496 with h1 | h1
 ·
  exact .inl ⟨_, _, _, fl.rdS h1⟩
 ·
  rcases Nat.lt_or_ge (fl.rung x) 9218868437227405312 with h2 | h2
  ·
   exact .inl ⟨_, _, _, fl.rdN (by omega) h2⟩
  ·
   exact .inr ⟨_, fl.rdI (by omega)⟩
def fz0 (b : Nat) : Prop := 0 < fl.rung b ∧ fl.rung b < 9218868437227405312
theorem fz0_read {x : Nat} (h : fz0 x) : ∃ s m i, Ieee.double.read x = .number s m i ∧ m ≠ 0 := by
 rcases Nat.lt_or_ge (fl.rung x) 4503599627370496 with h1 | h1
 ·
  exact ⟨_, _, _, fl.rdS h1, by have := h.1; omega⟩
 ·
  exact ⟨_, _, _, fl.rdN (by omega) h.2, by omega⟩
theorem mul_some {x y : Nat} (hx : nn x) (hy : fz0 y) : Ieee.double.mul x y = some (fmul x y) ∧ nn (fmul x y) := by
 obtain ⟨t, n, j, ey, hn⟩ := fz0_read hy
 rcases nn_read hx with ⟨s, m, i, ex⟩ | ⟨s, ex⟩
 ·
  have e : Ieee.double.mul x y = some (Ieee.double.write (.number (s ^^ t) (m * n) (i + j))) := by
   unfold Ieee.Format.mul; rw [ex, ey]; rfl
  unfold fmul
  rw [e]
  exact ⟨rfl, nn_num _ _ _⟩
 ·
  have e : Ieee.double.mul x y = some (Ieee.double.write (.infinity (s ^^ t))) := by
   unfold Ieee.Format.mul; rw [ex, ey]; simp only [Ieee.Datum.product, if_neg hn]; rfl
  unfold fmul
  rw [e]
  exact ⟨rfl, nn_inf _⟩
theorem div_some {x y : Nat} (hx : nn x) (hy : fz0 y) : Ieee.double.div x y = some (fdiv x y) := by
 obtain ⟨t, n, j, ey, hn⟩ := fz0_read hy
 rcases nn_read hx with ⟨s, m, i, ex⟩ | ⟨s, ex⟩
 ·
  have e : ∃ r, Ieee.double.div x y = some r := by
   unfold Ieee.Format.div; rw [ex, ey]; simp only [Ieee.Datum.quotient, if_neg hn]; exact ⟨_, rfl⟩
  obtain ⟨r, e⟩ := e
  unfold fdiv
  rw [e]; rfl
 ·
  have e : ∃ r, Ieee.double.div x y = some r := by
   unfold Ieee.Format.div; rw [ex, ey]; exact ⟨_, rfl⟩
  obtain ⟨r, e⟩ := e
  unfold fdiv
  rw [e]; rfl
section
variable {P : Program} {F : List (Nat × Value)}
theorem p_fmul {t t' : TypeId} {x y : Operand} {m n : Nat} (hx : ev F x = some (.float .f64 m)) (hy : ev F y = some (.float .f64 n)) (h : Ieee.double.mul m n = some (fmul m n)) : Pure P F (.binOp .mul t x y t') (.float .f64 (fmul m n)) :=
 p_bin hx hy (fun _ => rfl) (fun w => by
  show (Op.floatArith .mul .f64 m n).run P w = _
  unfold Op.floatArith
  simp only [show FloatKind.f64.format = Ieee.double from rfl, h]
  rfl)
theorem p_fquo {t t' : TypeId} {x y : Operand} {m n : Nat} (hx : ev F x = some (.float .f64 m)) (hy : ev F y = some (.float .f64 n)) (h : Ieee.double.div m n = some (fdiv m n)) : Pure P F (.binOp .quo t x y t') (.float .f64 (fdiv m n)) :=
 p_bin hx hy (fun _ => rfl) (fun w => by
  show (Op.floatArith .quo .f64 m n).run P w = _
  unfold Op.floatArith
  simp only [show FloatKind.f64.format = Ieee.double from rfl, h]
  rfl)
theorem p_flss {t t' : TypeId} {x y : Operand} {m n : Nat} (hx : ev F x = some (.float .f64 m)) (hy : ev F y = some (.float .f64 n)) : Pure P F (.binOp .lss t x y t') (.bool (Ieee.double.order m n == some .lt)) := p_bin hx hy (fun _ => rfl) (fun _ => rfl)
theorem p_fneg {t : TypeId} {x : Operand} {m : Nat} (hx : ev F x = some (.float .f64 m)) : Pure P F (.unOp .neg t x) (.float .f64 (fneg m)) := p_un hx (fun _ => rfl)
theorem r_ptrne {B : Nat} {w0 : World} {L : List (Nat × Obj)} {t t' e : TypeId} {x y : Operand} {g g' n : Nat} (hp : P.underlying t = some (.pointer e)) (hs : szB P e = some (n + 1))
  (hx : ev F x = some (.pointer (some ⟨g, 0, none⟩))) (hy : ev F y = some (.pointer (some ⟨g', 0, none⟩))) (hne : g ≠ g') (hg : ∃ c t, w0.heap[g]? = some (.cells c t (0, 0)) ∧ c.size ≠ 0) (hg' : ∃ c t, w0.heap[g']? = some (.cells c t (0, 0)) ∧ c.size ≠ 0) (hl : g < B) (hl' : g' < B)
  (he : ∀ w, (eqGuard .eql t x y (.pointer (some ⟨g, 0, none⟩)) (.pointer (some ⟨g', 0, none⟩))).run P w = .ok () w) : Reads P F B w0 L (.binOp .eql t x y t') (.bool false) := by
 intro ρ A o ho w H
 unfold execOp
 simp only [ho]
 rw [A x _ hx, A y _ hy]
 refine run_v ?_
 obtain ⟨c, tc, h1, hc⟩ := hg
 obtain ⟨c', tc', h1', hc'⟩ := hg'
 have e1 : w.heap[g]? = some (.cells c tc (0, 0)) := (H.below.block _ hl).trans h1
 have e2 : w.heap[g']? = some (.cells c' tc' (0, 0)) := (H.below.block _ hl').trans h1'
 have h2 : (sameAddr ⟨g, 0, none⟩ ⟨g', 0, none⟩).run P w = .ok false w := by
  obtain ⟨k, hk⟩ : ∃ k, c.size = k + 1 := ⟨c.size - 1, by omega⟩
  obtain ⟨k', hk'⟩ : ∃ k, c'.size = k + 1 := ⟨c'.size - 1, by omega⟩
  simp [hk, hk', sameAddr, hne, World.frozen?, e1, e2, noView, viewAt, World.shape?, mayBeOne, stringish]
 have h3 : ∀ d : Nat, (Op.equalIn (d + 1) t (.pointer (some ⟨g, 0, none⟩)) (.pointer (some ⟨g', 0, none⟩))).run P w = .ok false w := fun d => by
  simp [Op.equalIn, HHW.run_underlying hp, run_size hs, h2, Result.andThen]
 have h4 : (Op.equal t (.pointer (some ⟨g, 0, none⟩)) (.pointer (some ⟨g', 0, none⟩))).run P w = .ok false w := h3 9999
 show ((eqGuard .eql t x y (.pointer (some ⟨g, 0, none⟩)) (.pointer (some ⟨g', 0, none⟩))) >>= fun _ => binOp .eql t (.pointer (some ⟨g, 0, none⟩)) (.pointer (some ⟨g', 0, none⟩))).run P w = _
 rw [Sem.run_bind, he w]
 show ((Op.equal t (.pointer (some ⟨g, 0, none⟩)) (.pointer (some ⟨g', 0, none⟩))) >>= fun r => pure (Value.bool r)).run P w = _
 rw [Sem.run_bind, h4]
 rfl
theorem cv_i2f {t t' : TypeId} {x : BitVec 64} {d : TypeDesc} {w : World} (hs : P.underlying t = some d) (ht : P.underlying t' = some (.float .f64)) : (convert t t' (.int .u64 (x.toNat : Int))).run P w = .ok (.float .f64 (i2f x)) w := by
 unfold convert
 rw [Sem.run_bind, run_underlying hs]
 simp only [Result.andThen]
 rw [Sem.run_bind, run_underlying ht]
 simp only [Result.andThen]
 rfl
end
def p10s : List Nat := [4607182418800017408, 4621819117588971520, 4636737291354636288, 4652007308841189376, 4666723172467343360, 4681608360884174848, 4696837146684686336, 4711630319722168320, 4726483295884279808, 4741671816366391296, 4756540486875873280, 4771362005757984768, 4786511204640096256, 4801453603149578240, 4816244402031689728, 4831355200913801216, 4846369599423283200, 4861130398305394688, 4876203697187506176, 4891288408196988160, 4906019910204099648, 4921056587992461136, 4936209963552724370]
def p10 (i : Nat) : Nat := p10s.getD i 0
theorem p10_ok {i : Nat} (h : i < 23) : fz0 (p10 i) := by
 have key : ∀ i : Fin 23, 0 < fl.rung (p10 i.val) ∧ fl.rung (p10 i.val) < 9218868437227405312 := by decide
 exact key ⟨i, h⟩
def pwts : List Int := [1, 3, 6, 9, 13, 16, 19, 23, 26]
def pwt (i : Nat) : Int := pwts.getD i 0
structure PW (gopt ginf ginf3 gp10 gpwt glc : Nat) (B : Nat) (wb : World) : Prop where
 infB : ∃ c t, wb.heap[ginf]? = some (.cells c t (0, 0)) ∧ c.size ≠ 0
 inf3 : (∃ c t, wb.heap[ginf3]? = some (.cells c t (0, 0)) ∧ c.size ≠ 0) ∧ ginf3 < B
 opt : wb.cell? ⟨gopt, 0, none⟩ = some (.bool true) ∧ gopt < B
 inf : wb.cell? ⟨ginf, 0, none⟩ = some (.int .u64 52) ∧ wb.cell? ⟨ginf, 1, none⟩ = some (.int .u64 11) ∧ wb.cell? ⟨ginf, 2, none⟩ = some (.int .i64 (-1023)) ∧ ginf < B
 p10 : ∃ gt c ot, wb.cell? ⟨gp10, 0, none⟩ = some (.slice (some ⟨gt, ot, none⟩) 23 c) ∧ gp10 < B ∧ gt < B ∧ ∀ i, i < 23 → wb.cell? ⟨gt, ot + i, none⟩ = some (.float .f64 (p10 i))
 pwt : ∃ gt c ot, wb.cell? ⟨gpwt, 0, none⟩ = some (.slice (some ⟨gt, ot, none⟩) 9 c) ∧ gpwt < B ∧ gt < B ∧ ∀ i, i < 9 → wb.cell? ⟨gt, ot + i, none⟩ = some (.int .i64 (pwt i))
end Go.Proofs.YtneoieigaakoaaaGreatDoor.pf
end
section
namespace Go.Proofs.YtneoieigaakoaaaGreatDoor.pf
open Go.Proofs.YtneoieigaakoaaaGreatDoor.fx
open Go.RowKit Go.Proofs.HHW Go.Proofs.YtneoieigaakoaaaGreatDoorW.PrintWords
namespace s3
theorem zv128 : zvB Tryz.prog 128 = some (.agg #[.int .u64 0, .int .u64 0, .int .i64 0]) := by kernel_rfl
def pf64 (dd : BitVec 64) (p : Int) (sn : BitVec 64) : Nat × Option Int := (bif (decide ((((-(((min 1074 ((53 - ((Lib.bitLen dd.toNat : Nat) : Int)) - (fz.lg2 p))) - (64 - ((Lib.bitLen dd.toNat : Nat) : Int))) + (fz.lg2 p) + 3)).toNat : Nat) : Int) ≥ 64)) then ((((sn ||| 0#64)).toNat), none) else (((s2.pk64 (sn ||| (fz.rnd (((fz.usc (dd <<< ((64 - ((Lib.bitLen dd.toNat : Nat) : Int))).toNat) (fz.pHi p) (fz.pLo p) ((-(((min 1074 ((53 - ((Lib.bitLen dd.toNat : Nat) : Int)) - (fz.lg2 p))) - (64 - ((Lib.bitLen dd.toNat : Nat) : Int))) + (fz.lg2 p) + 3)).toNat % 64)) >>> ((fz.b2i (decide ((((fz.usc (dd <<< ((64 - ((Lib.bitLen dd.toNat : Nat) : Int))).toNat) (fz.pHi p) (fz.pLo p) ((-(((min 1074 ((53 - ((Lib.bitLen dd.toNat : Nat) : Int)) - (fz.lg2 p))) - (64 - ((Lib.bitLen dd.toNat : Nat) : Int))) + (fz.lg2 p) + 3)).toNat % 64))).toNat : Int) ≥ 36028797018963966)))).toNat) ||| ((fz.usc (dd <<< ((64 - ((Lib.bitLen dd.toNat : Nat) : Int))).toNat) (fz.pHi p) (fz.pLo p) ((-(((min 1074 ((53 - ((Lib.bitLen dd.toNat : Nat) : Int)) - (fz.lg2 p))) - (64 - ((Lib.bitLen dd.toNat : Nat) : Int))) + (fz.lg2 p) + 3)).toNat % 64)) &&& 1#64)))) (-((min 1074 ((53 - ((Lib.bitLen dd.toNat : Nat) : Int)) - (fz.lg2 p))) - (fz.b2i (decide ((((fz.usc (dd <<< ((64 - ((Lib.bitLen dd.toNat : Nat) : Int))).toNat) (fz.pHi p) (fz.pLo p) ((-(((min 1074 ((53 - ((Lib.bitLen dd.toNat : Nat) : Int)) - (fz.lg2 p))) - (64 - ((Lib.bitLen dd.toNat : Nat) : Int))) + (fz.lg2 p) + 3)).toNat % 64))).toNat : Int) ≥ 36028797018963966)))))).1), ((s2.pk64 (sn ||| (fz.rnd (((fz.usc (dd <<< ((64 - ((Lib.bitLen dd.toNat : Nat) : Int))).toNat) (fz.pHi p) (fz.pLo p) ((-(((min 1074 ((53 - ((Lib.bitLen dd.toNat : Nat) : Int)) - (fz.lg2 p))) - (64 - ((Lib.bitLen dd.toNat : Nat) : Int))) + (fz.lg2 p) + 3)).toNat % 64)) >>> ((fz.b2i (decide ((((fz.usc (dd <<< ((64 - ((Lib.bitLen dd.toNat : Nat) : Int))).toNat) (fz.pHi p) (fz.pLo p) ((-(((min 1074 ((53 - ((Lib.bitLen dd.toNat : Nat) : Int)) - (fz.lg2 p))) - (64 - ((Lib.bitLen dd.toNat : Nat) : Int))) + (fz.lg2 p) + 3)).toNat % 64))).toNat : Int) ≥ 36028797018963966)))).toNat) ||| ((fz.usc (dd <<< ((64 - ((Lib.bitLen dd.toNat : Nat) : Int))).toNat) (fz.pHi p) (fz.pLo p) ((-(((min 1074 ((53 - ((Lib.bitLen dd.toNat : Nat) : Int)) - (fz.lg2 p))) - (64 - ((Lib.bitLen dd.toNat : Nat) : Int))) + (fz.lg2 p) + 3)).toNat % 64)) &&& 1#64)))) (-((min 1074 ((53 - ((Lib.bitLen dd.toNat : Nat) : Int)) - (fz.lg2 p))) - (fz.b2i (decide ((((fz.usc (dd <<< ((64 - ((Lib.bitLen dd.toNat : Nat) : Int))).toNat) (fz.pHi p) (fz.pLo p) ((-(((min 1074 ((53 - ((Lib.bitLen dd.toNat : Nat) : Int)) - (fz.lg2 p))) - (64 - ((Lib.bitLen dd.toNat : Nat) : Int))) + (fz.lg2 p) + 3)).toNat % 64))).toNat : Int) ≥ 36028797018963966)))))).2)))
set_option maxHeartbeats 2000000 in
theorem pf64_ (wb w0 : World) (B : Nat) (L0 : List (Nat × Obj)) (hT : fz.PTab 13 B wb) (dd : BitVec 64) (p : Int) (sn : BitVec 64) (hp : -348 ≤ p ∧ p ≤ 347) (H : HH B wb w0 L0) : Calls Tryz.prog 64 #[.int .u64 (dd.toNat : Int), .int .i64 p, .int .u64 (sn.toNat : Int)] w0 fun e w' => e = .returned (.tuple #[.float .f64 (pf64 dd p sn).1, errV 73 (pf64 dd p sn).2]) ∧ HH B wb w' L0 ∧ ((pf64 dd p sn).2 = none ∨ (pf64 dd p sn).2 = some 1) := by
 generalize hR : pf64 dd p sn = R
 refine c_enter (args := [.int .u64 (dd.toNat : Int), .int .i64 p, .int .u64 (sn.toNat : Int)]) (k := 60) Tryz.func64 rfl rfl rfl (fun a S => ?_)
 refine wp_seq ?_
 refine c_region ?_
 refine l_mv 2 S rfl ?_; clear S a; intro a S
 refine l_nil ?_
 refine e_then ?_
 refine wp_seq ?_
 refine c_region ?_
 refine l_mv 1 S rfl ?_; clear S a; intro a S
 have hbl := fz.bl_le dd.toNat
 refine l_call S rfl rfl Tryz.func71 rfl rfl (fz.li.len64_ dd _) rfl rfl rfl ?_
 rintro e w' ⟨rfl, rfl⟩
 refine ⟨_, rfl, ?_⟩; clear S a; intro a S
 refine l_mv 1 S rfl ?_; clear S a; intro a S
 refine l_nil ?_
 refine e_then ?_
 refine wp_seq ?_
 refine c_region ?_
 refine l_mv 1 S rfl ?_; clear S a; intro a S
 have hlb := fz.lg2_bd (x := p) (by omega)
 have hcon := fz.sm.lg2_ wb _ B _ p (by omega) H
 refine l_call S rfl rfl Tryz.func72 rfl rfl (hcon) rfl rfl rfl ?_
 rintro e w ⟨rfl, hH⟩
 refine ⟨_, rfl, ?_⟩; clear S a; intro a S
 clear H hcon; have H := hH; clear hH
 refine l_mv 1 S rfl ?_; clear S a; intro a S
 refine l_nil ?_
 refine e_then ?_
 refine wp_seq ?_
 refine c_region ?_
 refine l_mv 1 S rfl ?_; clear S a; intro a S
 refine l_pure S (p_sub (r := (53 - ((Lib.bitLen dd.toNat : Nat) : Int))) rfl rfl (IntWalk.i64_in _ (by omega))) rfl rfl rfl ?_; clear S a; intro a S
 refine l_mv 1 S rfl ?_; clear S a; intro a S
 refine l_pure S (p_sub (r := ((53 - ((Lib.bitLen dd.toNat : Nat) : Int)) - (fz.lg2 p))) rfl rfl (IntWalk.i64_in _ (by omega))) rfl rfl rfl ?_; clear S a; intro a S
 refine l_pure S (fz.p_minV (r := min 1074 ((53 - ((Lib.bitLen dd.toNat : Nat) : Int)) - (fz.lg2 p))) rfl rfl (by simp only [Int.min_def]; split <;> split <;> omega)) rfl rfl rfl ?_; clear S a; intro a S
 refine l_mv 1 S rfl ?_; clear S a; intro a S
 refine l_nil ?_
 refine e_then ?_
 refine wp_seq ?_
 refine c_region ?_
 refine l_alloc (cs := #[.int .u64 0, .int .u64 0, .int .i64 0]) S H rfl (fun w => al zv128) rfl rfl rfl ?_; clear S a H; intro gp w a H S
 refine l_nil ?_
 refine e_then ?_
 refine wp_seq ?_
 refine c_region ?_
 refine l_mv 2 S rfl ?_; clear S a; intro a S
 refine l_pure S (p_sub (r := (64 - ((Lib.bitLen dd.toNat : Nat) : Int))) rfl rfl (IntWalk.i64_in _ (by omega))) rfl rfl rfl ?_; clear S a; intro a S
 refine l_pure S (p_sub (r := ((min 1074 ((53 - ((Lib.bitLen dd.toNat : Nat) : Int)) - (fz.lg2 p))) - (64 - ((Lib.bitLen dd.toNat : Nat) : Int)))) rfl rfl (IntWalk.i64_in _ (by omega))) rfl rfl rfl ?_; clear S a; intro a S
 refine l_mv 2 S rfl ?_; clear S a; intro a S
 have hcon := fz.sm.prescale_ wb _ B _ hT gp ((min 1074 ((53 - ((Lib.bitLen dd.toNat : Nat) : Int)) - (fz.lg2 p))) - (64 - ((Lib.bitLen dd.toNat : Nat) : Int))) p (fz.lg2 p) (by omega) (by omega) (by omega) H
 refine l_call S rfl rfl Tryz.func73 rfl rfl (hcon) rfl rfl rfl ?_
 rintro e w ⟨rfl, hH⟩
 refine ⟨_, rfl, ?_⟩; clear S a; intro a S
 clear H hcon; have H := hH; clear hH
 rw [← Int.toNat_of_nonneg (show 0 ≤ -(((min 1074 ((53 - ((Lib.bitLen dd.toNat : Nat) : Int)) - (fz.lg2 p))) - (64 - ((Lib.bitLen dd.toNat : Nat) : Int))) + (fz.lg2 p) + 3) by omega)] at H
 refine l_nil ?_
 refine e_then ?_
 refine wp_seq ?_
 refine wp_seq ?_
 refine c_region ?_
 refine l_pure S (p_fieldAddr rfl (fun w => fa128_2 w _ _)) rfl rfl rfl ?_; clear S a; intro a S
 refine l_read S H (r_load rfl List.mem_cons_self rfl (fun w hc => ld1 ag3 hc)) rfl rfl rfl ?_; clear S a; intro a S
 refine l_pure S (p_geq rfl rfl) rfl rfl rfl ?_; clear S a; intro a S
 refine l_nil ?_
 refine e_then ?_
 refine c_cond S rfl (fun bc2 => ?_) (fun bc2 => ?_)
 ·
  have c2 := bc2
  have c2 := of_decide_eq_true c2
  refine wp_seq ?_
  refine c_region ?_
  refine l_mv 1 S rfl ?_; clear S a; intro a S
  refine l_pure S (p_or rfl rfl (or64 sn 0#64)) rfl rfl rfl ?_; clear S a; intro a S
  refine l_pure S (p_ext (v := .float .f64 ((sn ||| 0#64)).toNat) rfl (fun w => fb_run (sn ||| 0#64) w)) rfl rfl rfl ?_; clear S a; intro a S
  refine l_mv 2 S rfl ?_; clear S a; intro a S
  refine l_nil ?_
  refine e_then ?_
  refine wp_ret ?_
  refine e_then_ret ?_
  have eR : R = ((((sn ||| 0#64)).toNat), none) := by rw [← hR]; simp only [pf64, bc2, cond_true, cond_false]
  clear hR; subst eR
  exact r_ret2 S rfl rfl rfl ⟨rfl, H.tail, by first | exact .inl rfl | exact hpe⟩
 ·
  have c2 := bc2
  have c2 := of_decide_eq_false c2
  refine wp_skip ?_
  refine e_then ?_
  refine wp_seq ?_
  refine c_region ?_
  refine l_mv 2 S rfl ?_; clear S a; intro a S
  refine l_pure S (p_sub (r := (64 - ((Lib.bitLen dd.toNat : Nat) : Int))) rfl rfl (IntWalk.i64_in _ (by omega))) rfl rfl rfl ?_; clear S a; intro a S
  refine l_pure S (p_shl rfl rfl (by omega) (shl64b dd (n := ((64 - ((Lib.bitLen dd.toNat : Nat) : Int))).toNat) (by omega) (by omega))) rfl rfl rfl ?_; clear S a; intro a S
  have hcon := fz.sm.uscale_ wb _ B _ gp (dd <<< ((64 - ((Lib.bitLen dd.toNat : Nat) : Int))).toNat) (fz.pHi p) (fz.pLo p) ((-(((min 1074 ((53 - ((Lib.bitLen dd.toNat : Nat) : Int)) - (fz.lg2 p))) - (64 - ((Lib.bitLen dd.toNat : Nat) : Int))) + (fz.lg2 p) + 3)).toNat) (by omega) H
  refine l_call S rfl rfl Tryz.func74 rfl rfl (hcon) rfl rfl rfl ?_
  rintro e w ⟨rfl, hH⟩
  refine ⟨_, rfl, ?_⟩; clear S a; intro a S
  clear H hcon; have H := hH; clear hH
  refine l_mv 1 S rfl ?_; clear S a; intro a S
  refine l_nil ?_
  refine e_then ?_
  refine wp_seq ?_
  refine c_region ?_
  refine l_mv 1 S rfl ?_; clear S a; intro a S
  have hcon := s2.unmin_ wb _ B _ H
  refine l_call S rfl rfl Tryz.func76 rfl rfl (hcon) rfl rfl rfl ?_
  rintro e w ⟨rfl, hH⟩
  refine ⟨_, rfl, ?_⟩; clear S a; intro a S
  clear H hcon; have H := hH; clear hH
  refine l_pure S (p_geq rfl rfl) rfl rfl rfl ?_; clear S a; intro a S
  have hb2 := b2i_bd (decide ((((fz.usc (dd <<< ((64 - ((Lib.bitLen dd.toNat : Nat) : Int))).toNat) (fz.pHi p) (fz.pLo p) ((-(((min 1074 ((53 - ((Lib.bitLen dd.toNat : Nat) : Int)) - (fz.lg2 p))) - (64 - ((Lib.bitLen dd.toNat : Nat) : Int))) + (fz.lg2 p) + 3)).toNat % 64))).toNat : Int) ≥ 36028797018963966))
  have hcon := fz.sm.b2i_ wb _ B _ (decide ((((fz.usc (dd <<< ((64 - ((Lib.bitLen dd.toNat : Nat) : Int))).toNat) (fz.pHi p) (fz.pLo p) ((-(((min 1074 ((53 - ((Lib.bitLen dd.toNat : Nat) : Int)) - (fz.lg2 p))) - (64 - ((Lib.bitLen dd.toNat : Nat) : Int))) + (fz.lg2 p) + 3)).toNat % 64))).toNat : Int) ≥ 36028797018963966)) H
  refine l_call S rfl rfl Tryz.func75 rfl rfl (hcon) rfl rfl rfl ?_
  rintro e w ⟨rfl, hH⟩
  refine ⟨_, rfl, ?_⟩; clear S a; intro a S
  clear H hcon; have H := hH; clear hH
  refine l_mv 1 S rfl ?_; clear S a; intro a S
  refine l_nil ?_
  refine e_then ?_
  refine wp_seq ?_
  refine c_region ?_
  refine l_mv 2 S rfl ?_; clear S a; intro a S
  refine l_pure S (p_shr rfl rfl (by omega) (shr64 (fz.usc (dd <<< ((64 - ((Lib.bitLen dd.toNat : Nat) : Int))).toNat) (fz.pHi p) (fz.pLo p) ((-(((min 1074 ((53 - ((Lib.bitLen dd.toNat : Nat) : Int)) - (fz.lg2 p))) - (64 - ((Lib.bitLen dd.toNat : Nat) : Int))) + (fz.lg2 p) + 3)).toNat % 64)) (n := ((fz.b2i (decide ((((fz.usc (dd <<< ((64 - ((Lib.bitLen dd.toNat : Nat) : Int))).toNat) (fz.pHi p) (fz.pLo p) ((-(((min 1074 ((53 - ((Lib.bitLen dd.toNat : Nat) : Int)) - (fz.lg2 p))) - (64 - ((Lib.bitLen dd.toNat : Nat) : Int))) + (fz.lg2 p) + 3)).toNat % 64))).toNat : Int) ≥ 36028797018963966)))).toNat) (by omega) (by omega))) rfl rfl rfl ?_; clear S a; intro a S
  refine l_mv 1 S rfl ?_; clear S a; intro a S
  refine l_pure S (p_and rfl rfl (and64 (fz.usc (dd <<< ((64 - ((Lib.bitLen dd.toNat : Nat) : Int))).toNat) (fz.pHi p) (fz.pLo p) ((-(((min 1074 ((53 - ((Lib.bitLen dd.toNat : Nat) : Int)) - (fz.lg2 p))) - (64 - ((Lib.bitLen dd.toNat : Nat) : Int))) + (fz.lg2 p) + 3)).toNat % 64)) 1#64)) rfl rfl rfl ?_; clear S a; intro a S
  refine l_pure S (p_or rfl rfl (or64 ((fz.usc (dd <<< ((64 - ((Lib.bitLen dd.toNat : Nat) : Int))).toNat) (fz.pHi p) (fz.pLo p) ((-(((min 1074 ((53 - ((Lib.bitLen dd.toNat : Nat) : Int)) - (fz.lg2 p))) - (64 - ((Lib.bitLen dd.toNat : Nat) : Int))) + (fz.lg2 p) + 3)).toNat % 64)) >>> ((fz.b2i (decide ((((fz.usc (dd <<< ((64 - ((Lib.bitLen dd.toNat : Nat) : Int))).toNat) (fz.pHi p) (fz.pLo p) ((-(((min 1074 ((53 - ((Lib.bitLen dd.toNat : Nat) : Int)) - (fz.lg2 p))) - (64 - ((Lib.bitLen dd.toNat : Nat) : Int))) + (fz.lg2 p) + 3)).toNat % 64))).toNat : Int) ≥ 36028797018963966)))).toNat) ((fz.usc (dd <<< ((64 - ((Lib.bitLen dd.toNat : Nat) : Int))).toNat) (fz.pHi p) (fz.pLo p) ((-(((min 1074 ((53 - ((Lib.bitLen dd.toNat : Nat) : Int)) - (fz.lg2 p))) - (64 - ((Lib.bitLen dd.toNat : Nat) : Int))) + (fz.lg2 p) + 3)).toNat % 64)) &&& 1#64))) rfl rfl rfl ?_; clear S a; intro a S
  refine l_mv 1 S rfl ?_; clear S a; intro a S
  refine l_nil ?_
  refine e_then ?_
  refine wp_seq ?_
  refine c_region ?_
  refine l_mv 2 S rfl ?_; clear S a; intro a S
  refine l_pure S (p_sub (r := ((min 1074 ((53 - ((Lib.bitLen dd.toNat : Nat) : Int)) - (fz.lg2 p))) - (fz.b2i (decide ((((fz.usc (dd <<< ((64 - ((Lib.bitLen dd.toNat : Nat) : Int))).toNat) (fz.pHi p) (fz.pLo p) ((-(((min 1074 ((53 - ((Lib.bitLen dd.toNat : Nat) : Int)) - (fz.lg2 p))) - (64 - ((Lib.bitLen dd.toNat : Nat) : Int))) + (fz.lg2 p) + 3)).toNat % 64))).toNat : Int) ≥ 36028797018963966))))) rfl rfl (IntWalk.i64_in _ (by omega))) rfl rfl rfl ?_; clear S a; intro a S
  refine l_mv 1 S rfl ?_; clear S a; intro a S
  refine l_nil ?_
  refine e_then ?_
  refine wp_seq ?_
  refine c_region ?_
  refine l_mv 2 S rfl ?_; clear S a; intro a S
  have hcon := fz.sm.rnd_ wb _ B _ (((fz.usc (dd <<< ((64 - ((Lib.bitLen dd.toNat : Nat) : Int))).toNat) (fz.pHi p) (fz.pLo p) ((-(((min 1074 ((53 - ((Lib.bitLen dd.toNat : Nat) : Int)) - (fz.lg2 p))) - (64 - ((Lib.bitLen dd.toNat : Nat) : Int))) + (fz.lg2 p) + 3)).toNat % 64)) >>> ((fz.b2i (decide ((((fz.usc (dd <<< ((64 - ((Lib.bitLen dd.toNat : Nat) : Int))).toNat) (fz.pHi p) (fz.pLo p) ((-(((min 1074 ((53 - ((Lib.bitLen dd.toNat : Nat) : Int)) - (fz.lg2 p))) - (64 - ((Lib.bitLen dd.toNat : Nat) : Int))) + (fz.lg2 p) + 3)).toNat % 64))).toNat : Int) ≥ 36028797018963966)))).toNat) ||| ((fz.usc (dd <<< ((64 - ((Lib.bitLen dd.toNat : Nat) : Int))).toNat) (fz.pHi p) (fz.pLo p) ((-(((min 1074 ((53 - ((Lib.bitLen dd.toNat : Nat) : Int)) - (fz.lg2 p))) - (64 - ((Lib.bitLen dd.toNat : Nat) : Int))) + (fz.lg2 p) + 3)).toNat % 64)) &&& 1#64)) H
  refine l_call S rfl rfl Tryz.func78 rfl rfl (hcon) rfl rfl rfl ?_
  rintro e w ⟨rfl, hH⟩
  refine ⟨_, rfl, ?_⟩; clear S a; intro a S
  clear H hcon; have H := hH; clear hH
  refine l_pure S (p_or rfl rfl (or64 sn (fz.rnd (((fz.usc (dd <<< ((64 - ((Lib.bitLen dd.toNat : Nat) : Int))).toNat) (fz.pHi p) (fz.pLo p) ((-(((min 1074 ((53 - ((Lib.bitLen dd.toNat : Nat) : Int)) - (fz.lg2 p))) - (64 - ((Lib.bitLen dd.toNat : Nat) : Int))) + (fz.lg2 p) + 3)).toNat % 64)) >>> ((fz.b2i (decide ((((fz.usc (dd <<< ((64 - ((Lib.bitLen dd.toNat : Nat) : Int))).toNat) (fz.pHi p) (fz.pLo p) ((-(((min 1074 ((53 - ((Lib.bitLen dd.toNat : Nat) : Int)) - (fz.lg2 p))) - (64 - ((Lib.bitLen dd.toNat : Nat) : Int))) + (fz.lg2 p) + 3)).toNat % 64))).toNat : Int) ≥ 36028797018963966)))).toNat) ||| ((fz.usc (dd <<< ((64 - ((Lib.bitLen dd.toNat : Nat) : Int))).toNat) (fz.pHi p) (fz.pLo p) ((-(((min 1074 ((53 - ((Lib.bitLen dd.toNat : Nat) : Int)) - (fz.lg2 p))) - (64 - ((Lib.bitLen dd.toNat : Nat) : Int))) + (fz.lg2 p) + 3)).toNat % 64)) &&& 1#64))))) rfl rfl rfl ?_; clear S a; intro a S
  refine l_mv 1 S rfl ?_; clear S a; intro a S
  refine l_pure S (p_un rfl (fun w => fz.neg64 (by omega) w)) rfl rfl rfl ?_; clear S a; intro a S
  have hcon := s2.pk64_ wb _ B _ (sn ||| (fz.rnd (((fz.usc (dd <<< ((64 - ((Lib.bitLen dd.toNat : Nat) : Int))).toNat) (fz.pHi p) (fz.pLo p) ((-(((min 1074 ((53 - ((Lib.bitLen dd.toNat : Nat) : Int)) - (fz.lg2 p))) - (64 - ((Lib.bitLen dd.toNat : Nat) : Int))) + (fz.lg2 p) + 3)).toNat % 64)) >>> ((fz.b2i (decide ((((fz.usc (dd <<< ((64 - ((Lib.bitLen dd.toNat : Nat) : Int))).toNat) (fz.pHi p) (fz.pLo p) ((-(((min 1074 ((53 - ((Lib.bitLen dd.toNat : Nat) : Int)) - (fz.lg2 p))) - (64 - ((Lib.bitLen dd.toNat : Nat) : Int))) + (fz.lg2 p) + 3)).toNat % 64))).toNat : Int) ≥ 36028797018963966)))).toNat) ||| ((fz.usc (dd <<< ((64 - ((Lib.bitLen dd.toNat : Nat) : Int))).toNat) (fz.pHi p) (fz.pLo p) ((-(((min 1074 ((53 - ((Lib.bitLen dd.toNat : Nat) : Int)) - (fz.lg2 p))) - (64 - ((Lib.bitLen dd.toNat : Nat) : Int))) + (fz.lg2 p) + 3)).toNat % 64)) &&& 1#64)))) (-((min 1074 ((53 - ((Lib.bitLen dd.toNat : Nat) : Int)) - (fz.lg2 p))) - (fz.b2i (decide ((((fz.usc (dd <<< ((64 - ((Lib.bitLen dd.toNat : Nat) : Int))).toNat) (fz.pHi p) (fz.pLo p) ((-(((min 1074 ((53 - ((Lib.bitLen dd.toNat : Nat) : Int)) - (fz.lg2 p))) - (64 - ((Lib.bitLen dd.toNat : Nat) : Int))) + (fz.lg2 p) + 3)).toNat % 64))).toNat : Int) ≥ 36028797018963966))))) (by omega) H
  refine l_call S rfl rfl Tryz.func81 rfl rfl (hcon) rfl rfl rfl ?_
  rintro e w ⟨rfl, hH, hpe⟩
  refine ⟨_, rfl, ?_⟩; clear S a; intro a S
  clear H hcon; have H := hH; clear hH
  refine l_mv 4 S rfl ?_; clear S a; intro a S
  refine l_nil ?_
  refine e_then ?_
  refine wp_ret ?_
  have eR : R = (((s2.pk64 (sn ||| (fz.rnd (((fz.usc (dd <<< ((64 - ((Lib.bitLen dd.toNat : Nat) : Int))).toNat) (fz.pHi p) (fz.pLo p) ((-(((min 1074 ((53 - ((Lib.bitLen dd.toNat : Nat) : Int)) - (fz.lg2 p))) - (64 - ((Lib.bitLen dd.toNat : Nat) : Int))) + (fz.lg2 p) + 3)).toNat % 64)) >>> ((fz.b2i (decide ((((fz.usc (dd <<< ((64 - ((Lib.bitLen dd.toNat : Nat) : Int))).toNat) (fz.pHi p) (fz.pLo p) ((-(((min 1074 ((53 - ((Lib.bitLen dd.toNat : Nat) : Int)) - (fz.lg2 p))) - (64 - ((Lib.bitLen dd.toNat : Nat) : Int))) + (fz.lg2 p) + 3)).toNat % 64))).toNat : Int) ≥ 36028797018963966)))).toNat) ||| ((fz.usc (dd <<< ((64 - ((Lib.bitLen dd.toNat : Nat) : Int))).toNat) (fz.pHi p) (fz.pLo p) ((-(((min 1074 ((53 - ((Lib.bitLen dd.toNat : Nat) : Int)) - (fz.lg2 p))) - (64 - ((Lib.bitLen dd.toNat : Nat) : Int))) + (fz.lg2 p) + 3)).toNat % 64)) &&& 1#64)))) (-((min 1074 ((53 - ((Lib.bitLen dd.toNat : Nat) : Int)) - (fz.lg2 p))) - (fz.b2i (decide ((((fz.usc (dd <<< ((64 - ((Lib.bitLen dd.toNat : Nat) : Int))).toNat) (fz.pHi p) (fz.pLo p) ((-(((min 1074 ((53 - ((Lib.bitLen dd.toNat : Nat) : Int)) - (fz.lg2 p))) - (64 - ((Lib.bitLen dd.toNat : Nat) : Int))) + (fz.lg2 p) + 3)).toNat % 64))).toNat : Int) ≥ 36028797018963966)))))).1), ((s2.pk64 (sn ||| (fz.rnd (((fz.usc (dd <<< ((64 - ((Lib.bitLen dd.toNat : Nat) : Int))).toNat) (fz.pHi p) (fz.pLo p) ((-(((min 1074 ((53 - ((Lib.bitLen dd.toNat : Nat) : Int)) - (fz.lg2 p))) - (64 - ((Lib.bitLen dd.toNat : Nat) : Int))) + (fz.lg2 p) + 3)).toNat % 64)) >>> ((fz.b2i (decide ((((fz.usc (dd <<< ((64 - ((Lib.bitLen dd.toNat : Nat) : Int))).toNat) (fz.pHi p) (fz.pLo p) ((-(((min 1074 ((53 - ((Lib.bitLen dd.toNat : Nat) : Int)) - (fz.lg2 p))) - (64 - ((Lib.bitLen dd.toNat : Nat) : Int))) + (fz.lg2 p) + 3)).toNat % 64))).toNat : Int) ≥ 36028797018963966)))).toNat) ||| ((fz.usc (dd <<< ((64 - ((Lib.bitLen dd.toNat : Nat) : Int))).toNat) (fz.pHi p) (fz.pLo p) ((-(((min 1074 ((53 - ((Lib.bitLen dd.toNat : Nat) : Int)) - (fz.lg2 p))) - (64 - ((Lib.bitLen dd.toNat : Nat) : Int))) + (fz.lg2 p) + 3)).toNat % 64)) &&& 1#64)))) (-((min 1074 ((53 - ((Lib.bitLen dd.toNat : Nat) : Int)) - (fz.lg2 p))) - (fz.b2i (decide ((((fz.usc (dd <<< ((64 - ((Lib.bitLen dd.toNat : Nat) : Int))).toNat) (fz.pHi p) (fz.pLo p) ((-(((min 1074 ((53 - ((Lib.bitLen dd.toNat : Nat) : Int)) - (fz.lg2 p))) - (64 - ((Lib.bitLen dd.toNat : Nat) : Int))) + (fz.lg2 p) + 3)).toNat % 64))).toNat : Int) ≥ 36028797018963966)))))).2)) := by rw [← hR]; simp only [pf64, bc2, cond_true, cond_false]
  clear hR; subst eR
  exact r_ret2 S rfl rfl rfl ⟨rfl, H.tail, by first | exact .inl rfl | exact hpe⟩
end s3
end Go.Proofs.YtneoieigaakoaaaGreatDoor.pf
end
section
namespace Go.Proofs.YtneoieigaakoaaaGreatDoor.pf
open Go.Proofs.YtneoieigaakoaaaGreatDoor.fx
open Go.RowKit Go.Proofs.HHW Go.Proofs.YtneoieigaakoaaaGreatDoorW.PrintWords
namespace s4
theorem ag139 : aggB Tryz.prog 139 = some false := by kernel_rfl
def exa2 (m : BitVec 64) (x : Int) (neg : Bool) (z : Int) (f : Nat) : Nat × Bool := (bif (Ieee.double.order f 4831355200913801216 == some .gt) then (f, false) else (bif (Ieee.double.order f 14054727237768577024 == some .lt) then (f, false) else ((fmul f (p10 (z).toNat)), true)))
def exa1 (m : BitVec 64) (x : Int) (neg : Bool) (f : Nat) : Nat × Bool := (bif (x == 0) then (f, true) else (bif (decide (x > 0)) then (bif (decide (x ≤ 37)) then (bif (decide (x > 22)) then exa2 m x neg 22 (fmul f (p10 ((x - 22)).toNat)) else exa2 m x neg x f) else (bif (decide (x < 0)) then (bif (decide (x ≥ (-22))) then ((fdiv f (p10 ((-x)).toNat)), true) else (f, false)) else (f, false))) else (bif (decide (x < 0)) then (bif (decide (x ≥ (-22))) then ((fdiv f (p10 ((-x)).toNat)), true) else (f, false)) else (f, false))))
def exa (m : BitVec 64) (x : Int) (neg : Bool) : Nat × Bool := (bif ((((m >>> (52 : Nat))).toNat : Int) != 0) then (0, false) else (bif neg then exa1 m x neg (fneg (i2f m)) else exa1 m x neg (i2f m)))
set_option maxHeartbeats 2000000 in
theorem exa_ (wb w0 : World) (B : Nat) (L0 : List (Nat × Obj)) (hW : PW 8 9 7 12 11 14 B wb) (m : BitVec 64) (x : Int) (neg : Bool) (hx : -10000000 ≤ x ∧ x ≤ 10000000) (H : HH B wb w0 L0) : Calls Tryz.prog 63 #[.int .u64 (m.toNat : Int), .int .i64 x, .bool neg] w0 fun e w' => e = .returned (.tuple #[.float .f64 (exa m x neg).1, .bool (exa m x neg).2]) ∧ HH B wb w' L0 := by
 generalize hR : exa m x neg = R
 refine c_enter (args := [.int .u64 (m.toNat : Int), .int .i64 x, .bool neg]) (k := 61) Tryz.func63 rfl rfl rfl (fun a S => ?_)
 refine wp_seq ?_
 refine c_region ?_
 refine l_mv 2 S rfl ?_; clear S a; intro a S
 refine l_nil ?_
 refine e_then ?_
 refine wp_seq ?_
 refine wp_seq ?_
 refine c_region ?_
 refine l_mv 1 S rfl ?_; clear S a; intro a S
 refine l_pure S (p_fieldAddr rfl (fun w => fa103_0 w _ _)) rfl rfl rfl ?_; clear S a; intro a S
 refine l_read S H (r_loadG rfl hW.inf.1 hW.inf.2.2.2 ag87) rfl rfl rfl ?_; clear S a; intro a S
 refine l_pure S (p_shr rfl rfl (by decide) (shr64 m (n := (52 : Nat)) rfl (by decide))) rfl rfl rfl ?_; clear S a; intro a S
 refine l_pure S (p_neq rfl rfl) rfl rfl rfl ?_; clear S a; intro a S
 refine l_nil ?_
 refine e_then ?_
 refine c_cond S rfl (fun bc3 => ?_) (fun bc3 => ?_)
 ·
  have c3 := bc3
  have c3 := bne_iff_ne.1 c3
  refine wp_ret ?_
  refine e_then_ret ?_
  have eR : R = (0, false) := by rw [← hR]; simp only [exa, bc3, cond_true, cond_false]
  clear hR; subst eR
  exact r_ret2 S rfl rfl rfl ⟨rfl, H⟩
 ·
  have c3 := bc3
  have c3 := bne_eq_false_iff_eq.1 c3
  refine wp_skip ?_
  refine e_then ?_
  refine wp_seq ?_
  refine c_region ?_
  refine l_mv 1 S rfl ?_; clear S a; intro a S
  refine l_pure S (p_conv rfl (fun w => cv_i2f Tryz.underlying22 Tryz.underlying23)) rfl rfl rfl ?_; clear S a; intro a S
  refine l_mv 1 S rfl ?_; clear S a; intro a S
  refine l_nil ?_
  refine e_then ?_
  refine c_cut (fun a w => ∃ f : Nat, SL a 64 [] [(0, .int .u64 (m.toNat : Int)), (7, .bool false), (1, .int .i64 x), (6, .float .f64 f)] ∧ HH B wb w (L0) ∧ exa1 m x neg f = R ∧ (nn f)) ?_ ?_
  ·
   clear S a H hR; rintro a w ⟨f, S, H, hR, hinv⟩
   have hf := hinv
   refine wp_seq ?_
   refine wp_block ?_
   refine wp_seq ?_
   refine c_region ?_
   refine l_mv 1 S rfl ?_; clear S a; intro a S
   refine l_pure S (p_eql rfl rfl) rfl rfl rfl ?_; clear S a; intro a S
   refine l_mv 1 S rfl ?_; clear S a; intro a S
   refine l_nil ?_
   refine e_then ?_
   refine c_cond S rfl (fun bc5 => ?_) (fun bc5 => ?_)
   ·
    have c5 := bc5
    have c5 := eq_of_beq c5
    refine wp_seq ?_
    refine c_region ?_
    refine l_mv 3 S rfl ?_; clear S a; intro a S
    refine l_nil ?_
    refine e_then ?_
    refine wp_ret ?_
    refine e_in_ret ?_
    refine e_then_ret ?_
    have eR : R = (f, true) := by rw [← hR]; simp only [exa1, bc5, cond_true, cond_false]
    clear hR; subst eR
    exact r_ret2 S rfl rfl rfl ⟨rfl, H⟩
   ·
    have c5 := bc5
    have c5 := ne_of_beq_false c5
    refine wp_seq ?_
    refine c_region ?_
    refine l_mv 1 S rfl ?_; clear S a; intro a S
    refine l_pure S (p_gtr rfl rfl) rfl rfl rfl ?_; clear S a; intro a S
    refine l_mv 1 S rfl ?_; clear S a; intro a S
    refine l_split (S.of 25 rfl) (fun bc8 => ?_) (fun bc8 => ?_)
    ·
     have c8 := bc8
     have c8 := of_decide_eq_true c8
     refine l_on S rfl rfl rfl rfl bc8 ?_
     refine l_pure S (p_move rfl) rfl rfl rfl ?_; clear S a; intro a S
     refine l_on S rfl rfl rfl rfl bc8 ?_
     refine l_pure S (p_leq rfl rfl) rfl rfl rfl ?_; clear S a; intro a S
     refine l_pure S (p_pick_t rfl bc8 rfl) rfl rfl rfl ?_; clear S a; intro a S
     refine l_mv 1 S rfl ?_; clear S a; intro a S
     refine l_nil ?_
     refine e_then ?_
     refine c_cond S rfl (fun bc10 => ?_) (fun bc10 => ?_)
     ·
      have c10 := bc10
      have c10 := of_decide_eq_true c10
      refine c_cut (fun a w => ∃ z : Int, ∃ f : Nat, SL a 64 [] [(0, .int .u64 (m.toNat : Int)), (7, .bool false), (1, .int .i64 z), (6, .float .f64 f)] ∧ HH B wb w (L0) ∧ exa2 m x neg z f = R ∧ (nn f ∧ 0 ≤ z ∧ z ≤ 22)) ?_ ?_
      ·
       clear S a H hR; rintro a w ⟨z, f, S, H, hR, hinv⟩
       obtain ⟨hf, hz⟩ := hinv
       refine wp_seq ?_
       refine wp_seq ?_
       refine c_region ?_
       refine l_mv 1 S rfl ?_; clear S a; intro a S
       refine l_pure S (p_fgtr rfl rfl) rfl rfl rfl ?_; clear S a; intro a S
       refine l_mv 1 S rfl ?_; clear S a; intro a S
       refine l_split (S.of 40 rfl) (fun bc12 => ?_) (fun bc12 => ?_)
       ·
        refine l_off S rfl rfl rfl rfl bc12 rfl rfl ?_; clear S a; intro a S
        refine l_off S rfl rfl rfl rfl bc12 rfl rfl ?_; clear S a; intro a S
        refine l_pure S (p_pick_t rfl bc12 rfl) rfl rfl rfl ?_; clear S a; intro a S
        refine l_nil ?_
        refine e_then ?_
        refine c_cond (b := true) S rfl (fun _ => ?_) (fun h => by cases h)
        refine wp_ret ?_
        refine e_then_ret ?_
        refine e_in_ret ?_
        refine e_then_ret ?_
        have eR : R = (f, false) := by rw [← hR]; simp only [exa2, bc12, cond_true, cond_false]
        clear hR; subst eR
        exact r_ret2 S rfl rfl rfl ⟨rfl, H⟩
       ·
        refine l_on S rfl rfl rfl rfl bc12 ?_
        refine l_pure S (p_move rfl) rfl rfl rfl ?_; clear S a; intro a S
        refine l_on S rfl rfl rfl rfl bc12 ?_
        refine l_pure S (p_flss rfl rfl) rfl rfl rfl ?_; clear S a; intro a S
        refine l_pure S (p_pick_f rfl bc12 rfl) rfl rfl rfl ?_; clear S a; intro a S
        refine l_nil ?_
        refine e_then ?_
        refine c_cond S rfl (fun bc16 => ?_) (fun bc16 => ?_)
        ·
         have c16 := bc16
         refine wp_ret ?_
         refine e_then_ret ?_
         refine e_in_ret ?_
         refine e_then_ret ?_
         have eR : R = (f, false) := by rw [← hR]; simp only [exa2, bc12, bc16, cond_true, cond_false]
         clear hR; subst eR
         exact r_ret2 S rfl rfl rfl ⟨rfl, H⟩
        ·
         have c16 := bc16
         refine wp_skip ?_
         refine e_then ?_
         refine wp_seq ?_
         refine c_region ?_
         refine l_mv 1 S rfl ?_; clear S a; intro a S
         obtain ⟨gt, ct, ot, ht1, ht2, ht3, ht4⟩ := hW.p10
         refine l_read S H (r_loadG rfl ht1 ht2 ag139) rfl rfl rfl ?_; clear S a; intro a S
         refine l_mv 1 S rfl ?_; clear S a; intro a S
         refine l_pure S (p_indexAddr rfl rfl (fun w => ia_slice Tryz.underlying139 sz23 (by omega) (by omega))) rfl rfl rfl ?_; clear S a; intro a S
         refine l_read S H (r_loadG rfl (show _ = some (Value.float .f64 (p10 (z).toNat)) from by rw [Nat.mul_one]; exact ht4 (z).toNat (by omega)) ht3 ag23) rfl rfl rfl ?_; clear S a; intro a S
         refine l_pure S (p_fmul rfl rfl (mul_some hf (p10_ok (i := (z).toNat) (by omega))).1) rfl rfl rfl ?_; clear S a; intro a S
         refine l_mv 2 S rfl ?_; clear S a; intro a S
         refine l_nil ?_
         refine e_then ?_
         refine wp_ret ?_
         refine e_in_ret ?_
         refine e_then_ret ?_
         have eR : R = ((fmul f (p10 (z).toNat)), true) := by rw [← hR]; simp only [exa2, bc12, bc16, cond_true, cond_false]
         clear hR; subst eR
         exact r_ret2 S rfl rfl rfl ⟨rfl, H⟩
      ·
       refine wp_seq ?_
       refine c_region ?_
       refine l_mv 1 S rfl ?_; clear S a; intro a S
       refine l_pure S (p_gtr rfl rfl) rfl rfl rfl ?_; clear S a; intro a S
       refine l_nil ?_
       refine e_then ?_
       refine c_cond S rfl (fun bc19 => ?_) (fun bc19 => ?_)
       ·
        have c19 := bc19
        have c19 := of_decide_eq_true c19
        refine wp_seq ?_
        refine c_region ?_
        refine l_mv 1 S rfl ?_; clear S a; intro a S
        obtain ⟨gt, ct, ot, ht1, ht2, ht3, ht4⟩ := hW.p10
        refine l_read S H (r_loadG rfl ht1 ht2 ag139) rfl rfl rfl ?_; clear S a; intro a S
        refine l_mv 1 S rfl ?_; clear S a; intro a S
        refine l_pure S (p_sub (r := (x - 22)) rfl rfl (IntWalk.i64_in _ (by omega))) rfl rfl rfl ?_; clear S a; intro a S
        refine l_pure S (p_indexAddr rfl rfl (fun w => ia_slice Tryz.underlying139 sz23 (by omega) (by omega))) rfl rfl rfl ?_; clear S a; intro a S
        refine l_read S H (r_loadG rfl (show _ = some (Value.float .f64 (p10 ((x - 22)).toNat)) from by rw [Nat.mul_one]; exact ht4 ((x - 22)).toNat (by omega)) ht3 ag23) rfl rfl rfl ?_; clear S a; intro a S
        refine l_pure S (p_fmul rfl rfl (mul_some hf (p10_ok (i := ((x - 22)).toNat) (by omega))).1) rfl rfl rfl ?_; clear S a; intro a S
        refine l_mv 1 S rfl ?_; clear S a; intro a S
        refine l_nil ?_
        refine e_then ?_
        refine c_region ?_
        refine l_mv 1 S rfl ?_; clear S a; intro a S
        refine l_nil ?_
        refine e_then ?_
        exact ⟨22, (fmul f (p10 ((x - 22)).toNat)), S.only ⟨rfl, rfl, rfl, rfl, trivial⟩, H, by rw [← hR]; simp only [exa1, bc5, bc8, bc10, bc19, cond_true, cond_false], ⟨(mul_some hf (p10_ok (i := ((x - 22)).toNat) (by omega))).2, by omega⟩⟩
       ·
        have c19 := bc19
        have c19 := of_decide_eq_false c19
        refine wp_skip ?_
        refine e_then ?_
        exact ⟨x, f, S.only ⟨rfl, rfl, rfl, rfl, trivial⟩, H, by rw [← hR]; simp only [exa1, bc5, bc8, bc10, bc19, cond_true, cond_false], ⟨hf, by omega⟩⟩
     ·
      have c10 := bc10
      have c10 := of_decide_eq_false c10
      refine wp_seq ?_
      refine c_region ?_
      refine l_mv 1 S rfl ?_; clear S a; intro a S
      refine l_pure S (p_lss rfl rfl) rfl rfl rfl ?_; clear S a; intro a S
      refine l_mv 1 S rfl ?_; clear S a; intro a S
      refine l_split (S.of 53 rfl) (fun bc21 => ?_) (fun bc21 => ?_)
      ·
       have c21 := bc21
       have c21 := of_decide_eq_true c21
       refine l_on S rfl rfl rfl rfl bc21 ?_
       refine l_pure S (p_move rfl) rfl rfl rfl ?_; clear S a; intro a S
       refine l_on S rfl rfl rfl rfl bc21 ?_
       refine l_pure S (p_geq rfl rfl) rfl rfl rfl ?_; clear S a; intro a S
       refine l_pure S (p_pick_t rfl bc21 rfl) rfl rfl rfl ?_; clear S a; intro a S
       refine l_mv 1 S rfl ?_; clear S a; intro a S
       refine l_nil ?_
       refine e_then ?_
       refine c_cond S rfl (fun bc23 => ?_) (fun bc23 => ?_)
       ·
        have c23 := bc23
        have c23 := of_decide_eq_true c23
        refine wp_seq ?_
        refine c_region ?_
        refine l_mv 1 S rfl ?_; clear S a; intro a S
        obtain ⟨gt, ct, ot, ht1, ht2, ht3, ht4⟩ := hW.p10
        refine l_read S H (r_loadG rfl ht1 ht2 ag139) rfl rfl rfl ?_; clear S a; intro a S
        refine l_mv 1 S rfl ?_; clear S a; intro a S
        refine l_pure S (p_un rfl (fun w => fz.neg64 (by omega) w)) rfl rfl rfl ?_; clear S a; intro a S
        refine l_pure S (p_indexAddr rfl rfl (fun w => ia_slice Tryz.underlying139 sz23 (by omega) (by omega))) rfl rfl rfl ?_; clear S a; intro a S
        refine l_read S H (r_loadG rfl (show _ = some (Value.float .f64 (p10 ((-x)).toNat)) from by rw [Nat.mul_one]; exact ht4 ((-x)).toNat (by omega)) ht3 ag23) rfl rfl rfl ?_; clear S a; intro a S
        refine l_pure S (p_fquo rfl rfl (div_some hf (p10_ok (i := ((-x)).toNat) (by omega)))) rfl rfl rfl ?_; clear S a; intro a S
        refine l_mv 2 S rfl ?_; clear S a; intro a S
        refine l_nil ?_
        refine e_then ?_
        refine wp_ret ?_
        refine e_in_ret ?_
        refine e_then_ret ?_
        have eR : R = ((fdiv f (p10 ((-x)).toNat)), true) := by rw [← hR]; simp only [exa1, bc5, bc8, bc10, bc21, bc23, cond_true, cond_false]
        clear hR; subst eR
        exact r_ret2 S rfl rfl rfl ⟨rfl, H⟩
       ·
        have c23 := bc23
        have c23 := of_decide_eq_false c23
        refine wp_skip ?_
        refine e_in 0 ?_
        refine e_then ?_
        refine wp_ret ?_
        have eR : R = (f, false) := by rw [← hR]; simp only [exa1, bc5, bc8, bc10, bc21, bc23, cond_true, cond_false]
        clear hR; subst eR
        exact r_ret2 S rfl rfl rfl ⟨rfl, H⟩
      ·
       have c21 := bc21
       have c21 := of_decide_eq_false c21
       refine l_off S rfl rfl rfl rfl bc21 rfl rfl ?_; clear S a; intro a S
       refine l_off S rfl rfl rfl rfl bc21 rfl rfl ?_; clear S a; intro a S
       refine l_pure S (p_pick_f rfl bc21 rfl) rfl rfl rfl ?_; clear S a; intro a S
       refine l_mv 1 S rfl ?_; clear S a; intro a S
       refine l_nil ?_
       refine e_then ?_
       refine c_cond (b := false) S rfl (fun h => by cases h) (fun _ => ?_)
       refine wp_skip ?_
       refine e_in 0 ?_
       refine e_then ?_
       refine wp_ret ?_
       have eR : R = (f, false) := by rw [← hR]; simp only [exa1, bc5, bc8, bc10, bc21, cond_true, cond_false]
       clear hR; subst eR
       exact r_ret2 S rfl rfl rfl ⟨rfl, H⟩
    ·
     have c8 := bc8
     have c8 := of_decide_eq_false c8
     refine l_off S rfl rfl rfl rfl bc8 rfl rfl ?_; clear S a; intro a S
     refine l_off S rfl rfl rfl rfl bc8 rfl rfl ?_; clear S a; intro a S
     refine l_pure S (p_pick_f rfl bc8 rfl) rfl rfl rfl ?_; clear S a; intro a S
     refine l_mv 1 S rfl ?_; clear S a; intro a S
     refine l_nil ?_
     refine e_then ?_
     refine c_cond (b := false) S rfl (fun h => by cases h) (fun _ => ?_)
     refine wp_seq ?_
     refine c_region ?_
     refine l_mv 1 S rfl ?_; clear S a; intro a S
     refine l_pure S (p_lss rfl rfl) rfl rfl rfl ?_; clear S a; intro a S
     refine l_mv 1 S rfl ?_; clear S a; intro a S
     refine l_split (S.of 53 rfl) (fun bc30 => ?_) (fun bc30 => ?_)
     ·
      have c30 := bc30
      have c30 := of_decide_eq_true c30
      refine l_on S rfl rfl rfl rfl bc30 ?_
      refine l_pure S (p_move rfl) rfl rfl rfl ?_; clear S a; intro a S
      refine l_on S rfl rfl rfl rfl bc30 ?_
      refine l_pure S (p_geq rfl rfl) rfl rfl rfl ?_; clear S a; intro a S
      refine l_pure S (p_pick_t rfl bc30 rfl) rfl rfl rfl ?_; clear S a; intro a S
      refine l_mv 1 S rfl ?_; clear S a; intro a S
      refine l_nil ?_
      refine e_then ?_
      refine c_cond S rfl (fun bc32 => ?_) (fun bc32 => ?_)
      ·
       have c32 := bc32
       have c32 := of_decide_eq_true c32
       refine wp_seq ?_
       refine c_region ?_
       refine l_mv 1 S rfl ?_; clear S a; intro a S
       obtain ⟨gt, ct, ot, ht1, ht2, ht3, ht4⟩ := hW.p10
       refine l_read S H (r_loadG rfl ht1 ht2 ag139) rfl rfl rfl ?_; clear S a; intro a S
       refine l_mv 1 S rfl ?_; clear S a; intro a S
       refine l_pure S (p_un rfl (fun w => fz.neg64 (by omega) w)) rfl rfl rfl ?_; clear S a; intro a S
       refine l_pure S (p_indexAddr rfl rfl (fun w => ia_slice Tryz.underlying139 sz23 (by omega) (by omega))) rfl rfl rfl ?_; clear S a; intro a S
       refine l_read S H (r_loadG rfl (show _ = some (Value.float .f64 (p10 ((-x)).toNat)) from by rw [Nat.mul_one]; exact ht4 ((-x)).toNat (by omega)) ht3 ag23) rfl rfl rfl ?_; clear S a; intro a S
       refine l_pure S (p_fquo rfl rfl (div_some hf (p10_ok (i := ((-x)).toNat) (by omega)))) rfl rfl rfl ?_; clear S a; intro a S
       refine l_mv 2 S rfl ?_; clear S a; intro a S
       refine l_nil ?_
       refine e_then ?_
       refine wp_ret ?_
       refine e_in_ret ?_
       refine e_then_ret ?_
       have eR : R = ((fdiv f (p10 ((-x)).toNat)), true) := by rw [← hR]; simp only [exa1, bc5, bc8, bc30, bc32, cond_true, cond_false]
       clear hR; subst eR
       exact r_ret2 S rfl rfl rfl ⟨rfl, H⟩
      ·
       have c32 := bc32
       have c32 := of_decide_eq_false c32
       refine wp_skip ?_
       refine e_in 0 ?_
       refine e_then ?_
       refine wp_ret ?_
       have eR : R = (f, false) := by rw [← hR]; simp only [exa1, bc5, bc8, bc30, bc32, cond_true, cond_false]
       clear hR; subst eR
       exact r_ret2 S rfl rfl rfl ⟨rfl, H⟩
     ·
      have c30 := bc30
      have c30 := of_decide_eq_false c30
      refine l_off S rfl rfl rfl rfl bc30 rfl rfl ?_; clear S a; intro a S
      refine l_off S rfl rfl rfl rfl bc30 rfl rfl ?_; clear S a; intro a S
      refine l_pure S (p_pick_f rfl bc30 rfl) rfl rfl rfl ?_; clear S a; intro a S
      refine l_mv 1 S rfl ?_; clear S a; intro a S
      refine l_nil ?_
      refine e_then ?_
      refine c_cond (b := false) S rfl (fun h => by cases h) (fun _ => ?_)
      refine wp_skip ?_
      refine e_in 0 ?_
      refine e_then ?_
      refine wp_ret ?_
      have eR : R = (f, false) := by rw [← hR]; simp only [exa1, bc5, bc8, bc30, cond_true, cond_false]
      clear hR; subst eR
      exact r_ret2 S rfl rfl rfl ⟨rfl, H⟩
  ·
   refine wp_seq ?_
   refine c_region ?_
   refine l_mv 1 S rfl ?_; clear S a; intro a S
   refine l_nil ?_
   refine e_then ?_
   refine c_cond S rfl (fun bc37 => ?_) (fun bc37 => ?_)
   ·
    have c37 := bc37
    refine c_region ?_
    refine l_mv 1 S rfl ?_; clear S a; intro a S
    refine l_pure S (p_fneg rfl) rfl rfl rfl ?_; clear S a; intro a S
    refine l_mv 1 S rfl ?_; clear S a; intro a S
    refine l_nil ?_
    refine e_then ?_
    exact ⟨(fneg (i2f m)), S.only ⟨rfl, rfl, rfl, rfl, trivial⟩, H, by rw [← hR]; simp only [exa, bc3, bc37, cond_true, cond_false], (nn_neg (nn_i2f _))⟩
   ·
    have c37 := bc37
    refine wp_skip ?_
    refine e_then ?_
    exact ⟨(i2f m), S.only ⟨rfl, rfl, rfl, rfl, trivial⟩, H, by rw [← hR]; simp only [exa, bc3, bc37, cond_true, cond_false], (nn_i2f _)⟩
end s4
end Go.Proofs.YtneoieigaakoaaaGreatDoor.pf
end
section
namespace Go.Proofs.YtneoieigaakoaaaGreatDoor.pf
open Go.Proofs.YtneoieigaakoaaaGreatDoor.fx
open Go.RowKit Go.Proofs.HHW Go.Proofs.YtneoieigaakoaaaGreatDoorW.PrintWords
def lg (m : BitVec 64) : Nat := Nat.log2 m.toNat
def and11 (x : Int) : Int := Go.bits .and .i64 x 2047
theorem log2_of {x k : Nat} (h1 : 2 ^ k ≤ x) (h2 : x < 2 ^ (k + 1)) : Nat.log2 x = k := by
 have hx : x ≠ 0 := by have := Nat.pow_pos (n := k) (show 0 < 2 by decide); omega
 have a := (Nat.le_log2 hx).2 h1
 have b := (Nat.log2_lt hx).2 h2
 omega
theorem log2_bd {x : Nat} (hx : x ≠ 0) : 2 ^ Nat.log2 x ≤ x ∧ x < 2 ^ (Nat.log2 x + 1) := ⟨Nat.log2_self_le hx, Nat.lt_log2_self⟩
theorem lg_le (m : BitVec 64) : lg m ≤ 63 := by
 unfold lg
 by_cases h : m.toNat = 0
 ·
  rw [h]; decide
 ·
  have := (Nat.log2_lt h (k := 64)).2 m.isLt; omega
theorem lg_up {m : BitVec 64} (h0 : (m.toNat : Int) ≠ 0) (h : (((m >>> (54 : Nat)).toNat : Nat) : Int) = 0) : lg (m <<< (1 : Nat)) = lg m + 1 := by
 have h1 : m.toNat < 18014398509481984 := by
  rw [BitVec.toNat_ushiftRight, Nat.shiftRight_eq_div_pow] at h
  have : m.toNat / 18014398509481984 = 0 := by omega
  omega
 have h2 : m.toNat ≠ 0 := by omega
 have e : (m <<< (1 : Nat)).toNat = 2 * m.toNat := by rw [BitVec.toNat_shiftLeft, Nat.shiftLeft_eq]; omega
 unfold lg
 rw [e]
 obtain ⟨a, b⟩ := log2_bd h2
 refine log2_of ?_ ?_
 ·
  rw [Nat.pow_succ]; omega
 ·
  rw [Nat.pow_succ]; omega
theorem lg_dn {m : BitVec 64} (h : (m.toNat : Int) > 1) : lg ((m >>> (1 : Nat)) ||| (m &&& 1#64)) + 1 = lg m := by
 have h2 : m.toNat ≠ 0 := by omega
 obtain ⟨a, b⟩ := log2_bd h2
 have hk : 1 ≤ Nat.log2 m.toNat := (Nat.le_log2 h2).2 (by omega)
 obtain ⟨k, e⟩ : ∃ k, Nat.log2 m.toNat = k + 1 := ⟨Nat.log2 m.toNat - 1, by omega⟩
 have hp := Nat.pow_pos (n := k) (show 0 < 2 by decide)
 unfold lg
 rw [e] at a b ⊢
 rw [Nat.pow_succ] at a
 rw [Nat.pow_succ, Nat.pow_succ] at b
 have e1 : (m >>> (1 : Nat)).toNat = m.toNat / 2 := by rw [BitVec.toNat_ushiftRight, Nat.shiftRight_eq_div_pow]
 have e2 : (m &&& 1#64).toNat ≤ 1 := by rw [BitVec.toNat_and]; exact Nat.and_le_right
 refine congrArg (· + 1) (log2_of ?_ ?_)
 ·
  rw [BitVec.toNat_or, e1]
  exact Nat.le_trans (by omega) Nat.left_le_or
 ·
  rw [BitVec.toNat_or, e1]
  exact Nat.or_lt_two_pow (by rw [Nat.pow_succ]; omega) (by rw [Nat.pow_succ]; omega)
theorem big1 {m : BitVec 64} (h : (((m >>> (55 : Nat)).toNat : Nat) : Int) ≠ 0) : (m.toNat : Int) > 1 := by
 rw [BitVec.toNat_ushiftRight, Nat.shiftRight_eq_div_pow] at h
 have : m.toNat / 36028797018963968 ≠ 0 := by omega
 omega
end Go.Proofs.YtneoieigaakoaaaGreatDoor.pf
end
section
namespace Go.Proofs.YtneoieigaakoaaaGreatDoor.pf
open Go.Proofs.YtneoieigaakoaaaGreatDoor.fx
open Go.RowKit Go.Proofs.HHW Go.Proofs.YtneoieigaakoaaaGreatDoorW.PrintWords
namespace s5
theorem sz103 : szB Tryz.prog 103 = some 3 := by kernel_rfl
theorem ptr_ge (w : World) : (eqGuard .eql 101 (.tmp 182) (.global 7) (.pointer (some ⟨9, 0, none⟩)) (.pointer (some ⟨7, 0, none⟩))).run Tryz.prog w = .ok () w := by kernel_rfl
def hx7 (m : BitVec 64) (x : Int) (neg tr : Bool) (bits : BitVec 64) (er : Option Int) : Nat × Option Int := (((bits).toNat), er)
def hx6 (m : BitVec 64) (x : Int) (neg tr : Bool) (mm : BitVec 64) (ex : Int) (er : Option Int) : Nat × Option Int := (bif neg then hx7 m x neg tr (((mm &&& ((1#64 <<< (52 : Nat)) - 1#64)) ||| ((BitVec.ofInt 64 (and11 (ex - (-1023)))) <<< (52 : Nat))) ||| ((1#64 <<< (52 : Nat)) <<< (11 : Nat))) er else hx7 m x neg tr ((mm &&& ((1#64 <<< (52 : Nat)) - 1#64)) ||| ((BitVec.ofInt 64 (and11 (ex - (-1023)))) <<< (52 : Nat))) er)
def hx5 (m : BitVec 64) (x : Int) (neg tr : Bool) (mm : BitVec 64) (ex : Int) : Nat × Option Int := (bif (decide (ex > 1023)) then hx6 m x neg tr (1#64 <<< (52 : Nat)) 1024 (some 1) else hx6 m x neg tr mm ex none)
def hx4 (m : BitVec 64) (x : Int) (neg tr : Bool) (mm : BitVec 64) (ex : Int) : Nat × Option Int := (bif ((((mm >>> (52 : Nat))).toNat : Int) == 0) then hx5 m x neg tr mm (-1023) else hx5 m x neg tr mm ex)
def hx3 (m : BitVec 64) (x : Int) (neg tr : Bool) (mm : BitVec 64) (ex : Int) : Nat × Option Int := (bif (((((mm &&& 3#64) ||| ((mm >>> (2 : Nat)) &&& 1#64))).toNat : Int) == 3) then (bif (((((mm >>> (2 : Nat)) + 1#64)).toNat : Int) == (((1#64 <<< (53 : Nat))).toNat : Int)) then hx4 m x neg tr (((mm >>> (2 : Nat)) + 1#64) >>> (1 : Nat)) ((ex + 2) + 1) else hx4 m x neg tr ((mm >>> (2 : Nat)) + 1#64) (ex + 2)) else hx4 m x neg tr (mm >>> (2 : Nat)) (ex + 2))
def hxc (m : BitVec 64) (x : Int) (neg tr : Bool) : Nat → (BitVec 64) → Int → Nat × Option Int
 | 0, _, _ => default
 | fu + 1, mm, ex => (bif (decide (((mm).toNat : Int) > 1)) then (bif (decide (ex < (-1024))) then hxc m x neg tr fu ((mm >>> (1 : Nat)) ||| (mm &&& 1#64)) (ex + 1) else hx3 m x neg tr mm ex) else hx3 m x neg tr mm ex)
def hx2 (m : BitVec 64) (x : Int) (neg tr : Bool) (mm : BitVec 64) (ex : Int) : Nat × Option Int := hxc m x neg tr ((lg mm) + 1) mm ex
def hxb (m : BitVec 64) (x : Int) (neg tr : Bool) : Nat → (BitVec 64) → Int → Nat × Option Int
 | 0, _, _ => default
 | fu + 1, mm, ex => (bif ((((mm >>> (55 : Nat))).toNat : Int) != 0) then hxb m x neg tr fu ((mm >>> (1 : Nat)) ||| (mm &&& 1#64)) (ex + 1) else hx2 m x neg tr mm ex)
def hx1b (m : BitVec 64) (x : Int) (neg tr : Bool) (mm : BitVec 64) (ex : Int) : Nat × Option Int := hxb m x neg tr ((lg mm) + 1) mm ex
def hx1 (m : BitVec 64) (x : Int) (neg tr : Bool) (mm : BitVec 64) (ex : Int) : Nat × Option Int := (bif tr then hx1b m x neg tr (mm ||| 1#64) ex else hx1b m x neg tr mm ex)
def hxa (m : BitVec 64) (x : Int) (neg tr : Bool) : Nat → (BitVec 64) → Int → Nat × Option Int
 | 0, _, _ => default
 | fu + 1, mm, ex => (bif (((mm).toNat : Int) != 0) then (bif ((((mm >>> (54 : Nat))).toNat : Int) == 0) then hxa m x neg tr fu (mm <<< (1 : Nat)) (ex - 1) else hx1 m x neg tr mm ex) else hx1 m x neg tr mm ex)
def hex (m : BitVec 64) (x : Int) (neg tr : Bool) : Nat × Option Int := hxa m x neg tr ((63 - lg m) + 1) m (x + 52)
set_option maxHeartbeats 2000000 in
theorem hex_ (wb w0 : World) (B : Nat) (L0 : List (Nat × Obj)) (hW : PW 8 9 7 12 11 14 B wb) (s : ByteArray) (m : BitVec 64) (x : Int) (neg tr : Bool) (hx : -7000000 ≤ x ∧ x ≤ 7000000) (H : HH B wb w0 L0) : Calls Tryz.prog 54 #[.string s, .pointer (some ⟨9, 0, none⟩), .int .u64 (m.toNat : Int), .int .i64 x, .bool neg, .bool tr] w0 fun e w' => e = .returned (.tuple #[.float .f64 (hex m x neg tr).1, errV 73 (hex m x neg tr).2]) ∧ HH B wb w' L0 ∧ ((hex m x neg tr).2 = none ∨ (hex m x neg tr).2 = some 1) := by
 generalize hR : hex m x neg tr = R
 refine c_enter (args := [.string s, .pointer (some ⟨9, 0, none⟩), .int .u64 (m.toNat : Int), .int .i64 x, .bool neg, .bool tr]) (k := 186) Tryz.func54 rfl rfl rfl (fun a S => ?_)
 refine wp_seq ?_
 refine c_region ?_
 refine l_mv 2 S rfl ?_; clear S a; intro a S
 refine l_nil ?_
 refine e_then ?_
 refine wp_seq ?_
 refine d_start (id := 1) [] 12 #[false, false, false, false, false, false, false, false, false, false, false, false] H rfl rfl rfl (fun w H => ?_)
 refine d_mv [0, 1, 5, 6] #[true, true, false, false, false, true, true, false, false, false, false, false] S rfl (by kernel_rfl) (fun _ _ _ _ _ h => h) ?_; clear S a; intro a S
 refine d_pure (i := 2) #[true, true, true, false, false, true, true, false, false, false, false, false] S rfl (p_fieldAddr rfl (fun w => fa103_1 w _ _)) (wanted_none rfl) rfl rfl (by kernel_rfl) (fun _ _ _ h => h) ?_; clear S a; intro a S
 refine d_read (i := 3) #[true, true, true, true, false, true, true, false, false, false, false, false] S H rfl (r_loadG rfl hW.inf.2.1 hW.inf.2.2.2 ag87) (wanted_none rfl) rfl rfl (by kernel_rfl) (fun _ _ _ h => h) ?_; clear S a; intro a S
 refine d_pure (i := 4) #[true, true, true, true, true, true, true, false, false, false, false, false] S rfl (p_shl (r := 2048) rfl rfl (by decide) (by decide)) (wanted_none rfl) rfl rfl (by kernel_rfl) (fun _ _ _ h => h) ?_; clear S a; intro a S
 refine d_pure (i := 7) #[true, true, true, true, true, true, true, true, false, false, false, false] S rfl (p_fieldAddr rfl (fun w => fa103_2 w _ _)) (wanted_none rfl) rfl rfl (by kernel_rfl) (fun _ _ _ h => h) ?_; clear S a; intro a S
 refine d_read (i := 8) #[true, true, true, true, true, true, true, true, true, false, false, false] S H rfl (r_loadG rfl hW.inf.2.2.1 hW.inf.2.2.2 ag3) (wanted_none rfl) rfl rfl (by kernel_rfl) (fun _ _ _ h => h) ?_; clear S a; intro a S
 refine d_pure (i := 9) #[true, true, true, true, true, true, true, true, true, true, false, false] S rfl (p_add (r := 1025) rfl rfl (by decide)) (wanted_none rfl) rfl rfl (by kernel_rfl) (fun _ _ _ h => h) ?_; clear S a; intro a S
 refine d_pure (i := 10) #[true, true, true, true, true, true, true, true, true, true, true, false] S rfl (p_sub (r := 1023) rfl rfl (by decide)) (wanted_none rfl) rfl rfl (by kernel_rfl) (fun _ _ _ h => h) ?_; clear S a; intro a S
 refine d_mv [11] #[true, true, true, true, true, true, true, true, true, true, true, true] S rfl (by kernel_rfl) (fun _ _ _ _ _ h => h) ?_; clear S a; intro a S
 refine d_done (by kernel_rfl) ?_
 refine e_then ?_
 refine wp_seq ?_
 refine c_region ?_
 refine l_mv 2 S rfl ?_; clear S a; intro a S
 refine l_pure S (p_fieldAddr rfl (fun w => fa103_2 w _ _)) rfl rfl rfl ?_; clear S a; intro a S
 refine l_read S H (r_loadG rfl hW.inf.2.2.1 hW.inf.2.2.2 ag3) rfl rfl rfl ?_; clear S a; intro a S
 refine l_pure S (p_add (r := (-1022)) rfl rfl (by decide)) rfl rfl rfl ?_; clear S a; intro a S
 refine l_mv 1 S rfl ?_; clear S a; intro a S
 refine l_nil ?_
 refine e_then ?_
 refine wp_seq ?_
 refine c_region ?_
 refine l_mv 3 S rfl ?_; clear S a; intro a S
 refine l_pure S (p_fieldAddr rfl (fun w => fa103_0 w _ _)) rfl rfl rfl ?_; clear S a; intro a S
 refine l_read S H (r_loadG rfl hW.inf.1 hW.inf.2.2.2 ag87) rfl rfl rfl ?_; clear S a; intro a S
 refine l_pure S (p_conv rfl (fun w => cv_int (Tryz.underlying87) (Tryz.underlying3) (r := 52) (by decide))) rfl rfl rfl ?_; clear S a; intro a S
 refine l_pure S (p_add (r := (x + 52)) rfl rfl (IntWalk.i64_in _ (by omega))) rfl rfl rfl ?_; clear S a; intro a S
 refine l_mv 1 S rfl ?_; clear S a; intro a S
 refine l_nil ?_
 refine e_then ?_
 refine c_cut (fun a w => ∃ mm : BitVec 64, ∃ ex : Int, SL a 192 [] [(1, .pointer (some ⟨9, 0, none⟩)), (4, .bool neg), (14, .int .i64 1023), (15, .int .i64 (-1022)), (5, .bool tr), (2, .int .u64 (mm.toNat : Int)), (3, .int .i64 ex)] ∧ HH B wb w (L0) ∧ hx1 m x neg tr mm ex = R ∧ (-8000000 ≤ ex ∧ ex ≤ 8000000)) ?_ ?_
 ·
  clear S a H hR; rintro a w ⟨mm, ex, S, H, hR, hinv⟩
  have hx := hinv
  refine c_cut (fun a w => ∃ mm : BitVec 64, ∃ ex : Int, SL a 192 [] [(1, .pointer (some ⟨9, 0, none⟩)), (4, .bool neg), (14, .int .i64 1023), (15, .int .i64 (-1022)), (2, .int .u64 (mm.toNat : Int)), (3, .int .i64 ex)] ∧ HH B wb w (L0) ∧ hx1b m x neg tr mm ex = R ∧ (-8000000 ≤ ex ∧ ex ≤ 8000000)) ?_ ?_
  ·
   clear S a H hR; rintro a w ⟨mm, ex, S, H, hR, hinv⟩
   have hx := hinv
   refine c_cut (fun a w => ∃ mm : BitVec 64, ∃ ex : Int, SL a 192 [] [(1, .pointer (some ⟨9, 0, none⟩)), (4, .bool neg), (14, .int .i64 1023), (15, .int .i64 (-1022)), (2, .int .u64 (mm.toNat : Int)), (3, .int .i64 ex)] ∧ HH B wb w (L0) ∧ hx2 m x neg tr mm ex = R ∧ (-9000000 ≤ ex ∧ ex ≤ 9000000)) ?_ ?_
   ·
    clear S a H hR; rintro a w ⟨mm, ex, S, H, hR, hinv⟩
    have hx := hinv
    refine c_cut (fun a w => ∃ mm : BitVec 64, ∃ ex : Int, SL a 192 [] [(1, .pointer (some ⟨9, 0, none⟩)), (4, .bool neg), (14, .int .i64 1023), (15, .int .i64 (-1022)), (2, .int .u64 (mm.toNat : Int)), (3, .int .i64 ex)] ∧ HH B wb w (L0) ∧ hx3 m x neg tr mm ex = R ∧ (-10000000 ≤ ex ∧ ex ≤ 10000000)) ?_ ?_
    ·
     clear S a H hR; rintro a w ⟨mm, ex, S, H, hR, hinv⟩
     have hx := hinv
     refine wp_seq ?_
     refine c_region ?_
     refine l_mv 1 S rfl ?_; clear S a; intro a S
     refine l_pure S (p_and rfl rfl (and64 mm 3#64)) rfl rfl rfl ?_; clear S a; intro a S
     refine l_mv 1 S rfl ?_; clear S a; intro a S
     refine l_nil ?_
     refine e_then ?_
     refine wp_seq ?_
     refine c_region ?_
     refine l_mv 1 S rfl ?_; clear S a; intro a S
     refine l_pure S (p_shr rfl rfl (by decide) (shr64 mm (n := (2 : Nat)) rfl (by decide))) rfl rfl rfl ?_; clear S a; intro a S
     refine l_mv 1 S rfl ?_; clear S a; intro a S
     refine l_nil ?_
     refine e_then ?_
     refine wp_seq ?_
     refine c_region ?_
     refine l_mv 2 S rfl ?_; clear S a; intro a S
     refine l_pure S (p_and rfl rfl (and64 (mm >>> (2 : Nat)) 1#64)) rfl rfl rfl ?_; clear S a; intro a S
     refine l_pure S (p_or rfl rfl (or64 (mm &&& 3#64) ((mm >>> (2 : Nat)) &&& 1#64))) rfl rfl rfl ?_; clear S a; intro a S
     refine l_mv 1 S rfl ?_; clear S a; intro a S
     refine l_nil ?_
     refine e_then ?_
     refine wp_seq ?_
     refine c_region ?_
     refine l_mv 1 S rfl ?_; clear S a; intro a S
     refine l_pure S (p_add (r := (ex + 2)) rfl rfl (IntWalk.i64_in _ (by omega))) rfl rfl rfl ?_; clear S a; intro a S
     refine l_mv 1 S rfl ?_; clear S a; intro a S
     refine l_nil ?_
     refine e_then ?_
     refine c_cut (fun a w => ∃ mm : BitVec 64, ∃ ex : Int, SL a 192 [] [(1, .pointer (some ⟨9, 0, none⟩)), (4, .bool neg), (14, .int .i64 1023), (15, .int .i64 (-1022)), (2, .int .u64 (mm.toNat : Int)), (3, .int .i64 ex)] ∧ HH B wb w (L0) ∧ hx4 m x neg tr mm ex = R ∧ (-11000000 ≤ ex ∧ ex ≤ 11000000)) ?_ ?_
     ·
      clear S a H hR; rintro a w ⟨mm, ex, S, H, hR, hinv⟩
      have hx := hinv
      refine c_cut (fun a w => ∃ mm : BitVec 64, ∃ ex : Int, SL a 192 [] [(1, .pointer (some ⟨9, 0, none⟩)), (4, .bool neg), (14, .int .i64 1023), (15, .int .i64 (-1022)), (2, .int .u64 (mm.toNat : Int)), (3, .int .i64 ex)] ∧ HH B wb w (L0) ∧ hx5 m x neg tr mm ex = R ∧ (-12000000 ≤ ex ∧ ex ≤ 12000000)) ?_ ?_
      ·
       clear S a H hR; rintro a w ⟨mm, ex, S, H, hR, hinv⟩
       have hx := hinv
       refine wp_seq ?_
       refine c_region ?_
       refine l_mv 1 S rfl ?_; clear S a; intro a S
       refine l_nil ?_
       refine e_then ?_
       refine c_cut (fun a w => ∃ mm : BitVec 64, ∃ ex : Int, ∃ er : Option Int, SL a 192 [] [(1, .pointer (some ⟨9, 0, none⟩)), (4, .bool neg), (14, .int .i64 1023), (15, .int .i64 (-1022)), (2, .int .u64 (mm.toNat : Int)), (3, .int .i64 ex), (17, errV 73 er)] ∧ HH B wb w (L0) ∧ hx6 m x neg tr mm ex er = R ∧ ((-12000000 ≤ ex ∧ ex ≤ 12000000) ∧ (er = none ∨ er = some 1))) ?_ ?_
       ·
        clear S a H hR; rintro a w ⟨mm, ex, er, S, H, hR, hinv⟩
        obtain ⟨hx, her⟩ := hinv
        refine wp_seq ?_
        refine c_region ?_
        refine l_mv 3 S rfl ?_; clear S a; intro a S
        refine l_pure S (p_fieldAddr rfl (fun w => fa103_0 w _ _)) rfl rfl rfl ?_; clear S a; intro a S
        refine l_read S H (r_loadG rfl hW.inf.1 hW.inf.2.2.2 ag87) rfl rfl rfl ?_; clear S a; intro a S
        refine l_pure S (p_shl rfl rfl (by decide) (shl64 1#64 (n := (52 : Nat)) rfl (by decide))) rfl rfl rfl ?_; clear S a; intro a S
        refine l_pure S (p_sub rfl rfl (sub64 (1#64 <<< (52 : Nat)) 1#64)) rfl rfl rfl ?_; clear S a; intro a S
        refine l_pure S (p_and rfl rfl (and64 mm ((1#64 <<< (52 : Nat)) - 1#64))) rfl rfl rfl ?_; clear S a; intro a S
        refine l_mv 1 S rfl ?_; clear S a; intro a S
        refine l_nil ?_
        refine e_then ?_
        refine wp_seq ?_
        refine d_start (id := 32) [] 22 #[false, false, false, false, false, false, false, false, false, false, false, false, false, false, false, false, false, false, false, false, false, false] H rfl rfl rfl (fun w H => ?_)
        refine d_mv [0, 1, 2, 3, 7, 8, 15, 16] #[true, true, true, true, false, false, false, true, true, false, false, false, false, false, false, true, true, false, false, false, false, false] S rfl (by kernel_rfl) (fun _ _ _ _ _ h => h) ?_; clear S a; intro a S
        refine d_pure (i := 4) #[true, true, true, true, true, false, false, true, true, false, false, false, false, false, false, true, true, false, false, false, false, false] S rfl (p_fieldAddr rfl (fun w => fa103_2 w _ _)) (wanted_none rfl) rfl rfl (by kernel_rfl) (fun _ _ _ h => h) ?_; clear S a; intro a S
        refine d_read (i := 5) #[true, true, true, true, true, true, false, true, true, false, false, false, false, false, false, true, true, false, false, false, false, false] S H rfl (r_loadG rfl hW.inf.2.2.1 hW.inf.2.2.2 ag3) (wanted_none rfl) rfl rfl (by kernel_rfl) (fun _ _ _ h => h) ?_; clear S a; intro a S
        refine d_pure (i := 6) #[true, true, true, true, true, true, true, true, true, false, false, false, false, false, false, true, true, false, false, false, false, false] S rfl (p_sub (r := (ex - (-1023))) rfl rfl (IntWalk.i64_in _ (by omega))) (wanted_none rfl) rfl rfl (by kernel_rfl) (fun _ _ _ h => h) ?_; clear S a; intro a S
        refine d_pure (i := 9) #[true, true, true, true, true, true, true, true, true, true, false, false, false, false, false, true, true, false, false, false, false, false] S rfl (p_fieldAddr rfl (fun w => fa103_1 w _ _)) (wanted_none rfl) rfl rfl (by kernel_rfl) (fun _ _ _ h => h) ?_; clear S a; intro a S
        refine d_read (i := 10) #[true, true, true, true, true, true, true, true, true, true, true, false, false, false, false, true, true, false, false, false, false, false] S H rfl (r_loadG rfl hW.inf.2.1 hW.inf.2.2.2 ag87) (wanted_none rfl) rfl rfl (by kernel_rfl) (fun _ _ _ h => h) ?_; clear S a; intro a S
        refine d_pure (i := 11) #[true, true, true, true, true, true, true, true, true, true, true, true, false, false, false, true, true, false, false, false, false, false] S rfl (p_shl (r := 2048) rfl rfl (by decide) (by decide)) (wanted_none rfl) rfl rfl (by kernel_rfl) (fun _ _ _ h => h) ?_; clear S a; intro a S
        refine d_pure (i := 12) #[true, true, true, true, true, true, true, true, true, true, true, true, true, false, false, true, true, false, false, false, false, false] S rfl (p_sub (r := 2047) rfl rfl (by decide)) (wanted_none rfl) rfl rfl (by kernel_rfl) (fun _ _ _ h => h) ?_; clear S a; intro a S
        refine d_pure (i := 13) #[true, true, true, true, true, true, true, true, true, true, true, true, true, true, false, true, true, false, false, false, false, false] S rfl (p_and (r := and11 (ex - (-1023))) rfl rfl rfl) (wanted_none rfl) rfl rfl (by kernel_rfl) (fun _ _ _ h => h) ?_; clear S a; intro a S
        refine d_pure (i := 14) #[true, true, true, true, true, true, true, true, true, true, true, true, true, true, true, true, true, false, false, false, false, false] S rfl (p_conv rfl (fun w => cv_int (Tryz.underlying3) (Tryz.underlying22) (fz.ofI64 (and11 (ex - (-1023)))))) (wanted_none rfl) rfl rfl (by kernel_rfl) (fun _ _ _ h => h) ?_; clear S a; intro a S
        refine d_pure (i := 17) #[true, true, true, true, true, true, true, true, true, true, true, true, true, true, true, true, true, true, false, false, false, false] S rfl (p_fieldAddr rfl (fun w => fa103_0 w _ _)) (wanted_none rfl) rfl rfl (by kernel_rfl) (fun _ _ _ h => h) ?_; clear S a; intro a S
        refine d_read (i := 18) #[true, true, true, true, true, true, true, true, true, true, true, true, true, true, true, true, true, true, true, false, false, false] S H rfl (r_loadG rfl hW.inf.1 hW.inf.2.2.2 ag87) (wanted_none rfl) rfl rfl (by kernel_rfl) (fun _ _ _ h => h) ?_; clear S a; intro a S
        refine d_pure (i := 19) #[true, true, true, true, true, true, true, true, true, true, true, true, true, true, true, true, true, true, true, true, false, false] S rfl (p_shl rfl rfl (by decide) (shl64 (BitVec.ofInt 64 (and11 (ex - (-1023)))) (n := (52 : Nat)) rfl (by decide))) (wanted_none rfl) rfl rfl (by kernel_rfl) (fun _ _ _ h => h) ?_; clear S a; intro a S
        refine d_pure (i := 20) #[true, true, true, true, true, true, true, true, true, true, true, true, true, true, true, true, true, true, true, true, true, false] S rfl (p_or rfl rfl (or64 (mm &&& ((1#64 <<< (52 : Nat)) - 1#64)) ((BitVec.ofInt 64 (and11 (ex - (-1023)))) <<< (52 : Nat)))) (wanted_none rfl) rfl rfl (by kernel_rfl) (fun _ _ _ h => h) ?_; clear S a; intro a S
        refine d_mv [21] #[true, true, true, true, true, true, true, true, true, true, true, true, true, true, true, true, true, true, true, true, true, true] S rfl (by kernel_rfl) (fun _ _ _ _ _ h => h) ?_; clear S a; intro a S
        refine d_done (by kernel_rfl) ?_
        refine e_then ?_
        refine c_cut (fun a w => ∃ bits : BitVec 64, ∃ er : Option Int, SL a 192 [] [(1, .pointer (some ⟨9, 0, none⟩)), (4, .bool neg), (14, .int .i64 1023), (15, .int .i64 (-1022)), (18, .int .u64 (bits.toNat : Int)), (17, errV 73 er)] ∧ HH B wb w (L0) ∧ hx7 m x neg tr bits er = R ∧ (er = none ∨ er = some 1)) ?_ ?_
        ·
         clear S a H hR; rintro a w ⟨bits, er, S, H, hR, hinv⟩
         have her := hinv
         refine wp_seq ?_
         refine wp_seq ?_
         refine c_region ?_
         refine l_mv 1 S rfl ?_; clear S a; intro a S
         refine l_read S H (r_ptrne Tryz.underlying101 sz103 rfl rfl (by decide) hW.infB hW.inf3.1 hW.inf.2.2.2 hW.inf3.2 (fun w => ptr_ge w)) rfl rfl rfl ?_; clear S a; intro a S
         refine l_nil ?_
         refine e_then ?_
         refine c_cond (b := false) S rfl (fun h => by cases h) (fun _ => ?_)
         refine wp_skip ?_
         refine e_then ?_
         refine wp_seq ?_
         refine c_region ?_
         refine l_mv 1 S rfl ?_; clear S a; intro a S
         refine l_pure S (p_ext (v := .float .f64 (bits).toNat) rfl (fun w => fb_run bits w)) rfl rfl rfl ?_; clear S a; intro a S
         refine l_mv 3 S rfl ?_; clear S a; intro a S
         refine l_nil ?_
         refine e_then ?_
         refine wp_ret ?_
         have eR : R = (((bits).toNat), er) := by rw [← hR]; simp only [hx7, cond_true, cond_false]
         clear hR; subst eR
         exact r_ret2 S rfl rfl rfl ⟨rfl, H, her⟩
        ·
         refine wp_seq ?_
         refine c_region ?_
         refine l_mv 1 S rfl ?_; clear S a; intro a S
         refine l_nil ?_
         refine e_then ?_
         refine c_cond S rfl (fun bc4 => ?_) (fun bc4 => ?_)
         ·
          have c4 := bc4
          refine d_start (id := 34) [] 13 #[false, false, false, false, false, false, false, false, false, false, false, false, false] H rfl rfl rfl (fun w H => ?_)
          refine d_mv [0, 1, 2, 6, 7] #[true, true, true, false, false, false, true, true, false, false, false, false, false] S rfl (by kernel_rfl) (fun _ _ _ _ _ h => h) ?_; clear S a; intro a S
          refine d_pure (i := 3) #[true, true, true, true, false, false, true, true, false, false, false, false, false] S rfl (p_fieldAddr rfl (fun w => fa103_0 w _ _)) (wanted_none rfl) rfl rfl (by kernel_rfl) (fun _ _ _ h => h) ?_; clear S a; intro a S
          refine d_read (i := 4) #[true, true, true, true, true, false, true, true, false, false, false, false, false] S H rfl (r_loadG rfl hW.inf.1 hW.inf.2.2.2 ag87) (wanted_none rfl) rfl rfl (by kernel_rfl) (fun _ _ _ h => h) ?_; clear S a; intro a S
          refine d_pure (i := 5) #[true, true, true, true, true, true, true, true, false, false, false, false, false] S rfl (p_shl rfl rfl (by decide) (shl64 1#64 (n := (52 : Nat)) rfl (by decide))) (wanted_none rfl) rfl rfl (by kernel_rfl) (fun _ _ _ h => h) ?_; clear S a; intro a S
          refine d_pure (i := 8) #[true, true, true, true, true, true, true, true, true, false, false, false, false] S rfl (p_fieldAddr rfl (fun w => fa103_1 w _ _)) (wanted_none rfl) rfl rfl (by kernel_rfl) (fun _ _ _ h => h) ?_; clear S a; intro a S
          refine d_read (i := 9) #[true, true, true, true, true, true, true, true, true, true, false, false, false] S H rfl (r_loadG rfl hW.inf.2.1 hW.inf.2.2.2 ag87) (wanted_none rfl) rfl rfl (by kernel_rfl) (fun _ _ _ h => h) ?_; clear S a; intro a S
          refine d_pure (i := 10) #[true, true, true, true, true, true, true, true, true, true, true, false, false] S rfl (p_shl rfl rfl (by decide) (shl64 (1#64 <<< (52 : Nat)) (n := (11 : Nat)) rfl (by decide))) (wanted_none rfl) rfl rfl (by kernel_rfl) (fun _ _ _ h => h) ?_; clear S a; intro a S
          refine d_pure (i := 11) #[true, true, true, true, true, true, true, true, true, true, true, true, false] S rfl (p_or rfl rfl (or64 ((mm &&& ((1#64 <<< (52 : Nat)) - 1#64)) ||| ((BitVec.ofInt 64 (and11 (ex - (-1023)))) <<< (52 : Nat))) ((1#64 <<< (52 : Nat)) <<< (11 : Nat)))) (wanted_none rfl) rfl rfl (by kernel_rfl) (fun _ _ _ h => h) ?_; clear S a; intro a S
          refine d_mv [12] #[true, true, true, true, true, true, true, true, true, true, true, true, true] S rfl (by kernel_rfl) (fun _ _ _ _ _ h => h) ?_; clear S a; intro a S
          refine d_done (by kernel_rfl) ?_
          refine e_then ?_
          exact ⟨(((mm &&& ((1#64 <<< (52 : Nat)) - 1#64)) ||| ((BitVec.ofInt 64 (and11 (ex - (-1023)))) <<< (52 : Nat))) ||| ((1#64 <<< (52 : Nat)) <<< (11 : Nat))), er, S.only ⟨rfl, rfl, rfl, rfl, rfl, rfl, trivial⟩, H, by rw [← hR]; simp only [hx6, bc4, cond_true, cond_false], her⟩
         ·
          have c4 := bc4
          refine wp_skip ?_
          refine e_then ?_
          exact ⟨((mm &&& ((1#64 <<< (52 : Nat)) - 1#64)) ||| ((BitVec.ofInt 64 (and11 (ex - (-1023)))) <<< (52 : Nat))), er, S.only ⟨rfl, rfl, rfl, rfl, rfl, rfl, trivial⟩, H, by rw [← hR]; simp only [hx6, bc4, cond_true, cond_false], her⟩
       ·
        refine wp_seq ?_
        refine c_region ?_
        refine l_mv 2 S rfl ?_; clear S a; intro a S
        refine l_pure S (p_gtr rfl rfl) rfl rfl rfl ?_; clear S a; intro a S
        refine l_nil ?_
        refine e_then ?_
        refine c_cond S rfl (fun bc6 => ?_) (fun bc6 => ?_)
        ·
         have c6 := bc6
         have c6 := of_decide_eq_true c6
         refine wp_seq ?_
         refine c_region ?_
         refine l_mv 2 S rfl ?_; clear S a; intro a S
         refine l_pure S (p_fieldAddr rfl (fun w => fa103_0 w _ _)) rfl rfl rfl ?_; clear S a; intro a S
         refine l_read S H (r_loadG rfl hW.inf.1 hW.inf.2.2.2 ag87) rfl rfl rfl ?_; clear S a; intro a S
         refine l_pure S (p_shl rfl rfl (by decide) (shl64 1#64 (n := (52 : Nat)) rfl (by decide))) rfl rfl rfl ?_; clear S a; intro a S
         refine l_mv 1 S rfl ?_; clear S a; intro a S
         refine l_nil ?_
         refine e_then ?_
         refine wp_seq ?_
         refine c_region ?_
         refine l_mv 1 S rfl ?_; clear S a; intro a S
         refine l_pure S (p_add (r := 1024) rfl rfl (by decide)) rfl rfl rfl ?_; clear S a; intro a S
         refine l_mv 1 S rfl ?_; clear S a; intro a S
         refine l_nil ?_
         refine e_then ?_
         refine c_region ?_
         refine l_pure S (p_iface rfl (fun w => mk73 w _)) rfl rfl rfl ?_; clear S a; intro a S
         refine l_mv 1 S rfl ?_; clear S a; intro a S
         refine l_nil ?_
         refine e_then ?_
         exact ⟨(1#64 <<< (52 : Nat)), 1024, (some 1), S.only ⟨rfl, rfl, rfl, rfl, rfl, rfl, rfl, trivial⟩, H, by rw [← hR]; simp only [hx5, bc6, cond_true, cond_false], ⟨by omega, by first | exact .inl rfl | exact .inr rfl⟩⟩
        ·
         have c6 := bc6
         have c6 := of_decide_eq_false c6
         refine wp_skip ?_
         refine e_then ?_
         exact ⟨mm, ex, none, S.only ⟨rfl, rfl, rfl, rfl, rfl, rfl, rfl, trivial⟩, H, by rw [← hR]; simp only [hx5, bc6, cond_true, cond_false], ⟨by omega, by first | exact .inl rfl | exact .inr rfl⟩⟩
      ·
       refine wp_seq ?_
       refine c_region ?_
       refine l_mv 3 S rfl ?_; clear S a; intro a S
       refine l_pure S (p_fieldAddr rfl (fun w => fa103_0 w _ _)) rfl rfl rfl ?_; clear S a; intro a S
       refine l_read S H (r_loadG rfl hW.inf.1 hW.inf.2.2.2 ag87) rfl rfl rfl ?_; clear S a; intro a S
       refine l_pure S (p_shr rfl rfl (by decide) (shr64 mm (n := (52 : Nat)) rfl (by decide))) rfl rfl rfl ?_; clear S a; intro a S
       refine l_pure S (p_eql rfl rfl) rfl rfl rfl ?_; clear S a; intro a S
       refine l_nil ?_
       refine e_then ?_
       refine c_cond S rfl (fun bc8 => ?_) (fun bc8 => ?_)
       ·
        have c8 := bc8
        have c8 := eq_of_beq c8
        refine c_region ?_
        refine l_mv 2 S rfl ?_; clear S a; intro a S
        refine l_pure S (p_fieldAddr rfl (fun w => fa103_2 w _ _)) rfl rfl rfl ?_; clear S a; intro a S
        refine l_read S H (r_loadG rfl hW.inf.2.2.1 hW.inf.2.2.2 ag3) rfl rfl rfl ?_; clear S a; intro a S
        refine l_mv 1 S rfl ?_; clear S a; intro a S
        refine l_nil ?_
        refine e_then ?_
        exact ⟨mm, (-1023), S.only ⟨rfl, rfl, rfl, rfl, rfl, rfl, trivial⟩, H, by rw [← hR]; simp only [hx4, bc8, cond_true, cond_false], by omega⟩
       ·
        have c8 := bc8
        have c8 := ne_of_beq_false c8
        refine wp_skip ?_
        refine e_then ?_
        exact ⟨mm, ex, S.only ⟨rfl, rfl, rfl, rfl, rfl, rfl, trivial⟩, H, by rw [← hR]; simp only [hx4, bc8, cond_true, cond_false], by omega⟩
     ·
      refine wp_seq ?_
      refine c_region ?_
      refine l_mv 1 S rfl ?_; clear S a; intro a S
      refine l_pure S (p_eql rfl rfl) rfl rfl rfl ?_; clear S a; intro a S
      refine l_nil ?_
      refine e_then ?_
      refine c_cond S rfl (fun bc10 => ?_) (fun bc10 => ?_)
      ·
       have c10 := bc10
       have c10 := eq_of_beq c10
       refine wp_seq ?_
       refine c_region ?_
       refine l_mv 1 S rfl ?_; clear S a; intro a S
       refine l_pure S (p_add rfl rfl (add64 (mm >>> (2 : Nat)) 1#64)) rfl rfl rfl ?_; clear S a; intro a S
       refine l_mv 1 S rfl ?_; clear S a; intro a S
       refine l_nil ?_
       refine e_then ?_
       refine wp_seq ?_
       refine c_region ?_
       refine l_mv 3 S rfl ?_; clear S a; intro a S
       refine l_pure S (p_fieldAddr rfl (fun w => fa103_0 w _ _)) rfl rfl rfl ?_; clear S a; intro a S
       refine l_read S H (r_loadG rfl hW.inf.1 hW.inf.2.2.2 ag87) rfl rfl rfl ?_; clear S a; intro a S
       refine l_pure S (p_add (r := 53) rfl rfl (by decide)) rfl rfl rfl ?_; clear S a; intro a S
       refine l_pure S (p_shl rfl rfl (by decide) (shl64 1#64 (n := (53 : Nat)) rfl (by decide))) rfl rfl rfl ?_; clear S a; intro a S
       refine l_pure S (p_eql rfl rfl) rfl rfl rfl ?_; clear S a; intro a S
       refine l_nil ?_
       refine e_then ?_
       refine c_cond S rfl (fun bc12 => ?_) (fun bc12 => ?_)
       ·
        have c12 := bc12
        have c12 := eq_of_beq c12
        refine wp_seq ?_
        refine c_region ?_
        refine l_mv 1 S rfl ?_; clear S a; intro a S
        refine l_pure S (p_shr rfl rfl (by decide) (shr64 ((mm >>> (2 : Nat)) + 1#64) (n := (1 : Nat)) rfl (by decide))) rfl rfl rfl ?_; clear S a; intro a S
        refine l_mv 1 S rfl ?_; clear S a; intro a S
        refine l_nil ?_
        refine e_then ?_
        refine c_region ?_
        refine l_mv 1 S rfl ?_; clear S a; intro a S
        refine l_pure S (p_add (r := ((ex + 2) + 1)) rfl rfl (IntWalk.i64_in _ (by omega))) rfl rfl rfl ?_; clear S a; intro a S
        refine l_mv 1 S rfl ?_; clear S a; intro a S
        refine l_nil ?_
        refine e_then ?_
        exact ⟨(((mm >>> (2 : Nat)) + 1#64) >>> (1 : Nat)), ((ex + 2) + 1), S.only ⟨rfl, rfl, rfl, rfl, rfl, rfl, trivial⟩, H, by rw [← hR]; simp only [hx3, bc10, bc12, cond_true, cond_false], by omega⟩
       ·
        have c12 := bc12
        have c12 := ne_of_beq_false c12
        refine wp_skip ?_
        refine e_then ?_
        exact ⟨((mm >>> (2 : Nat)) + 1#64), (ex + 2), S.only ⟨rfl, rfl, rfl, rfl, rfl, rfl, trivial⟩, H, by rw [← hR]; simp only [hx3, bc10, bc12, cond_true, cond_false], by omega⟩
      ·
       have c10 := bc10
       have c10 := ne_of_beq_false c10
       refine wp_skip ?_
       refine e_then ?_
       exact ⟨(mm >>> (2 : Nat)), (ex + 2), S.only ⟨rfl, rfl, rfl, rfl, rfl, rfl, trivial⟩, H, by rw [← hR]; simp only [hx3, bc10, cond_true, cond_false], by omega⟩
    ·
     refine wp_block ?_
     have hl0 := lg_le mm
     refine c_loop (σ := Nat × (BitVec 64) × Int) (fun s_ a w => match s_ with | (k_, mm, ex) => SL a 192 [] [(1, .pointer (some ⟨9, 0, none⟩)), (4, .bool neg), (14, .int .i64 1023), (15, .int .i64 (-1022)), (2, .int .u64 (mm.toNat : Int)), (3, .int .i64 ex)] ∧ HH B wb w (L0) ∧ (hxc m x neg tr k_ mm ex = R ∧ lg mm < k_ ∧ (-9500000 ≤ ex + lg mm ∧ ex + lg mm ≤ 9500000))) (fun s_ => s_.1) ((lg mm) + 1, mm, ex) ⟨S.only ⟨rfl, rfl, rfl, rfl, rfl, rfl, trivial⟩, H, by rw [← hR]; simp only [hx2, cond_true, cond_false], by omega, by omega⟩ ?_
     clear S a H hR; rintro ⟨fu, mm, ex⟩ a w ⟨S, H, hR, hk, hinv⟩
     obtain ⟨fu, rfl⟩ : ∃ j, fu = j + 1 := ⟨fu - 1, by omega⟩
     have hx := hinv
     have hl := lg_le mm
     refine wp_seq ?_
     refine wp_seq ?_
     refine c_region ?_
     refine l_mv 1 S rfl ?_; clear S a; intro a S
     refine l_pure S (p_gtr rfl rfl) rfl rfl rfl ?_; clear S a; intro a S
     refine l_mv 1 S rfl ?_; clear S a; intro a S
     refine l_split (S.of 79 rfl) (fun bc14 => ?_) (fun bc14 => ?_)
     ·
      have c14 := bc14
      have c14 := of_decide_eq_true c14
      refine l_on S rfl rfl rfl rfl bc14 ?_
      refine l_pure S (p_move rfl) rfl rfl rfl ?_; clear S a; intro a S
      refine l_on S rfl rfl rfl rfl bc14 ?_
      refine l_pure S (p_move rfl) rfl rfl rfl ?_; clear S a; intro a S
      refine l_on S rfl rfl rfl rfl bc14 ?_
      refine l_pure S (p_sub (r := (-1024)) rfl rfl (by decide)) rfl rfl rfl ?_; clear S a; intro a S
      refine l_on S rfl rfl rfl rfl bc14 ?_
      refine l_pure S (p_lss rfl rfl) rfl rfl rfl ?_; clear S a; intro a S
      refine l_pure S (p_pick_t rfl bc14 rfl) rfl rfl rfl ?_; clear S a; intro a S
      refine l_nil ?_
      refine e_then ?_
      refine c_cond S rfl (fun bc16 => ?_) (fun bc16 => ?_)
      ·
       have c16 := bc16
       have c16 := of_decide_eq_true c16
       refine wp_skip ?_
       refine e_then ?_
       refine wp_block ?_
       refine wp_seq ?_
       refine c_region ?_
       refine l_mv 1 S rfl ?_; clear S a; intro a S
       refine l_pure S (p_shr rfl rfl (by decide) (shr64 mm (n := (1 : Nat)) rfl (by decide))) rfl rfl rfl ?_; clear S a; intro a S
       refine l_mv 1 S rfl ?_; clear S a; intro a S
       refine l_pure S (p_and rfl rfl (and64 mm 1#64)) rfl rfl rfl ?_; clear S a; intro a S
       refine l_pure S (p_or rfl rfl (or64 (mm >>> (1 : Nat)) (mm &&& 1#64))) rfl rfl rfl ?_; clear S a; intro a S
       refine l_mv 1 S rfl ?_; clear S a; intro a S
       refine l_nil ?_
       refine e_then ?_
       refine c_region ?_
       refine l_mv 1 S rfl ?_; clear S a; intro a S
       refine l_pure S (p_add (r := (ex + 1)) rfl rfl (IntWalk.i64_in _ (by omega))) rfl rfl rfl ?_; clear S a; intro a S
       refine l_mv 1 S rfl ?_; clear S a; intro a S
       refine l_nil ?_
       refine e_in 5 ?_
       refine e_then ?_
       have hd := lg_dn (m := mm) (by omega)
       exact ⟨(fu, ((mm >>> (1 : Nat)) ||| (mm &&& 1#64)), (ex + 1)), ⟨S.only ⟨rfl, rfl, rfl, rfl, rfl, rfl, trivial⟩, H, by rw [← hR]; simp only [hxc, bc14, bc16, cond_true, cond_false], by omega, by omega⟩, Nat.lt_succ_self fu⟩
      ·
       have c16 := bc16
       have c16 := of_decide_eq_false c16
       refine wp_exit ?_
       refine e_then_exit ?_
       refine e_then_exit ?_
       refine e_in_exit ?_
       refine e_then ?_
       exact ⟨mm, ex, S.only ⟨rfl, rfl, rfl, rfl, rfl, rfl, trivial⟩, H, by rw [← hR]; simp only [hxc, bc14, bc16, cond_true, cond_false], by omega⟩
     ·
      have c14 := bc14
      have c14 := of_decide_eq_false c14
      refine l_off S rfl rfl rfl rfl bc14 rfl rfl ?_; clear S a; intro a S
      refine l_off S rfl rfl rfl rfl bc14 rfl rfl ?_; clear S a; intro a S
      refine l_off S rfl rfl rfl rfl bc14 rfl rfl ?_; clear S a; intro a S
      refine l_off S rfl rfl rfl rfl bc14 rfl rfl ?_; clear S a; intro a S
      refine l_pure S (p_pick_f rfl bc14 rfl) rfl rfl rfl ?_; clear S a; intro a S
      refine l_nil ?_
      refine e_then ?_
      refine c_cond (b := false) S rfl (fun h => by cases h) (fun _ => ?_)
      refine wp_exit ?_
      refine e_then_exit ?_
      refine e_then_exit ?_
      refine e_in_exit ?_
      refine e_then ?_
      exact ⟨mm, ex, S.only ⟨rfl, rfl, rfl, rfl, rfl, rfl, trivial⟩, H, by rw [← hR]; simp only [hxc, bc14, cond_true, cond_false], by omega⟩
   ·
    refine wp_block ?_
    have hl0 := lg_le mm
    refine c_loop (σ := Nat × (BitVec 64) × Int) (fun s_ a w => match s_ with | (k_, mm, ex) => SL a 192 [] [(1, .pointer (some ⟨9, 0, none⟩)), (4, .bool neg), (14, .int .i64 1023), (15, .int .i64 (-1022)), (2, .int .u64 (mm.toNat : Int)), (3, .int .i64 ex)] ∧ HH B wb w (L0) ∧ (hxb m x neg tr k_ mm ex = R ∧ lg mm < k_ ∧ (-8500000 ≤ ex + lg mm ∧ ex + lg mm ≤ 8500000))) (fun s_ => s_.1) ((lg mm) + 1, mm, ex) ⟨S.only ⟨rfl, rfl, rfl, rfl, rfl, rfl, trivial⟩, H, by rw [← hR]; simp only [hx1b, cond_true, cond_false], by omega, by omega⟩ ?_
    clear S a H hR; rintro ⟨fu, mm, ex⟩ a w ⟨S, H, hR, hk, hinv⟩
    obtain ⟨fu, rfl⟩ : ∃ j, fu = j + 1 := ⟨fu - 1, by omega⟩
    have hx := hinv
    have hl := lg_le mm
    refine wp_seq ?_
    refine wp_seq ?_
    refine c_region ?_
    refine l_mv 3 S rfl ?_; clear S a; intro a S
    refine l_pure S (p_fieldAddr rfl (fun w => fa103_0 w _ _)) rfl rfl rfl ?_; clear S a; intro a S
    refine l_read S H (r_loadG rfl hW.inf.1 hW.inf.2.2.2 ag87) rfl rfl rfl ?_; clear S a; intro a S
    refine l_pure S (p_add (r := 53) rfl rfl (by decide)) rfl rfl rfl ?_; clear S a; intro a S
    refine l_pure S (p_add (r := 55) rfl rfl (by decide)) rfl rfl rfl ?_; clear S a; intro a S
    refine l_pure S (p_shr rfl rfl (by decide) (shr64 mm (n := (55 : Nat)) rfl (by decide))) rfl rfl rfl ?_; clear S a; intro a S
    refine l_pure S (p_neq rfl rfl) rfl rfl rfl ?_; clear S a; intro a S
    refine l_nil ?_
    refine e_then ?_
    refine c_cond S rfl (fun bc20 => ?_) (fun bc20 => ?_)
    ·
     have c20 := bc20
     have c20 := bne_iff_ne.1 c20
     refine wp_skip ?_
     refine e_then ?_
     refine wp_block ?_
     refine wp_seq ?_
     refine c_region ?_
     refine l_mv 1 S rfl ?_; clear S a; intro a S
     refine l_pure S (p_shr rfl rfl (by decide) (shr64 mm (n := (1 : Nat)) rfl (by decide))) rfl rfl rfl ?_; clear S a; intro a S
     refine l_mv 1 S rfl ?_; clear S a; intro a S
     refine l_pure S (p_and rfl rfl (and64 mm 1#64)) rfl rfl rfl ?_; clear S a; intro a S
     refine l_pure S (p_or rfl rfl (or64 (mm >>> (1 : Nat)) (mm &&& 1#64))) rfl rfl rfl ?_; clear S a; intro a S
     refine l_mv 1 S rfl ?_; clear S a; intro a S
     refine l_nil ?_
     refine e_then ?_
     refine c_region ?_
     refine l_mv 1 S rfl ?_; clear S a; intro a S
     refine l_pure S (p_add (r := (ex + 1)) rfl rfl (IntWalk.i64_in _ (by omega))) rfl rfl rfl ?_; clear S a; intro a S
     refine l_mv 1 S rfl ?_; clear S a; intro a S
     refine l_nil ?_
     refine e_in 3 ?_
     refine e_then ?_
     have hd := lg_dn (m := mm) (big1 (by omega))
     exact ⟨(fu, ((mm >>> (1 : Nat)) ||| (mm &&& 1#64)), (ex + 1)), ⟨S.only ⟨rfl, rfl, rfl, rfl, rfl, rfl, trivial⟩, H, by rw [← hR]; simp only [hxb, bc20, cond_true, cond_false], by omega, by omega⟩, Nat.lt_succ_self fu⟩
    ·
     have c20 := bc20
     have c20 := bne_eq_false_iff_eq.1 c20
     refine wp_exit ?_
     refine e_then_exit ?_
     refine e_then_exit ?_
     refine e_in_exit ?_
     refine e_then ?_
     exact ⟨mm, ex, S.only ⟨rfl, rfl, rfl, rfl, rfl, rfl, trivial⟩, H, by rw [← hR]; simp only [hxb, bc20, cond_true, cond_false], by omega⟩
  ·
   refine wp_seq ?_
   refine c_region ?_
   refine l_mv 1 S rfl ?_; clear S a; intro a S
   refine l_nil ?_
   refine e_then ?_
   refine c_cond S rfl (fun bc22 => ?_) (fun bc22 => ?_)
   ·
    have c22 := bc22
    refine c_region ?_
    refine l_mv 1 S rfl ?_; clear S a; intro a S
    refine l_pure S (p_or rfl rfl (or64 mm 1#64)) rfl rfl rfl ?_; clear S a; intro a S
    refine l_mv 1 S rfl ?_; clear S a; intro a S
    refine l_nil ?_
    refine e_then ?_
    exact ⟨(mm ||| 1#64), ex, S.only ⟨rfl, rfl, rfl, rfl, rfl, rfl, trivial⟩, H, by rw [← hR]; simp only [hx1, bc22, cond_true, cond_false], by omega⟩
   ·
    have c22 := bc22
    refine wp_skip ?_
    refine e_then ?_
    exact ⟨mm, ex, S.only ⟨rfl, rfl, rfl, rfl, rfl, rfl, trivial⟩, H, by rw [← hR]; simp only [hx1, bc22, cond_true, cond_false], by omega⟩
 ·
  refine wp_block ?_
  have hl0 := lg_le m
  refine c_loop (σ := Nat × (BitVec 64) × Int) (fun s_ a w => match s_ with | (k_, mm, ex) => SL a 192 [] [(1, .pointer (some ⟨9, 0, none⟩)), (4, .bool neg), (14, .int .i64 1023), (15, .int .i64 (-1022)), (5, .bool tr), (2, .int .u64 (mm.toNat : Int)), (3, .int .i64 ex)] ∧ HH B wb w (L0) ∧ (hxa m x neg tr k_ mm ex = R ∧ 63 - lg mm < k_ ∧ (-7500000 ≤ ex + lg mm ∧ ex + lg mm ≤ 7500000))) (fun s_ => s_.1) ((63 - lg m) + 1, m, (x + 52)) ⟨S.only ⟨rfl, rfl, rfl, rfl, rfl, rfl, rfl, trivial⟩, H, by rw [← hR]; simp only [hex, cond_true, cond_false], by omega, by omega⟩ ?_
  clear S a H hR; rintro ⟨fu, mm, ex⟩ a w ⟨S, H, hR, hk, hinv⟩
  obtain ⟨fu, rfl⟩ : ∃ j, fu = j + 1 := ⟨fu - 1, by omega⟩
  have hx := hinv
  have hl := lg_le mm
  refine wp_seq ?_
  refine wp_seq ?_
  refine c_region ?_
  refine l_mv 1 S rfl ?_; clear S a; intro a S
  refine l_pure S (p_neq rfl rfl) rfl rfl rfl ?_; clear S a; intro a S
  refine l_mv 1 S rfl ?_; clear S a; intro a S
  refine l_split (S.of 44 rfl) (fun bc24 => ?_) (fun bc24 => ?_)
  ·
   have c24 := bc24
   have c24 := bne_iff_ne.1 c24
   refine l_on S rfl rfl rfl rfl bc24 ?_
   refine l_pure S (p_move rfl) rfl rfl rfl ?_; clear S a; intro a S
   refine l_on S rfl rfl rfl rfl bc24 ?_
   refine l_pure S (p_move rfl) rfl rfl rfl ?_; clear S a; intro a S
   refine l_on S rfl rfl rfl rfl bc24 ?_
   refine l_pure S (p_nilCheck rfl) rfl rfl rfl ?_; clear S a; intro a S
   refine l_on S rfl rfl rfl rfl bc24 ?_
   refine l_pure S (p_fieldAddr rfl (fun w => fa103_0 w _ _)) rfl rfl rfl ?_; clear S a; intro a S
   refine l_on S rfl rfl rfl rfl bc24 ?_
   refine l_read S H (r_loadG rfl hW.inf.1 hW.inf.2.2.2 ag87) rfl rfl rfl ?_; clear S a; intro a S
   refine l_on S rfl rfl rfl rfl bc24 ?_
   refine l_pure S (p_add (r := 54) rfl rfl (by decide)) rfl rfl rfl ?_; clear S a; intro a S
   refine l_on S rfl rfl rfl rfl bc24 ?_
   refine l_pure S (p_shr rfl rfl (by decide) (shr64 mm (n := (54 : Nat)) rfl (by decide))) rfl rfl rfl ?_; clear S a; intro a S
   refine l_on S rfl rfl rfl rfl bc24 ?_
   refine l_pure S (p_eql rfl rfl) rfl rfl rfl ?_; clear S a; intro a S
   refine l_pure S (p_pick_t rfl bc24 rfl) rfl rfl rfl ?_; clear S a; intro a S
   refine l_nil ?_
   refine e_then ?_
   refine c_cond S rfl (fun bc26 => ?_) (fun bc26 => ?_)
   ·
    have c26 := bc26
    have c26 := eq_of_beq c26
    refine wp_skip ?_
    refine e_then ?_
    refine wp_block ?_
    refine wp_seq ?_
    refine c_region ?_
    refine l_mv 1 S rfl ?_; clear S a; intro a S
    refine l_pure S (p_shl rfl rfl (by decide) (shl64 mm (n := (1 : Nat)) rfl (by decide))) rfl rfl rfl ?_; clear S a; intro a S
    refine l_mv 1 S rfl ?_; clear S a; intro a S
    refine l_nil ?_
    refine e_then ?_
    refine c_region ?_
    refine l_mv 1 S rfl ?_; clear S a; intro a S
    refine l_pure S (p_sub (r := (ex - 1)) rfl rfl (IntWalk.i64_in _ (by omega))) rfl rfl rfl ?_; clear S a; intro a S
    refine l_mv 1 S rfl ?_; clear S a; intro a S
    refine l_nil ?_
    refine e_in 1 ?_
    refine e_then ?_
    have hd := lg_up (m := mm) (by omega) (by omega)
    have hl2 := lg_le (mm <<< (1 : Nat))
    exact ⟨(fu, (mm <<< (1 : Nat)), (ex - 1)), ⟨S.only ⟨rfl, rfl, rfl, rfl, rfl, rfl, rfl, trivial⟩, H, by rw [← hR]; simp only [hxa, bc24, bc26, cond_true, cond_false], by omega, by omega⟩, Nat.lt_succ_self fu⟩
   ·
    have c26 := bc26
    have c26 := ne_of_beq_false c26
    refine wp_exit ?_
    refine e_then_exit ?_
    refine e_then_exit ?_
    refine e_in_exit ?_
    refine e_then ?_
    exact ⟨mm, ex, S.only ⟨rfl, rfl, rfl, rfl, rfl, rfl, rfl, trivial⟩, H, by rw [← hR]; simp only [hxa, bc24, bc26, cond_true, cond_false], by omega⟩
  ·
   have c24 := bc24
   have c24 := bne_eq_false_iff_eq.1 c24
   refine l_off S rfl rfl rfl rfl bc24 rfl rfl ?_; clear S a; intro a S
   refine l_off S rfl rfl rfl rfl bc24 rfl rfl ?_; clear S a; intro a S
   refine l_off S rfl rfl rfl rfl bc24 rfl rfl ?_; clear S a; intro a S
   refine l_off S rfl rfl rfl rfl bc24 rfl rfl ?_; clear S a; intro a S
   refine l_off S rfl rfl rfl rfl bc24 rfl rfl ?_; clear S a; intro a S
   refine l_off S rfl rfl rfl rfl bc24 rfl rfl ?_; clear S a; intro a S
   refine l_off S rfl rfl rfl rfl bc24 rfl rfl ?_; clear S a; intro a S
   refine l_off S rfl rfl rfl rfl bc24 rfl rfl ?_; clear S a; intro a S
   refine l_pure S (p_pick_f rfl bc24 rfl) rfl rfl rfl ?_; clear S a; intro a S
   refine l_nil ?_
   refine e_then ?_
   refine c_cond (b := false) S rfl (fun h => by cases h) (fun _ => ?_)
   refine wp_exit ?_
   refine e_then_exit ?_
   refine e_then_exit ?_
   refine e_in_exit ?_
   refine e_then ?_
   exact ⟨mm, ex, S.only ⟨rfl, rfl, rfl, rfl, rfl, rfl, rfl, trivial⟩, H, by rw [← hR]; simp only [hxa, bc24, cond_true, cond_false], by omega⟩
end s5
end Go.Proofs.YtneoieigaakoaaaGreatDoor.pf
end
section
namespace Go.Proofs.YtneoieigaakoaaaGreatDoor.pf
open Go.Proofs.YtneoieigaakoaaaGreatDoor.fx
open Go.RowKit Go.Proofs.HHW Go.Proofs.YtneoieigaakoaaaGreatDoorW.PrintWords
def decL (D : Int → Int) (nd dp : Int) (ng tr : Bool) : List Value := (List.range 800).map (fun i : Nat => Value.int .u8 (D (i : Int))) ++ [.int .i64 nd, .int .i64 dp, .bool ng, .bool tr]
def decC (D : Int → Int) (nd dp : Int) (ng tr : Bool) : Array Value := (decL D nd dp ng tr).toArray
def upd (D : Int → Int) (x v : Int) : Int → Int := fun i => if i = x then v else D i
section
variable {D : Int → Int} {nd dp : Int} {ng tr : Bool}
theorem decL_len : (decL D nd dp ng tr).length = 804 := by simp [decL]
theorem dec_size : (decC D nd dp ng tr).size = 804 := decL_len
theorem decL_hi {j : Nat} (h : 800 ≤ j) : (decL D nd dp ng tr)[j]? = [Value.int .i64 nd, .int .i64 dp, .bool ng, .bool tr][j - 800]? := by
 unfold decL
 rw [List.getElem?_append_right (by simp; omega)]
 simp
theorem decL_lo {j : Nat} (h : j < 800) : (decL D nd dp ng tr)[j]? = some (.int .u8 (D (j : Int))) := by
 unfold decL
 rw [List.getElem?_append_left (by simp; omega), List.getElem?_map, List.getElem?_range h]; rfl
theorem dec_nd : (decC D nd dp ng tr)[800]? = some (.int .i64 nd) := by unfold decC; rw [List.getElem?_toArray, decL_hi (by decide)]; rfl
theorem dec_dp : (decC D nd dp ng tr)[801]? = some (.int .i64 dp) := by unfold decC; rw [List.getElem?_toArray, decL_hi (by decide)]; rfl
theorem dec_ng : (decC D nd dp ng tr)[802]? = some (.bool ng) := by unfold decC; rw [List.getElem?_toArray, decL_hi (by decide)]; rfl
theorem dec_tr : (decC D nd dp ng tr)[803]? = some (.bool tr) := by unfold decC; rw [List.getElem?_toArray, decL_hi (by decide)]; rfl
theorem dec_at {j : Nat} {X : Int} (hj : (j : Int) = X) (hX : 0 ≤ X ∧ X < 800) : (decC D nd dp ng tr)[j]? = some (.int .u8 (D X)) := by
 subst hj
 unfold decC
 rw [List.getElem?_toArray, decL_lo (by omega)]
theorem dec_ext {l : List Value} (h : l.length = 804) (hlo : ∀ j, j < 800 → l[j]? = some (.int .u8 (D (j : Int)))) (h0 : l[800]? = some (.int .i64 nd)) (h1 : l[801]? = some (.int .i64 dp)) (h2 : l[802]? = some (.bool ng)) (h3 : l[803]? = some (.bool tr)) : l = decL D nd dp ng tr := by
 apply List.ext_getElem?
 intro j
 rcases Nat.lt_or_ge j 800 with h' | h'
 ·
  rw [hlo j h', decL_lo h']
 ·
  rw [decL_hi h']
  rcases Nat.lt_or_ge j 804 with h'' | h''
  ·
   have : j = 800 ∨ j = 801 ∨ j = 802 ∨ j = 803 := by omega
   rcases this with rfl | rfl | rfl | rfl
   ·
    rw [h0]; rfl
   ·
    rw [h1]; rfl
   ·
    rw [h2]; rfl
   ·
    rw [h3]; rfl
  ·
   rw [List.getElem?_eq_none (by omega), List.getElem?_eq_none (by simp; omega)]
theorem set_eq {j : Nat} {v : Value} {D' : Int → Int} {nd' dp' : Int} {ng' tr' : Bool} (h : (decL D nd dp ng tr).set j v = decL D' nd' dp' ng' tr') : (decC D nd dp ng tr).setIfInBounds j v = decC D' nd' dp' ng' tr' := by
 unfold decC
 rw [← h, List.setIfInBounds_toArray]
theorem dec_set {j : Nat} {X v : Int} (hj : (j : Int) = X) (hX : 0 ≤ X ∧ X < 800) : (decC D nd dp ng tr).setIfInBounds j (.int .u8 v) = decC (upd D X v) nd dp ng tr := by
 subst hj
 refine set_eq (dec_ext (by rw [List.length_set, decL_len]) (fun i hi => ?_) ?_ ?_ ?_ ?_)
 ·
  rw [List.getElem?_set]
  by_cases h : j = i
  ·
   subst h; simp [upd, decL_len]; omega
  ·
   rw [if_neg h, decL_lo hi]
   have : (i : Int) ≠ (j : Int) := by omega
   simp [upd, this]
 all_goals rw [List.getElem?_set, if_neg (by omega), decL_hi (by decide)]; rfl
theorem set_nd {v : Int} : (decC D nd dp ng tr).setIfInBounds 800 (.int .i64 v) = decC D v dp ng tr := by
 refine set_eq (dec_ext (by rw [List.length_set, decL_len]) (fun i hi => by rw [List.getElem?_set, if_neg (by omega), decL_lo hi]) ?_ ?_ ?_ ?_)
 ·
  rw [List.getElem?_set, if_pos rfl, if_pos (by rw [decL_len]; decide)]
 all_goals rw [List.getElem?_set, if_neg (by omega), decL_hi (by decide)]; rfl
theorem set_dp {v : Int} : (decC D nd dp ng tr).setIfInBounds 801 (.int .i64 v) = decC D nd v ng tr := by
 refine set_eq (dec_ext (by rw [List.length_set, decL_len]) (fun i hi => by rw [List.getElem?_set, if_neg (by omega), decL_lo hi]) ?_ ?_ ?_ ?_)
 ·
  rw [List.getElem?_set, if_neg (by omega), decL_hi (by decide)]; rfl
 ·
  rw [List.getElem?_set, if_pos rfl, if_pos (by rw [decL_len]; decide)]
 all_goals rw [List.getElem?_set, if_neg (by omega), decL_hi (by decide)]; rfl
theorem set_ng {v : Bool} : (decC D nd dp ng tr).setIfInBounds 802 (.bool v) = decC D nd dp v tr := by
 refine set_eq (dec_ext (by rw [List.length_set, decL_len]) (fun i hi => by rw [List.getElem?_set, if_neg (by omega), decL_lo hi]) ?_ ?_ ?_ ?_)
 ·
  rw [List.getElem?_set, if_neg (by omega), decL_hi (by decide)]; rfl
 ·
  rw [List.getElem?_set, if_neg (by omega), decL_hi (by decide)]; rfl
 ·
  rw [List.getElem?_set, if_pos rfl, if_pos (by rw [decL_len]; decide)]
 ·
  rw [List.getElem?_set, if_neg (by omega), decL_hi (by decide)]; rfl
theorem set_tr {v : Bool} : (decC D nd dp ng tr).setIfInBounds 803 (.bool v) = decC D nd dp ng v := by
 refine set_eq (dec_ext (by rw [List.length_set, decL_len]) (fun i hi => by rw [List.getElem?_set, if_neg (by omega), decL_lo hi]) ?_ ?_ ?_ ?_)
 ·
  rw [List.getElem?_set, if_neg (by omega), decL_hi (by decide)]; rfl
 ·
  rw [List.getElem?_set, if_neg (by omega), decL_hi (by decide)]; rfl
 ·
  rw [List.getElem?_set, if_neg (by omega), decL_hi (by decide)]; rfl
 ·
  rw [List.getElem?_set, if_pos rfl, if_pos (by rw [decL_len]; decide)]
end
theorem quoI {x y : Int} (hx : 0 ≤ x ∧ x < 18446744073709551616) (hy : 0 < y) : IntKind.u64.wrap (Int.tdiv x y) = x / y := by
 rw [Int.tdiv_eq_ediv_of_nonneg hx.1]
 have h1 : 0 ≤ x / y := Int.ediv_nonneg hx.1 (Int.le_of_lt hy)
 have h2 : x / y ≤ x := Int.ediv_le_self _ hx.1
 exact IntWalk.u64_in _ (by omega)
theorem shrU {x i : Int} {k : Nat} (hi : i = (k : Int)) (hk : k ≤ 64) : x.fdiv (2 ^ (min i.toNat IntKind.u64.bits)) = x / 2 ^ k := by
 subst hi
 rw [show min ((k : Nat) : Int).toNat IntKind.u64.bits = k from Nat.min_eq_left hk]
 exact Int.fdiv_eq_ediv_of_nonneg _ (Int.le_of_lt (Int.pow_pos (by decide)))
theorem shlU {x i : Int} {k : Nat} (hi : i = (k : Int)) (hk : k ≤ 64) (h : 0 ≤ x * 2 ^ k ∧ x * 2 ^ k ≤ 18446744073709551615) : IntKind.u64.wrap (x * 2 ^ (min i.toNat IntKind.u64.bits)) = x * 2 ^ k := by
 subst hi
 rw [show min ((k : Nat) : Int).toNat IntKind.u64.bits = k from Nat.min_eq_left hk]
 exact IntWalk.u64_in _ h
theorem pow_k {k : Nat} (h1 : 1 ≤ k) (h2 : k ≤ 60) : (2 : Int) ≤ 2 ^ k ∧ (2 : Int) ^ k ≤ 1152921504606846976 := by
 have a : (2 : Nat) ^ 1 ≤ 2 ^ k := Nat.pow_le_pow_right (by decide) h1
 have b : (2 : Nat) ^ k ≤ 2 ^ 60 := Nat.pow_le_pow_right (by decide) h2
 have e : ((2 ^ k : Nat) : Int) = 2 ^ k := by rw [Int.natCast_pow]; rfl
 rw [← e]
 have c : (2 : Nat) ^ 60 = 1152921504606846976 := by decide
 omega
theorem andU {x : Int} {k : Nat} (hx : 0 ≤ x ∧ x < 18446744073709551616) (hk : k ≤ 60) : IntKind.u64.wrap (BitVec.ofInt IntKind.u64.bits x &&& BitVec.ofInt IntKind.u64.bits (2 ^ k - 1)).toNat = x % 2 ^ k := by
 obtain ⟨n, rfl⟩ := Int.eq_ofNat_of_zero_le hx.1
 have e : ((2 : Int) ^ k - 1) = ((2 ^ k - 1 : Nat) : Int) := by
  have := Nat.pow_pos (n := k) (show 0 < 2 by decide)
  rw [Int.natCast_sub (by omega), Int.natCast_pow]; rfl
 have b : (2 : Nat) ^ k ≤ 2 ^ 60 := Nat.pow_le_pow_right (by decide) hk
 have c : (2 : Nat) ^ 60 = 1152921504606846976 := by decide
 have hp := Nat.pow_pos (n := k) (show 0 < 2 by decide)
 rw [e, BitVec.ofInt_natCast, BitVec.ofInt_natCast, BitVec.toNat_and, BitVec.toNat_ofNat, BitVec.toNat_ofNat]
 rw [show 2 ^ IntKind.u64.bits = 18446744073709551616 from by decide]
 rw [Nat.mod_eq_of_lt (by omega), Nat.mod_eq_of_lt (a := 2 ^ k - 1) (by omega), Nat.and_two_pow_sub_one_eq_mod]
 have hm := Nat.mod_lt n hp
 rw [IntKind.wrap_u64]
 have e2 : ((n % 2 ^ k : Nat) : Int) = (n : Int) % 2 ^ k := by rw [Int.natCast_emod, Int.natCast_pow]; rfl
 rw [← e2]
 omega
end Go.Proofs.YtneoieigaakoaaaGreatDoor.pf
end
section
namespace Go.Proofs.YtneoieigaakoaaaGreatDoor.pf
open Go.Proofs.YtneoieigaakoaaaGreatDoor.fx
open Go.RowKit Go.Proofs.HHW Go.Proofs.YtneoieigaakoaaaGreatDoorW.PrintWords
def Z0 : Int → Int := fun _ => 0
def Dg (D : Int → Int) (n : Int) : Prop := (∀ i, 0 ≤ i → i < n → 48 ≤ D i ∧ D i ≤ 57) ∧ (0 < n → D 0 ≠ 48)
theorem Dg.zero (D : Int → Int) : Dg D 0 := ⟨fun i a b => by omega, fun h => by omega⟩
theorem Dg.upd {D : Int → Int} {n c : Int} (h : Dg D n) (hn : 0 ≤ n) (hc : 48 ≤ c ∧ c ≤ 57) (h0 : n = 0 → c ≠ 48) : Dg (pf.upd D n c) (n + 1) := by
 refine ⟨fun i a b => ?_, fun _ => ?_⟩
 ·
  unfold pf.upd
  split
  ·
   exact hc
  ·
   exact h.1 i a (by omega)
 ·
  unfold pf.upd
  split
  ·
   exact h0 (by omega)
  ·
   exact h.2 (by omega)
theorem pwt_bd {i : Nat} (h : i < 9) : 1 ≤ pwt i ∧ pwt i ≤ 26 := by
 have key : ∀ i : Fin 9, 1 ≤ pwt i.val ∧ pwt i.val ≤ 26 := by decide
 exact key ⟨i, h⟩
theorem cells_agg (cs : Array Value) : (Value.agg cs).cells = cs := rfl
theorem al_dec {P : Program} {t : TypeId} {cs : Array Value} (hz : zvB P t = some (.agg cs)) (w : World) : (Instr.alloc t true (.tuple #[])).run P w = .ok (.pointer (some ⟨w.heap.size, 0, none⟩)) (w.alloc (.cells cs t (0, 0))) := by
 have := al hz (w := w)
 rwa [cells_agg] at this
end Go.Proofs.YtneoieigaakoaaaGreatDoor.pf
end
