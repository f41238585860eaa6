/- The proof of laws.FnValueFromBytes: a value of a kind is read from any bytes as the rules of its kind say, or refused; what is too great is told so. Conditions: those of the given row (the listed variables read as laid). -/
import Derived.Test.YtneoieigaakoaaaGreatDoorQ05
import Derived.Test.YtneoieigaakoaaaGreatDoorQ03
import Derived.Test.YtneoieigaakoaaaGreatDoorProg
import Derived.Test.YtneoieigaakoaaaGreatDoorQ02
import Derived.Test.YtneoieigaakoaaaGreatDoorQ01
import Derived.Test.YtneoieigaakoaaaGreatDoorQ06
import Derived.WalkKit
import Derived.ProofKit
import Derived.ChangeOld
import Derived.LaidMore
import Derived.Lay
import Derived.Stop.LaidErr
import Derived.Lib.LaidU8T
import Derived.DataElems
set_option linter.unusedVariables false
set_option linter.unusedSimpArgs false
section
namespace Go.Proofs.YtneoieigaakoaaaGreatDoor.pf
open Go.Proofs.YtneoieigaakoaaaGreatDoor.fx
open Go.RowKit Go.Proofs.HHW Go.Proofs.YtneoieigaakoaaaGreatDoorW.PrintWords
namespace ws
def whl2 (s : ByteArray) (sg : Bool) (z : ByteArray) (mi : Bool) (u : Int) : Int × Bool × Bool := (bif (!sg) then ((IntKind.i64.wrap u), true, false) else (bif (!mi) then (bif (decide (u ≤ 9223372036854775807)) then ((IntKind.i64.wrap u), true, false) else (0, false, true)) else (bif (decide (u ≤ 9223372036854775808)) then ((IntKind.i64.wrap (0 - (IntKind.i64.wrap u))), true, false) else (0, false, true))))
def whll (s : ByteArray) (sg : Bool) : Nat → ByteArray → Bool → Int → Int → Int × Bool × Bool
 | 0, _, _, _, _ => default
 | fu + 1, z, mi, u, i => (bif (decide (i < ((z.size : Nat) : Int))) then (bif (decide ((HHW.bt z i) < 48)) then (0, false, false) else (bif (decide ((HHW.bt z i) > 57)) then (0, false, false) else (bif (decide (u > ((18446744073709551615 - ((HHW.bt z i) - 48)) / 10))) then (0, false, true) else whll s sg fu z mi ((u * 10) + ((HHW.bt z i) - 48)) (i + 1)))) else whl2 s sg z mi u)
def whl1 (s : ByteArray) (sg : Bool) (z : ByteArray) (mi : Bool) : Int × Bool × Bool := (bif (z.toList == (⟨#[]⟩ : ByteArray).toList) then (0, false, false) else whll s sg ((((z.size : Int) - 0).toNat) + 1) z mi 0 0)
def whl (s : ByteArray) (sg : Bool) : Int × Bool × Bool := (bif sg then (bif (!(s.toList == (⟨#[]⟩ : ByteArray).toList)) then (bif ((HHW.bt s 0) == 43) then whl1 s sg (s.extract (1 : Int).toNat s.size) ((HHW.bt s 0) == 45) else (bif ((HHW.bt s 0) == 45) then whl1 s sg (s.extract (1 : Int).toNat s.size) ((HHW.bt s 0) == 45) else whl1 s sg s false)) else whl1 s sg s false) else whl1 s sg s false)
set_option maxHeartbeats 2000000 in
theorem whl_ (wb w0 : World) (B : Nat) (L0 : List (Nat × Obj)) (s : ByteArray) (sg : Bool) (hs : s.size ≤ 1000000) (H : HH B wb w0 L0) : Calls Tryz.prog 12 #[.string s, .bool sg] w0 fun e w' => e = .returned (.tuple #[.int .i64 (whl s sg).1, .bool (whl s sg).2.1, .bool (whl s sg).2.2]) ∧ HH B wb w' L0 ∧ WRes s sg (whl s sg) := by
 generalize hR : whl s sg = R
 refine c_enter (args := [.string s, .bool sg]) (k := 84) Tryz.func12 rfl rfl rfl (fun a S => ?_)
 refine wp_seq ?_
 refine c_region ?_
 refine l_mv 3 S rfl ?_; clear S a; intro a S
 refine l_nil ?_
 refine e_then ?_
 refine wp_seq ?_
 refine c_region ?_
 refine l_mv 1 S rfl ?_; clear S a; intro a S
 refine l_nil ?_
 refine e_then ?_
 refine c_cut (fun a w => ∃ z : ByteArray, ∃ mi : Bool, SL a 86 [] [(1, .bool sg), (4, .int .i64 0), (5, .bool false), (6, .bool false), (0, .string z), (7, .bool mi)] ∧ HH B wb w (L0) ∧ whl1 s sg z mi = R ∧ (Sgn s sg z mi ∧ z.size ≤ 1000000)) ?_ ?_
 ·
  clear S a H hR; rintro a w ⟨z, mi, S, H, hR, hinv⟩
  obtain ⟨hsg, hz⟩ := hinv
  refine wp_seq ?_
  refine wp_seq ?_
  refine c_region ?_
  refine l_mv 1 S rfl ?_; clear S a; intro a S
  refine l_pure S (p_seql rfl rfl) rfl rfl rfl ?_; clear S a; intro a S
  refine l_nil ?_
  refine e_then ?_
  refine c_cond S rfl (fun bc5 => ?_) (fun bc5 => ?_)
  ·
   have c5 := bc5
   refine wp_seq ?_
   refine c_region ?_
   refine l_mv 3 S rfl ?_; clear S a; intro a S
   refine l_nil ?_
   refine e_then ?_
   refine wp_ret ?_
   refine e_then_ret ?_
   have eR : R = (0, false, false) := by rw [← hR]; simp only [whl1, bc5, cond_true, cond_false]
   clear hR; subst eR
   exact r_ret3 S rfl rfl rfl rfl ⟨rfl, H, z, mi, hsg, .inl ⟨toList_e2 bc5, rfl⟩⟩
  ·
   have c5 := bc5
   replace c5 := toList_nil c5
   refine wp_skip ?_
   refine e_then ?_
   refine wp_seq ?_
   refine c_region ?_
   refine l_mv 1 S rfl ?_; clear S a; intro a S
   refine l_nil ?_
   refine e_then ?_
   refine c_cut (fun a w => ∃ z : ByteArray, ∃ mi : Bool, ∃ u : Int, SL a 86 [] [(1, .bool sg), (4, .int .i64 0), (5, .bool false), (6, .bool false), (0, .string z), (7, .bool mi), (8, .int .u64 u)] ∧ HH B wb w (L0) ∧ whl2 s sg z mi u = R ∧ (Sgn s sg z mi ∧ z.size ≤ 1000000 ∧ 1 ≤ z.size ∧ (0 ≤ u ∧ u ≤ 18446744073709551615) ∧ PM z 0 0 = .ok u.toNat)) ?_ ?_
   ·
    clear S a H hR; rintro a w ⟨z, mi, u, S, H, hR, hinv⟩
    obtain ⟨hsg, hz, hz1, hu, hpm⟩ := hinv
    refine wp_seq ?_
    refine wp_block ?_
    refine wp_seq ?_
    refine c_region ?_
    refine l_mv 1 S rfl ?_; clear S a; intro a S
    refine l_pure S (p_not rfl) rfl rfl rfl ?_; clear S a; intro a S
    refine l_mv 1 S rfl ?_; clear S a; intro a S
    refine l_nil ?_
    refine e_then ?_
    refine c_cond S rfl (fun bc10 => ?_) (fun bc10 => ?_)
    ·
     have c10 := bc10
     replace c10 := not_eq_true_ c10
     refine wp_seq ?_
     refine c_region ?_
     refine l_mv 1 S rfl ?_; clear S a; intro a S
     refine l_pure S (p_conv rfl (fun w => cv_int (Tryz.underlying22) (Tryz.underlying2) (r := (IntKind.i64.wrap u)) rfl)) rfl rfl rfl ?_; clear S a; intro a S
     refine l_mv 3 S rfl ?_; clear S a; intro a S
     refine l_nil ?_
     refine e_then ?_
     refine wp_ret ?_
     refine e_in_ret ?_
     refine e_then_ret ?_
     have eR : R = ((IntKind.i64.wrap u), true, false) := by rw [← hR]; simp only [whl2, bc10, cond_true, cond_false]
     clear hR; subst eR
     exact r_ret3 S rfl rfl rfl rfl ⟨rfl, H, z, mi, hsg, .inr ⟨hz1, by rw [hpm]; exact wans1 hu.1 (by simpa using bc10)⟩⟩
    ·
     have c10 := bc10
     replace c10 := not_eq_false_ c10
     refine wp_seq ?_
     refine c_region ?_
     refine l_mv 1 S rfl ?_; clear S a; intro a S
     refine l_pure S (p_not rfl) rfl rfl rfl ?_; clear S a; intro a S
     refine l_mv 1 S rfl ?_; clear S a; intro a S
     refine l_split (S.of 71 rfl) (fun bc15 => ?_) (fun bc15 => ?_)
     ·
      have c15 := bc15
      replace c15 := not_eq_true_ c15
      refine l_on S rfl rfl rfl rfl bc15 ?_
      refine l_pure S (p_move rfl) rfl rfl rfl ?_; clear S a; intro a S
      refine l_on S rfl rfl rfl rfl bc15 ?_
      refine l_pure S (p_leq rfl rfl) rfl rfl rfl ?_; clear S a; intro a S
      refine l_pure S (p_pick_t rfl bc15 rfl) rfl rfl rfl ?_; clear S a; intro a S
      refine l_mv 1 S rfl ?_; clear S a; intro a S
      refine l_nil ?_
      refine e_then ?_
      refine c_cond S rfl (fun bc17 => ?_) (fun bc17 => ?_)
      ·
       have c17 := bc17
       have c17 := of_decide_eq_true c17
       refine wp_seq ?_
       refine c_region ?_
       refine l_mv 1 S rfl ?_; clear S a; intro a S
       refine l_pure S (p_conv rfl (fun w => cv_int (Tryz.underlying22) (Tryz.underlying2) (r := (IntKind.i64.wrap u)) rfl)) rfl rfl rfl ?_; clear S a; intro a S
       refine l_mv 3 S rfl ?_; clear S a; intro a S
       refine l_nil ?_
       refine e_then ?_
       refine wp_ret ?_
       refine e_in_ret ?_
       refine e_then_ret ?_
       have eR : R = ((IntKind.i64.wrap u), true, false) := by rw [← hR]; simp only [whl2, bc10, bc15, bc17, cond_true, cond_false]
       clear hR; subst eR
       exact r_ret3 S rfl rfl rfl rfl ⟨rfl, H, z, mi, hsg, .inr ⟨hz1, by rw [hpm]; exact wans2 hu.1 (by simpa using bc10) (show mi = false from by simpa using bc15) (by omega)⟩⟩
      ·
       have c17 := bc17
       have c17 := of_decide_eq_false c17
       refine wp_seq ?_
       refine c_region ?_
       refine l_mv 2 S rfl ?_; clear S a; intro a S
       refine l_off S rfl rfl rfl rfl (show mi = false from by simpa using bc15) rfl rfl ?_; clear S a; intro a S
       refine l_off S rfl rfl rfl rfl (show mi = false from by simpa using bc15) rfl rfl ?_; clear S a; intro a S
       refine l_pure S (p_pick_f rfl (show mi = false from by simpa using bc15) rfl) rfl rfl rfl ?_; clear S a; intro a S
       refine l_mv 1 S rfl ?_; clear S a; intro a S
       refine l_nil ?_
       refine e_then ?_
       refine c_cond (b := false) S rfl (fun h => by cases h) (fun _ => ?_)
       refine wp_skip ?_
       refine e_in 2 ?_
       refine e_then ?_
       refine wp_seq ?_
       refine c_region ?_
       refine l_mv 3 S rfl ?_; clear S a; intro a S
       refine l_nil ?_
       refine e_then ?_
       refine wp_ret ?_
       have eR : R = (0, false, true) := by rw [← hR]; simp only [whl2, bc10, bc15, bc17, cond_true, cond_false]
       clear hR; subst eR
       exact r_ret3 S rfl rfl rfl rfl ⟨rfl, H, z, mi, hsg, .inr ⟨hz1, by rw [hpm]; exact wans4 hu.1 (by simpa using bc10) (fun _ => by omega) (fun q => by have q2 := q.symm.trans (show mi = false from by simpa using bc15); cases q2)⟩⟩
     ·
      have c15 := bc15
      replace c15 := not_eq_false_ c15
      refine l_off S rfl rfl rfl rfl bc15 rfl rfl ?_; clear S a; intro a S
      refine l_off S rfl rfl rfl rfl bc15 rfl rfl ?_; clear S a; intro a S
      refine l_pure S (p_pick_f rfl bc15 rfl) rfl rfl rfl ?_; clear S a; intro a S
      refine l_mv 1 S rfl ?_; clear S a; intro a S
      refine l_nil ?_
      refine e_then ?_
      refine c_cond (b := false) S rfl (fun h => by cases h) (fun _ => ?_)
      refine wp_seq ?_
      refine c_region ?_
      refine l_mv 2 S rfl ?_; clear S a; intro a S
      refine l_on S rfl rfl rfl rfl (show mi = true from by simpa using bc15) ?_
      refine l_pure S (p_move rfl) rfl rfl rfl ?_; clear S a; intro a S
      refine l_on S rfl rfl rfl rfl (show mi = true from by simpa using bc15) ?_
      refine l_pure S (p_leq rfl rfl) rfl rfl rfl ?_; clear S a; intro a S
      refine l_pure S (p_pick_t rfl (show mi = true from by simpa using bc15) rfl) rfl rfl rfl ?_; clear S a; intro a S
      refine l_mv 1 S rfl ?_; clear S a; intro a S
      refine l_nil ?_
      refine e_then ?_
      refine c_cond S rfl (fun bc29 => ?_) (fun bc29 => ?_)
      ·
       have c29 := bc29
       have c29 := of_decide_eq_true c29
       refine wp_seq ?_
       refine c_region ?_
       refine l_mv 1 S rfl ?_; clear S a; intro a S
       refine l_pure S (p_conv rfl (fun w => cv_int (Tryz.underlying22) (Tryz.underlying2) (r := (IntKind.i64.wrap u)) rfl)) rfl rfl rfl ?_; clear S a; intro a S
       refine l_pure S (p_un (v := .int .i64 (IntKind.i64.wrap (0 - (IntKind.i64.wrap u)))) rfl (fun w => rfl)) rfl rfl rfl ?_; clear S a; intro a S
       refine l_mv 3 S rfl ?_; clear S a; intro a S
       refine l_nil ?_
       refine e_then ?_
       refine wp_ret ?_
       refine e_in_ret ?_
       refine e_then_ret ?_
       have eR : R = ((IntKind.i64.wrap (0 - (IntKind.i64.wrap u))), true, false) := by rw [← hR]; simp only [whl2, bc10, bc15, bc29, cond_true, cond_false]
       clear hR; subst eR
       exact r_ret3 S rfl rfl rfl rfl ⟨rfl, H, z, mi, hsg, .inr ⟨hz1, by rw [hpm]; exact wans3 hu.1 (by simpa using bc10) (show mi = true from by simpa using bc15) (by omega)⟩⟩
      ·
       have c29 := bc29
       have c29 := of_decide_eq_false c29
       refine wp_skip ?_
       refine e_in 2 ?_
       refine e_then ?_
       refine wp_seq ?_
       refine c_region ?_
       refine l_mv 3 S rfl ?_; clear S a; intro a S
       refine l_nil ?_
       refine e_then ?_
       refine wp_ret ?_
       have eR : R = (0, false, true) := by rw [← hR]; simp only [whl2, bc10, bc15, bc29, cond_true, cond_false]
       clear hR; subst eR
       exact r_ret3 S rfl rfl rfl rfl ⟨rfl, H, z, mi, hsg, .inr ⟨hz1, by rw [hpm]; exact wans4 hu.1 (by simpa using bc10) (fun q => by have q2 := q.symm.trans (show mi = true from by simpa using bc15); cases q2) (fun _ => by omega)⟩⟩
   ·
    refine wp_seq ?_
    refine c_region ?_
    refine l_mv 1 S rfl ?_; clear S a; intro a S
    refine l_nil ?_
    refine e_then ?_
    refine wp_block ?_
    refine c_loop (σ := Nat × ByteArray × Bool × Int × Int) (fun s_ a w => match s_ with | (k_, z, mi, u, i) => SL a 86 [] [(1, .bool sg), (4, .int .i64 0), (5, .bool false), (6, .bool false), (0, .string z), (7, .bool mi), (8, .int .u64 u), (9, .int .i64 i)] ∧ HH B wb w (L0) ∧ (whll s sg k_ z mi u i = R ∧ ((z.size : Int) - i).toNat < k_ ∧ (Sgn s sg z mi ∧ z.size ≤ 1000000 ∧ 1 ≤ z.size ∧ (0 ≤ u ∧ u ≤ 18446744073709551615) ∧ (0 ≤ i ∧ i ≤ z.size) ∧ PM z 0 0 = PM z u i))) (fun s_ => s_.1) ((((z.size : Int) - 0).toNat) + 1, z, mi, 0, 0) ⟨S.only ⟨rfl, rfl, rfl, rfl, rfl, rfl, rfl, rfl, trivial⟩, H, by rw [← hR]; simp only [whl1, bc5, cond_true, cond_false], by omega, ⟨hsg, hz, by omega, by omega, by omega, rfl⟩⟩ ?_
    clear S a H hR; rintro ⟨fu, z, mi, u, i⟩ a w ⟨S, H, hR, hk, hinv⟩
    obtain ⟨fu, rfl⟩ : ∃ j, fu = j + 1 := ⟨fu - 1, by omega⟩
    obtain ⟨hsg, hz, hz1, hu, hi, hpm⟩ := hinv
    refine wp_seq ?_
    refine wp_seq ?_
    refine c_region ?_
    refine l_mv 2 S rfl ?_; clear S a; intro a S
    refine l_pure S (p_lens Tryz.underlying9 rfl) rfl rfl rfl ?_; clear S a; intro a S
    refine l_pure S (p_lss rfl rfl) rfl rfl rfl ?_; clear S a; intro a S
    refine l_nil ?_
    refine e_then ?_
    refine c_cond S rfl (fun bc35 => ?_) (fun bc35 => ?_)
    ·
     have c35 := bc35
     have c35 := of_decide_eq_true c35
     refine wp_skip ?_
     refine e_then ?_
     refine wp_seq ?_
     refine wp_block ?_
     refine wp_seq ?_
     refine wp_seq ?_
     refine c_region ?_
     refine l_mv 2 S rfl ?_; clear S a; intro a S
     refine l_pure S (p_index rfl rfl (fun w => ix_string Tryz.underlying9 (by omega) (by omega))) rfl rfl rfl ?_; clear S a; intro a S
     have := bt_rng z i
     refine l_pure S (p_lss rfl rfl) rfl rfl rfl ?_; clear S a; intro a S
     refine l_mv 1 S rfl ?_; clear S a; intro a S
     refine l_split (S.of 43 rfl) (fun bc37 => ?_) (fun bc37 => ?_)
     ·
      have c37 := bc37
      have c37 := of_decide_eq_true c37
      refine l_off S rfl rfl rfl rfl bc37 rfl rfl ?_; clear S a; intro a S
      refine l_off S rfl rfl rfl rfl bc37 rfl rfl ?_; clear S a; intro a S
      refine l_off S rfl rfl rfl rfl bc37 rfl rfl ?_; clear S a; intro a S
      refine l_off S rfl rfl rfl rfl bc37 rfl rfl ?_; clear S a; intro a S
      refine l_pure S (p_pick_t rfl bc37 rfl) rfl rfl rfl ?_; clear S a; intro a S
      refine l_nil ?_
      refine e_then ?_
      refine c_cond (b := true) S rfl (fun _ => ?_) (fun h => by cases h)
      refine wp_seq ?_
      refine c_region ?_
      refine l_mv 3 S rfl ?_; clear S a; intro a S
      refine l_nil ?_
      refine e_then ?_
      refine wp_ret ?_
      refine e_then_ret ?_
      refine e_in_ret ?_
      refine e_then_ret ?_
      refine e_then_ret ?_
      refine e_in_ret ?_
      refine e_then_ret ?_
      have eR : R = (0, false, false) := by rw [← hR]; simp only [whll, bc35, bc37, cond_true, cond_false]
      clear hR; subst eR
      exact r_ret3 S rfl rfl rfl rfl ⟨rfl, H, z, mi, hsg, .inr ⟨hz1, by rw [hpm, pm_syn hi.1 (by omega) (by omega)]; rfl⟩⟩
     ·
      have c37 := bc37
      have c37 := of_decide_eq_false c37
      refine l_on S rfl rfl rfl rfl bc37 ?_
      refine l_pure S (p_move rfl) rfl rfl rfl ?_; clear S a; intro a S
      refine l_on S rfl rfl rfl rfl bc37 ?_
      refine l_pure S (p_move rfl) rfl rfl rfl ?_; clear S a; intro a S
      refine l_on S rfl rfl rfl rfl bc37 ?_
      refine l_pure S (p_index rfl rfl (fun w => ix_string Tryz.underlying9 (by omega) (by omega))) rfl rfl rfl ?_; clear S a; intro a S
      have := bt_rng z i
      refine l_on S rfl rfl rfl rfl bc37 ?_
      refine l_pure S (p_gtr rfl rfl) rfl rfl rfl ?_; clear S a; intro a S
      refine l_pure S (p_pick_f rfl bc37 rfl) rfl rfl rfl ?_; clear S a; intro a S
      refine l_nil ?_
      refine e_then ?_
      refine c_cond S rfl (fun bc43 => ?_) (fun bc43 => ?_)
      ·
       have c43 := bc43
       have c43 := of_decide_eq_true c43
       refine wp_seq ?_
       refine c_region ?_
       refine l_mv 3 S rfl ?_; clear S a; intro a S
       refine l_nil ?_
       refine e_then ?_
       refine wp_ret ?_
       refine e_then_ret ?_
       refine e_in_ret ?_
       refine e_then_ret ?_
       refine e_then_ret ?_
       refine e_in_ret ?_
       refine e_then_ret ?_
       have eR : R = (0, false, false) := by rw [← hR]; simp only [whll, bc35, bc37, bc43, cond_true, cond_false]
       clear hR; subst eR
       exact r_ret3 S rfl rfl rfl rfl ⟨rfl, H, z, mi, hsg, .inr ⟨hz1, by rw [hpm, pm_syn hi.1 (by omega) (by omega)]; rfl⟩⟩
      ·
       have c43 := bc43
       have c43 := of_decide_eq_false c43
       refine wp_skip ?_
       refine e_then ?_
       refine wp_seq ?_
       refine c_region ?_
       refine l_mv 2 S rfl ?_; clear S a; intro a S
       refine l_pure S (p_index rfl rfl (fun w => ix_string Tryz.underlying9 (by omega) (by omega))) rfl rfl rfl ?_; clear S a; intro a S
       have := bt_rng z i
       refine l_pure S (p_sub (r := ((HHW.bt z i) - 48)) rfl rfl (IntWalk.u8_in _ (by omega))) rfl rfl rfl ?_; clear S a; intro a S
       refine l_pure S (p_conv rfl (fun w => cv_int (Tryz.underlying5) (Tryz.underlying22) (r := ((HHW.bt z i) - 48)) (IntWalk.u64_in _ (by omega)))) rfl rfl rfl ?_; clear S a; intro a S
       refine l_mv 1 S rfl ?_; clear S a; intro a S
       refine l_nil ?_
       refine e_then ?_
       refine wp_seq ?_
       refine wp_seq ?_
       refine c_region ?_
       refine l_mv 2 S rfl ?_; clear S a; intro a S
       refine l_pure S (p_sub (r := (18446744073709551615 - ((HHW.bt z i) - 48))) rfl rfl (IntWalk.u64_in _ (by omega))) rfl rfl rfl ?_; clear S a; intro a S
       refine l_pure S (p_quo (r := ((18446744073709551615 - ((HHW.bt z i) - 48)) / 10)) rfl rfl (by omega) (quoI (by omega) (by omega))) rfl rfl rfl ?_; clear S a; intro a S
       refine l_pure S (p_gtr rfl rfl) rfl rfl rfl ?_; clear S a; intro a S
       refine l_nil ?_
       refine e_then ?_
       refine c_cond S rfl (fun bc47 => ?_) (fun bc47 => ?_)
       ·
        have c47 := bc47
        have c47 := of_decide_eq_true c47
        refine wp_seq ?_
        refine c_region ?_
        refine l_mv 3 S rfl ?_; clear S a; intro a S
        refine l_nil ?_
        refine e_then ?_
        refine wp_ret ?_
        refine e_then_ret ?_
        refine e_in_ret ?_
        refine e_then_ret ?_
        refine e_then_ret ?_
        refine e_in_ret ?_
        refine e_then_ret ?_
        have eR : R = (0, false, true) := by rw [← hR]; simp only [whll, bc35, bc37, bc43, bc47, cond_true, cond_false]
        clear hR; subst eR
        exact r_ret3 S rfl rfl rfl rfl ⟨rfl, H, z, mi, hsg, .inr ⟨hz1, by rw [hpm, pm_rng hi.1 (by omega) (by omega) hu.1 (by omega)]; rfl⟩⟩
       ·
        have c47 := bc47
        have c47 := of_decide_eq_false c47
        refine wp_skip ?_
        refine e_then ?_
        refine c_region ?_
        refine l_mv 1 S rfl ?_; clear S a; intro a S
        refine l_pure S (p_mul (r := (u * 10)) rfl rfl (IntWalk.u64_in _ (by omega))) rfl rfl rfl ?_; clear S a; intro a S
        refine l_mv 1 S rfl ?_; clear S a; intro a S
        refine l_pure S (p_add (r := ((u * 10) + ((HHW.bt z i) - 48))) rfl rfl (IntWalk.u64_in _ (by omega))) rfl rfl rfl ?_; clear S a; intro a S
        refine l_mv 1 S rfl ?_; clear S a; intro a S
        refine l_nil ?_
        refine e_in 1 ?_
        refine e_then ?_
        refine c_region ?_
        refine l_mv 1 S rfl ?_; clear S a; intro a S
        refine l_pure S (p_add (r := (i + 1)) rfl rfl (IntWalk.i64_in _ (by omega))) rfl rfl rfl ?_; clear S a; intro a S
        refine l_mv 1 S rfl ?_; clear S a; intro a S
        refine l_nil ?_
        refine e_then ?_
        exact ⟨(fu, z, mi, ((u * 10) + ((HHW.bt z i) - 48)), (i + 1)), ⟨S.only ⟨rfl, rfl, rfl, rfl, rfl, rfl, rfl, rfl, trivial⟩, H, by rw [← hR]; simp only [whll, bc35, bc37, bc43, bc47, cond_true, cond_false], by omega, ⟨hsg, hz, hz1, by omega, by omega, hpm.trans (pm_nxt hi.1 (by omega) (by omega) hu.1 (by omega))⟩⟩, Nat.lt_succ_self fu⟩
    ·
     have c35 := bc35
     have c35 := of_decide_eq_false c35
     refine wp_exit ?_
     refine e_then_exit ?_
     refine e_then_exit ?_
     refine e_in_exit ?_
     refine e_then ?_
     exact ⟨z, mi, u, S.only ⟨rfl, rfl, rfl, rfl, rfl, rfl, rfl, trivial⟩, H, by rw [← hR]; simp only [whll, bc35, cond_true, cond_false], ⟨hsg, hz, hz1, hu, by rw [hpm]; exact pm_end hu.1 (by omega)⟩⟩
 ·
  refine wp_seq ?_
  refine c_region ?_
  refine l_mv 2 S rfl ?_; clear S a; intro a S
  refine l_split (S.of 12 rfl) (fun bc51 => ?_) (fun bc51 => ?_)
  ·
   refine l_on S rfl rfl rfl rfl bc51 ?_
   refine l_pure S (p_move rfl) rfl rfl rfl ?_; clear S a; intro a S
   refine l_on S rfl rfl rfl rfl bc51 ?_
   refine l_pure S (p_sneq rfl rfl) rfl rfl rfl ?_; clear S a; intro a S
   refine l_pure S (p_pick_t rfl bc51 rfl) rfl rfl rfl ?_; clear S a; intro a S
   refine l_mv 1 S rfl ?_; clear S a; intro a S
   refine l_split (S.of 16 rfl) (fun bc53 => ?_) (fun bc53 => ?_)
   ·
    have c53 := bc53
    replace c53 := toList_ne c53
    refine l_on S rfl rfl rfl rfl bc53 ?_
    refine l_pure S (p_move rfl) rfl rfl rfl ?_; clear S a; intro a S
    refine l_on S rfl rfl rfl rfl bc53 ?_
    refine l_pure S (p_index rfl rfl (fun w => ix_string Tryz.underlying9 (by omega) (by omega))) rfl rfl rfl ?_; clear S a; intro a S
    have := bt_rng s 0
    refine l_on S rfl rfl rfl rfl bc53 ?_
    refine l_pure S (p_eql rfl rfl) rfl rfl rfl ?_; clear S a; intro a S
    refine l_on S rfl rfl rfl rfl bc53 ?_
    refine l_pure S (p_move rfl) rfl rfl rfl ?_; clear S a; intro a S
    refine l_split (S.of 20 rfl) (fun bc55 => ?_) (fun bc55 => ?_)
    ·
     have c55 := bc55
     have c55 := eq_of_beq c55
     refine l_off S rfl rfl rfl rfl bc55 rfl rfl ?_; clear S a; intro a S
     refine l_off S rfl rfl rfl rfl bc55 rfl rfl ?_; clear S a; intro a S
     refine l_off S rfl rfl rfl rfl bc55 rfl rfl ?_; clear S a; intro a S
     refine l_on S rfl rfl rfl rfl bc53 ?_
     refine l_pure S (p_pick_t rfl bc55 rfl) rfl rfl rfl ?_; clear S a; intro a S
     refine l_pure S (p_pick_t rfl bc53 rfl) rfl rfl rfl ?_; clear S a; intro a S
     refine l_nil ?_
     refine e_then ?_
     refine c_cond (b := true) S rfl (fun _ => ?_) (fun h => by cases h)
     refine d_start (id := 3) [] 7 #[false, false, false, false, false, false, false] H rfl rfl rfl (fun w H => ?_)
     refine d_mv [0, 3] #[true, false, false, true, false, false, false] S rfl (by kernel_rfl) (fun _ _ _ _ _ h => h) ?_; clear S a; intro a S
     refine d_pure (i := 1) #[true, true, false, true, false, false, false] S rfl (p_index rfl rfl (fun w => ix_string Tryz.underlying9 (by omega) (by omega))) (wanted_none rfl) rfl rfl (by kernel_rfl) (fun _ _ _ h => h) ?_; clear S a; intro a S
     have := bt_rng s 0
     refine d_pure (i := 2) #[true, true, true, true, false, false, false] S rfl (p_eql rfl rfl) (wanted_none rfl) rfl rfl (by kernel_rfl) (fun _ _ _ h => h) ?_; clear S a; intro a S
     refine d_mv [5] #[true, true, true, true, false, true, false] S rfl (by kernel_rfl) (fun _ _ _ _ _ h => h) ?_; clear S a; intro a S
     refine d_pure (i := 4) #[true, true, true, true, true, true, false] S rfl (p_slice rfl (o_some rfl) (fun _ _ => o_none) (fun _ _ => o_none) (fun w => sl_string_lo Tryz.underlying9 (by omega) (by omega))) (wanted_none rfl) rfl rfl (by kernel_rfl) (fun _ _ _ h => h) ?_; clear S a; intro a S
     refine d_mv [6] #[true, true, true, true, true, true, true] S rfl (by kernel_rfl) (fun _ _ _ _ _ h => h) ?_; clear S a; intro a S
     refine d_done (by kernel_rfl) ?_
     refine e_then ?_
     exact ⟨(s.extract (1 : Int).toNat s.size), ((HHW.bt s 0) == 45), S.only ⟨rfl, rfl, rfl, rfl, rfl, rfl, trivial⟩, H, by rw [← hR]; simp only [whl, bc51, bc53, bc55, cond_true, cond_false], ⟨.inr ⟨bc51, by omega, rfl, .inl ⟨eq_of_beq bc55, by rw [eq_of_beq bc55]; rfl⟩⟩, by first | exact hs | (rw [ByteArray.size_extract]; omega)⟩⟩
    ·
     have c55 := bc55
     have c55 := ne_of_beq_false c55
     refine l_on S rfl rfl rfl rfl bc55 ?_
     refine l_pure S (p_move rfl) rfl rfl rfl ?_; clear S a; intro a S
     refine l_on S rfl rfl rfl rfl bc55 ?_
     refine l_pure S (p_index rfl rfl (fun w => ix_string Tryz.underlying9 (by omega) (by omega))) rfl rfl rfl ?_; clear S a; intro a S
     have := bt_rng s 0
     refine l_on S rfl rfl rfl rfl bc55 ?_
     refine l_pure S (p_eql rfl rfl) rfl rfl rfl ?_; clear S a; intro a S
     refine l_on S rfl rfl rfl rfl bc53 ?_
     refine l_pure S (p_pick_f rfl bc55 rfl) rfl rfl rfl ?_; clear S a; intro a S
     refine l_pure S (p_pick_t rfl bc53 rfl) rfl rfl rfl ?_; clear S a; intro a S
     refine l_nil ?_
     refine e_then ?_
     refine c_cond S rfl (fun bc60 => ?_) (fun bc60 => ?_)
     ·
      have c60 := bc60
      have c60 := eq_of_beq c60
      refine d_start (id := 3) [] 7 #[false, false, false, false, false, false, false] H rfl rfl rfl (fun w H => ?_)
      refine d_mv [0, 3] #[true, false, false, true, false, false, false] S rfl (by kernel_rfl) (fun _ _ _ _ _ h => h) ?_; clear S a; intro a S
      refine d_pure (i := 1) #[true, true, false, true, false, false, false] S rfl (p_index rfl rfl (fun w => ix_string Tryz.underlying9 (by omega) (by omega))) (wanted_none rfl) rfl rfl (by kernel_rfl) (fun _ _ _ h => h) ?_; clear S a; intro a S
      have := bt_rng s 0
      refine d_pure (i := 2) #[true, true, true, true, false, false, false] S rfl (p_eql rfl rfl) (wanted_none rfl) rfl rfl (by kernel_rfl) (fun _ _ _ h => h) ?_; clear S a; intro a S
      refine d_mv [5] #[true, true, true, true, false, true, false] S rfl (by kernel_rfl) (fun _ _ _ _ _ h => h) ?_; clear S a; intro a S
      refine d_pure (i := 4) #[true, true, true, true, true, true, false] S rfl (p_slice rfl (o_some rfl) (fun _ _ => o_none) (fun _ _ => o_none) (fun w => sl_string_lo Tryz.underlying9 (by omega) (by omega))) (wanted_none rfl) rfl rfl (by kernel_rfl) (fun _ _ _ h => h) ?_; clear S a; intro a S
      refine d_mv [6] #[true, true, true, true, true, true, true] S rfl (by kernel_rfl) (fun _ _ _ _ _ h => h) ?_; clear S a; intro a S
      refine d_done (by kernel_rfl) ?_
      refine e_then ?_
      exact ⟨(s.extract (1 : Int).toNat s.size), ((HHW.bt s 0) == 45), S.only ⟨rfl, rfl, rfl, rfl, rfl, rfl, trivial⟩, H, by rw [← hR]; simp only [whl, bc51, bc53, bc55, bc60, cond_true, cond_false], ⟨.inr ⟨bc51, by omega, rfl, .inr ⟨eq_of_beq bc60, bc60⟩⟩, by first | exact hs | (rw [ByteArray.size_extract]; omega)⟩⟩
     ·
      have c60 := bc60
      have c60 := ne_of_beq_false c60
      refine wp_skip ?_
      refine e_then ?_
      exact ⟨s, false, S.only ⟨rfl, rfl, rfl, rfl, rfl, rfl, trivial⟩, H, by rw [← hR]; simp only [whl, bc51, bc53, bc55, bc60, cond_true, cond_false], ⟨.inl ⟨rfl, rfl, .inr (.inr ⟨ne_of_beq_false bc55, ne_of_beq_false bc60⟩)⟩, by first | exact hs | (rw [ByteArray.size_extract]; omega)⟩⟩
   ·
    refine l_off S rfl rfl rfl rfl bc53 rfl rfl ?_; clear S a; intro a S
    refine l_off S rfl rfl rfl rfl bc53 rfl rfl ?_; clear S a; intro a S
    refine l_off S rfl rfl rfl rfl bc53 rfl rfl ?_; clear S a; intro a S
    refine l_off S rfl rfl rfl rfl bc53 rfl rfl ?_; clear S a; intro a S
    refine l_offU S rfl rfl rfl rfl rfl rfl ?_; clear S a; intro a S
    refine l_offU S rfl rfl rfl rfl rfl rfl ?_; clear S a; intro a S
    refine l_offU S rfl rfl rfl rfl rfl rfl ?_; clear S a; intro a S
    refine l_off S rfl rfl rfl rfl bc53 rfl rfl ?_; clear S a; intro a S
    refine l_pure S (p_pick_f rfl bc53 rfl) rfl rfl rfl ?_; clear S a; intro a S
    refine l_nil ?_
    refine e_then ?_
    refine c_cond (b := false) S rfl (fun h => by cases h) (fun _ => ?_)
    refine wp_skip ?_
    refine e_then ?_
    exact ⟨s, false, S.only ⟨rfl, rfl, rfl, rfl, rfl, rfl, trivial⟩, H, by rw [← hR]; simp only [whl, bc51, bc53, cond_true, cond_false], ⟨.inl ⟨rfl, rfl, .inr (.inl (toList_e bc53))⟩, by first | exact hs | (rw [ByteArray.size_extract]; omega)⟩⟩
  ·
   refine l_off S rfl rfl rfl rfl bc51 rfl rfl ?_; clear S a; intro a S
   refine l_off S rfl rfl rfl rfl bc51 rfl rfl ?_; clear S a; intro a S
   refine l_pure S (p_pick_f rfl bc51 rfl) rfl rfl rfl ?_; clear S a; intro a S
   refine l_mv 1 S rfl ?_; clear S a; intro a S
   refine l_off S rfl rfl rfl rfl rfl rfl rfl ?_; clear S a; intro a S
   refine l_off S rfl rfl rfl rfl rfl rfl rfl ?_; clear S a; intro a S
   refine l_off S rfl rfl rfl rfl rfl rfl rfl ?_; clear S a; intro a S
   refine l_off S rfl rfl rfl rfl rfl rfl rfl ?_; clear S a; intro a S
   refine l_offU S rfl rfl rfl rfl rfl rfl ?_; clear S a; intro a S
   refine l_offU S rfl rfl rfl rfl rfl rfl ?_; clear S a; intro a S
   refine l_offU S rfl rfl rfl rfl rfl rfl ?_; clear S a; intro a S
   refine l_off S rfl rfl rfl rfl rfl rfl rfl ?_; clear S a; intro a S
   refine l_pure S (p_pick_f rfl rfl rfl) rfl rfl rfl ?_; clear S a; intro a S
   refine l_nil ?_
   refine e_then ?_
   refine c_cond (b := false) S rfl (fun h => by cases h) (fun _ => ?_)
   refine wp_skip ?_
   refine e_then ?_
   exact ⟨s, false, S.only ⟨rfl, rfl, rfl, rfl, rfl, rfl, trivial⟩, H, by rw [← hR]; simp only [whl, bc51, cond_true, cond_false], ⟨.inl ⟨rfl, rfl, .inl bc51⟩, by first | exact hs | (rw [ByteArray.size_extract]; omega)⟩⟩
end ws
end Go.Proofs.YtneoieigaakoaaaGreatDoor.pf
end
section
namespace Go.Proofs.YtneoieigaakoaaaGreatDoor.u8
open Go.Proofs.YtneoieigaakoaaaGreatDoor.fx
open Go.RowKit Go.Proofs.HHW Go.Proofs.YtneoieigaakoaaaGreatDoorW.PrintWords
set_option maxHeartbeats 1000000 in
theorem utf8_ (wb w0 : World) (B : Nat) (L0 : List (Nat × Obj)) (s : ByteArray) (H : HH B wb w0 L0) (hs : s.size ≤ 9223372036854775000) : Calls Tryz.prog 11 #[.string s] w0 fun e w' => e = .returned (.bool (up.V s 0)) ∧ HH B wb w' L0 := by
 refine c_enter (args := [.string s]) (k := 80) Tryz.func11 rfl rfl rfl ?_
 refine pS (pG (pP (p_assign rfl) rfl (pL (pT (pS (pS (pG (pP (p_assign rfl) rfl (pL (pT (pB ?_)))))))))));intro a S
 refine c_loop (σ := Nat) (fun s_ a w => match s_ with | i => SL a 81 [] [(0, .string s), (3, .int .i64 (i : Int))] ∧ HH (B) wb w L0 ∧ (i ≤ s.size ∧ up.V s 0 = up.V s i)) (fun s_ => match s_ with | i => s.size - i) 0 ⟨S.only ⟨rfl, rfl, trivial⟩, H, ⟨Nat.zero_le _, rfl⟩⟩ ?_
 clear S a H; rintro i a w ⟨S, H, hinv⟩
 obtain ⟨hi0, hV⟩ := hinv
 revert a;refine pS (pS (pG (pP (p_move rfl) rfl (pP (p_move rfl) rfl (pP (p_lens Tryz.underlying9 rfl) rfl (pP (p_lss rfl rfl) rfl (pL (pT (zc rfl (fun c3 => ?_) (fun c3 => ?_))))))))))
 ·
  have c3 := of_decide_eq_true c3
  refine pK (pT (pB (pS (pG (pP (p_move rfl) rfl (pP (p_move rfl) rfl (pP (p_index rfl rfl (fun w => ix_string Tryz.underlying9 (by omega) (by omega))) rfl (pP (p_assign rfl) rfl (pL (pT (pS (pG (pP (p_assign rfl) rfl (pP (p_assign rfl) rfl (pP (p_assign rfl) rfl (pL (pT ?_)))))))))))))))));intro a S
  refine c_cut (fun a w => ∃ need : Nat, ∃ lo : Int, ∃ hi : Int, SL a 81 [] [(0, .string s), (3, .int .i64 (i : Int)), (5, .int .i64 (need : Int)), (6, .int .u8 lo), (7, .int .u8 hi)] ∧ HH (B) wb w L0 ∧ up.Lead (HHW.bt s (i : Int)) need lo hi) ?_ ?_
  ·
   clear S a H; rintro a w ⟨need, lo, hi, S, H, hinv⟩
   have hneed := hinv.le
   revert a;refine pS (pS (pG (pP (p_assign rfl) rfl (pL (pT (pB ?_))))))
   have hL := hinv; clear hinv
   intro a S
   refine c_loop (σ := Nat × Int × Int) (fun s_ a w => match s_ with | ⟨j, l, h⟩ => SL a 81 [] [(0, .string s), (3, .int .i64 (i : Int)), (5, .int .i64 (need : Int)), (6, .int .u8 l), (7, .int .u8 h), (8, .int .i64 (j : Int))] ∧ HH (B) wb w L0 ∧ (up.Inn s i need lo hi j l h)) (fun s_ => match s_ with | ⟨j, l, h⟩ => need + 1 - j) ⟨1, lo, hi⟩ ⟨S.only ⟨rfl, rfl, rfl, rfl, rfl, rfl, trivial⟩, H, up.Inn.start hneed⟩ ?_
   clear S a H; rintro ⟨j, l, h⟩ a w ⟨S, H, hinv⟩
   have hI := hinv
   have hjj : 1 ≤ j ∧ j ≤ need + 1 := ⟨hI.1, hI.2.1⟩
   have hr := HHW.bt_range s ((i + j : Nat) : Int)
   revert a;refine pS (pS (pG (pP (p_move rfl) rfl (pP (p_move rfl) rfl (pP (p_leq rfl rfl) rfl (pL (pT (zc rfl (fun c5 => ?_) (fun c5 => ?_)))))))))
   ·
    have c5 := of_decide_eq_true c5
    refine pK (pT (pS (pB (pS (pS (pG (pP (p_move rfl) rfl (pP (p_move rfl) rfl (pP (p_add rfl rfl (nat_add (x := i) (y := j) (by omega))) rfl (pP (p_move rfl) rfl (pP (p_lens Tryz.underlying9 rfl) rfl (pP (p_geq rfl rfl) rfl (pP (p_move rfl) rfl ?_)))))))))))));intro a S
    refine l_split (S.of 59 rfl) (fun bc7 => ?_) (fun bc7 => ?_)
    ·
     have c7 := of_decide_eq_true bc7
     revert a;refine pO bc7 rfl (pO bc7 rfl (pO bc7 rfl (pO bc7 rfl (pO bc7 rfl (pO bc7 rfl (pO bc7 rfl (pP (p_pick_t rfl bc7 rfl) rfl (pP (p_move rfl) rfl (pO rfl rfl (pO rfl rfl (pO rfl rfl (pO rfl rfl (pO rfl rfl (pO rfl rfl (pO rfl rfl (pP (p_pick_t rfl rfl rfl) rfl (pL (pT (zt (pS (pG (pP (p_assign rfl) rfl (pL (pT (pZ (pU (pJ (pU (pU (pJ (pU (pJ (pU (pJ (pU ?_)))))))))))))))))))))))))))))))))));intro a S
     exact r_ret1 S rfl rfl ⟨by rw [hV, (up.step (by omega) hL).2 (hI.bad (by omega) (by omega))], H⟩
    have c7 := of_decide_eq_false bc7
    revert a;refine pN bc7 (pP (p_move rfl) rfl (pN bc7 (pP (p_move rfl) rfl (pN bc7 (pP (p_move rfl) rfl (pN bc7 (pP (p_add rfl rfl (nat_add (x := i) (y := j) (by omega))) rfl (pN bc7 (pP (p_index rfl rfl (fun w => ix_string Tryz.underlying9 (by omega) (by omega))) rfl (pN bc7 (pP (p_move rfl) rfl (pN bc7 (pP (p_lss rfl rfl) rfl (pP (p_pick_f rfl bc7 rfl) rfl (pP (p_move rfl) rfl ?_)))))))))))))));intro a S
    refine l_split (S.of 68 rfl) (fun bc13 => ?_) (fun bc13 => ?_)
    ·
     have c13 := of_decide_eq_true bc13
     revert a;refine pO bc13 rfl (pO bc13 rfl (pO bc13 rfl (pO bc13 rfl (pO bc13 rfl (pO bc13 rfl (pO bc13 rfl (pP (p_pick_t rfl bc13 rfl) rfl (pL (pT (zt (pS (pG (pP (p_assign rfl) rfl (pL (pT (pZ (pU (pJ (pU (pU (pJ (pU (pJ (pU (pJ (pU ?_))))))))))))))))))))))))));intro a S
     exact r_ret1 S rfl rfl ⟨by rw [hV, (up.step (by omega) hL).2 (hI.bad (by omega) (by omega))], H⟩
    have c13 := of_decide_eq_false bc13
    revert a;refine pN bc13 (pP (p_move rfl) rfl (pN bc13 (pP (p_move rfl) rfl (pN bc13 (pP (p_move rfl) rfl (pN bc13 (pP (p_add rfl rfl (nat_add (x := i) (y := j) (by omega))) rfl (pN bc13 (pP (p_index rfl rfl (fun w => ix_string Tryz.underlying9 (by omega) (by omega))) rfl (pN bc13 (pP (p_move rfl) rfl (pN bc13 (pP (p_gtr rfl rfl) rfl (pP (p_pick_f rfl bc13 rfl) rfl (pL (pT (zc rfl (fun c18 => ?_) (fun c18 => ?_))))))))))))))))))
    ·
     have c18 := of_decide_eq_true c18
     refine pS (pG (pP (p_assign rfl) rfl (pL (pT (pZ (pU (pJ (pU (pU (pJ (pU (pJ (pU (pJ (pU ?_)))))))))))))));intro a S
     exact r_ret1 S rfl rfl ⟨by rw [hV, (up.step (by omega) hL).2 (hI.bad (by omega) (by omega))], H⟩
    have c18 := of_decide_eq_false c18
    refine pK (pT (pG (pP (p_assign rfl) rfl (pP (p_assign rfl) rfl (pL (pI 4 (pT (pG (pP (p_move rfl) rfl (pP (p_add rfl rfl (nat_add (x := j) (y := 1) (by omega))) rfl (pP (p_assign rfl) rfl (pL (pT ?_)))))))))))));intro a S
    exact ⟨⟨j + 1, 128, 191⟩, ⟨S.only ⟨rfl, rfl, rfl, rfl, rfl, rfl, trivial⟩, H, hI.next (by omega) (by omega) (by omega) (by omega)⟩, (show need + 1 - (j + 1) < need + 1 - j by omega)⟩
   have c5 := of_decide_eq_false c5
   have hok := hI.done (by omega)
   clear hinv; have hinv : up.Lead (HHW.bt s (i : Int)) need lo hi := hL
   refine pX (pV (pV (pW (pT (pG (pP (p_move rfl) rfl (pP (p_move rfl) rfl (pP (p_add rfl rfl (nat_add (x := need) (y := 1) (by omega))) rfl (pP (p_add rfl rfl (nat_add (x := i) (y := (need + 1)) (by omega))) rfl (pP (p_assign rfl) rfl (pL (pI 1 (pT ?_)))))))))))));intro a S
   exact ⟨(i + (need + 1)), ⟨S.only ⟨rfl, rfl, trivial⟩, H, ⟨by omega, hV.trans ((up.step (by omega) hinv).1 hok.1)⟩⟩, (show s.size - (i + (need + 1)) < s.size - i by omega)⟩
  revert a;refine pB (pS (pG (pP (p_move rfl) rfl (pP (p_lss rfl rfl) rfl (pP (p_assign rfl) rfl (pL (pT (zc rfl (fun c21 => ?_) (fun c21 => ?_)))))))))
  ·
   have c21 := of_decide_eq_true c21
   refine pK (pI 2 (pT ?_));intro a S
   exact ⟨0, 128, 191, S.only ⟨rfl, rfl, rfl, rfl, rfl, trivial⟩, H, (by unfold up.Lead; omega)⟩
  have c21 := of_decide_eq_false c21
  refine pS (pG (pP (p_move rfl) rfl (pP (p_geq rfl rfl) rfl (pP (p_move rfl) rfl ?_))));intro a S
  refine l_split (S.of 22 rfl) (fun bc23 => ?_) (fun bc23 => ?_)
  ·
   have c23 := of_decide_eq_true bc23
   revert a;refine pN bc23 (pP (p_move rfl) rfl (pN bc23 (pP (p_leq rfl rfl) rfl (pP (p_pick_t rfl bc23 rfl) rfl (pP (p_assign rfl) rfl (pL (pT (zc rfl (fun c25 => ?_) (fun c25 => ?_)))))))))
   ·
    have c25 := of_decide_eq_true c25
    refine pG (pP (p_assign rfl) rfl (pL (pI 2 (pT ?_))));intro a S
    exact ⟨1, 128, 191, S.only ⟨rfl, rfl, rfl, rfl, rfl, trivial⟩, H, (by unfold up.Lead; omega)⟩
   have c25 := of_decide_eq_false c25
   refine pS (pG (pP (p_move rfl) rfl (pP (p_geq rfl rfl) rfl (pP (p_move rfl) rfl ?_))));intro a S
   refine l_split (S.of 29 rfl) (fun bc27 => ?_) (fun bc27 => ?_)
   ·
    have c27 := of_decide_eq_true bc27
    revert a;refine pN bc27 (pP (p_move rfl) rfl (pN bc27 (pP (p_leq rfl rfl) rfl (pP (p_pick_t rfl bc27 rfl) rfl (pP (p_assign rfl) rfl (pL (pT (zc rfl (fun c29 => ?_) (fun c29 => ?_)))))))))
    ·
     have c29 := of_decide_eq_true c29
     refine pS (pG (pP (p_assign rfl) rfl (pL (pT (pS (pS (pG (pP (p_move rfl) rfl (pP (p_eql rfl rfl) rfl (pL (pT (zc rfl (fun c31 => ?_) (fun c31 => ?_)))))))))))))
     ·
      have c31 := eq_of_beq c31
      refine pG (pP (p_assign rfl) rfl (pL (pT (pS (pG (pP (p_move rfl) rfl (pP (p_eql rfl rfl) rfl (pL (pT (zc rfl (fun c33 => ?_) (fun c33 => ?_)))))))))))
      ·
       have c33 := eq_of_beq c33
       refine pG (pP (p_assign rfl) rfl (pL (pI 2 (pT ?_))));intro a S
       exact ⟨2, 160, 159, S.only ⟨rfl, rfl, rfl, rfl, rfl, trivial⟩, H, (by unfold up.Lead; omega)⟩
      have c33 := ne_of_beq_false c33
      refine pK (pI 2 (pT ?_));intro a S
      exact ⟨2, 160, 191, S.only ⟨rfl, rfl, rfl, rfl, rfl, trivial⟩, H, (by unfold up.Lead; omega)⟩
     have c31 := ne_of_beq_false c31
     refine pK (pT (pS (pG (pP (p_move rfl) rfl (pP (p_eql rfl rfl) rfl (pL (pT (zc rfl (fun c35 => ?_) (fun c35 => ?_)))))))))
     ·
      have c35 := eq_of_beq c35
      refine pG (pP (p_assign rfl) rfl (pL (pI 2 (pT ?_))));intro a S
      exact ⟨2, 128, 159, S.only ⟨rfl, rfl, rfl, rfl, rfl, trivial⟩, H, (by unfold up.Lead; omega)⟩
     have c35 := ne_of_beq_false c35
     refine pK (pI 2 (pT ?_));intro a S
     exact ⟨2, 128, 191, S.only ⟨rfl, rfl, rfl, rfl, rfl, trivial⟩, H, (by unfold up.Lead; omega)⟩
    have c29 := of_decide_eq_false c29
    refine pS (pG (pP (p_move rfl) rfl (pP (p_geq rfl rfl) rfl (pP (p_move rfl) rfl ?_))));intro a S
    refine l_split (S.of 40 rfl) (fun bc37 => ?_) (fun bc37 => ?_)
    ·
     have c37 := of_decide_eq_true bc37
     revert a;refine pN bc37 (pP (p_move rfl) rfl (pN bc37 (pP (p_leq rfl rfl) rfl (pP (p_pick_t rfl bc37 rfl) rfl (pP (p_assign rfl) rfl (pL (pT (zc rfl (fun c39 => ?_) (fun c39 => ?_)))))))))
     ·
      have c39 := of_decide_eq_true c39
      refine pS (pG (pP (p_assign rfl) rfl (pL (pT (pS (pS (pG (pP (p_move rfl) rfl (pP (p_eql rfl rfl) rfl (pL (pT (zc rfl (fun c41 => ?_) (fun c41 => ?_)))))))))))))
      ·
       have c41 := eq_of_beq c41
       refine pG (pP (p_assign rfl) rfl (pL (pT (pS (pG (pP (p_move rfl) rfl (pP (p_eql rfl rfl) rfl (pL (pT (zc rfl (fun c43 => ?_) (fun c43 => ?_)))))))))))
       ·
        have c43 := eq_of_beq c43
        refine pG (pP (p_assign rfl) rfl (pL (pI 2 (pT ?_))));intro a S
        exact ⟨3, 144, 143, S.only ⟨rfl, rfl, rfl, rfl, rfl, trivial⟩, H, (by unfold up.Lead; omega)⟩
       have c43 := ne_of_beq_false c43
       refine pK (pI 2 (pT ?_));intro a S
       exact ⟨3, 144, 191, S.only ⟨rfl, rfl, rfl, rfl, rfl, trivial⟩, H, (by unfold up.Lead; omega)⟩
      have c41 := ne_of_beq_false c41
      refine pK (pT (pS (pG (pP (p_move rfl) rfl (pP (p_eql rfl rfl) rfl (pL (pT (zc rfl (fun c45 => ?_) (fun c45 => ?_)))))))))
      ·
       have c45 := eq_of_beq c45
       refine pG (pP (p_assign rfl) rfl (pL (pI 2 (pT ?_))));intro a S
       exact ⟨3, 128, 143, S.only ⟨rfl, rfl, rfl, rfl, rfl, trivial⟩, H, (by unfold up.Lead; omega)⟩
      have c45 := ne_of_beq_false c45
      refine pK (pI 2 (pT ?_));intro a S
      exact ⟨3, 128, 191, S.only ⟨rfl, rfl, rfl, rfl, rfl, trivial⟩, H, (by unfold up.Lead; omega)⟩
     have c39 := of_decide_eq_false c39
     refine pS (pG (pP (p_assign rfl) rfl (pL (pT (pZ (pJ (pU (pJ (pU (pJ (pU ?_)))))))))));intro a S
     exact r_ret1 S rfl rfl ⟨by rw [hV, up.bad (by omega) (by omega)], H⟩
    have c37 := of_decide_eq_false bc37
    revert a;refine pO bc37 rfl (pO bc37 rfl (pP (p_pick_f rfl bc37 rfl) rfl (pP (p_assign rfl) rfl (pL (pT (zf (pS (pG (pP (p_assign rfl) rfl (pL (pT (pZ (pJ (pU (pJ (pU (pJ (pU ?_))))))))))))))))));intro a S
    exact r_ret1 S rfl rfl ⟨by rw [hV, up.bad (by omega) (by omega)], H⟩
   have c27 := of_decide_eq_false bc27
   revert a;refine pO bc27 rfl (pO bc27 rfl (pP (p_pick_f rfl bc27 rfl) rfl (pP (p_assign rfl) rfl (pL (pT (zf (pS (pG (pP (p_move rfl) rfl (pP (p_geq rfl rfl) rfl (pP (p_move rfl) rfl ?_)))))))))));intro a S
   refine l_split (S.of 40 rfl) (fun bc53 => ?_) (fun bc53 => ?_)
   ·
    have c53 := of_decide_eq_true bc53
    revert a;refine pN bc53 (pP (p_move rfl) rfl (pN bc53 (pP (p_leq rfl rfl) rfl (pP (p_pick_t rfl bc53 rfl) rfl (pP (p_assign rfl) rfl (pL (pT (zc rfl (fun c55 => ?_) (fun c55 => ?_)))))))))
    ·
     have c55 := of_decide_eq_true c55
     refine pS (pG (pP (p_assign rfl) rfl (pL (pT (pS (pS (pG (pP (p_move rfl) rfl (pP (p_eql rfl rfl) rfl (pL (pT (zc rfl (fun c57 => ?_) (fun c57 => ?_)))))))))))))
     ·
      have c57 := eq_of_beq c57
      refine pG (pP (p_assign rfl) rfl (pL (pT (pS (pG (pP (p_move rfl) rfl (pP (p_eql rfl rfl) rfl (pL (pT (zc rfl (fun c59 => ?_) (fun c59 => ?_)))))))))))
      ·
       have c59 := eq_of_beq c59
       refine pG (pP (p_assign rfl) rfl (pL (pI 2 (pT ?_))));intro a S
       exact ⟨3, 144, 143, S.only ⟨rfl, rfl, rfl, rfl, rfl, trivial⟩, H, (by unfold up.Lead; omega)⟩
      have c59 := ne_of_beq_false c59
      refine pK (pI 2 (pT ?_));intro a S
      exact ⟨3, 144, 191, S.only ⟨rfl, rfl, rfl, rfl, rfl, trivial⟩, H, (by unfold up.Lead; omega)⟩
     have c57 := ne_of_beq_false c57
     refine pK (pT (pS (pG (pP (p_move rfl) rfl (pP (p_eql rfl rfl) rfl (pL (pT (zc rfl (fun c61 => ?_) (fun c61 => ?_)))))))))
     ·
      have c61 := eq_of_beq c61
      refine pG (pP (p_assign rfl) rfl (pL (pI 2 (pT ?_))));intro a S
      exact ⟨3, 128, 143, S.only ⟨rfl, rfl, rfl, rfl, rfl, trivial⟩, H, (by unfold up.Lead; omega)⟩
     have c61 := ne_of_beq_false c61
     refine pK (pI 2 (pT ?_));intro a S
     exact ⟨3, 128, 191, S.only ⟨rfl, rfl, rfl, rfl, rfl, trivial⟩, H, (by unfold up.Lead; omega)⟩
    have c55 := of_decide_eq_false c55
    refine pS (pG (pP (p_assign rfl) rfl (pL (pT (pZ (pJ (pU (pJ (pU (pJ (pU ?_)))))))))));intro a S
    exact r_ret1 S rfl rfl ⟨by rw [hV, up.bad (by omega) (by omega)], H⟩
   have c53 := of_decide_eq_false bc53
   revert a;refine pO bc53 rfl (pO bc53 rfl (pP (p_pick_f rfl bc53 rfl) rfl (pP (p_assign rfl) rfl (pL (pT (zf (pS (pG (pP (p_assign rfl) rfl (pL (pT (pZ (pJ (pU (pJ (pU (pJ (pU ?_))))))))))))))))));intro a S
   exact r_ret1 S rfl rfl ⟨by rw [hV, up.bad (by omega) (by omega)], H⟩
  have c23 := of_decide_eq_false bc23
  revert a;refine pO bc23 rfl (pO bc23 rfl (pP (p_pick_f rfl bc23 rfl) rfl (pP (p_assign rfl) rfl (pL (pT (zf (pS (pG (pP (p_move rfl) rfl (pP (p_geq rfl rfl) rfl (pP (p_move rfl) rfl ?_)))))))))));intro a S
  refine l_split (S.of 29 rfl) (fun bc69 => ?_) (fun bc69 => ?_)
  ·
   have c69 := of_decide_eq_true bc69
   revert a;refine pN bc69 (pP (p_move rfl) rfl (pN bc69 (pP (p_leq rfl rfl) rfl (pP (p_pick_t rfl bc69 rfl) rfl (pP (p_assign rfl) rfl (pL (pT (zc rfl (fun c71 => ?_) (fun c71 => ?_)))))))))
   ·
    have c71 := of_decide_eq_true c71
    refine pS (pG (pP (p_assign rfl) rfl (pL (pT (pS (pS (pG (pP (p_move rfl) rfl (pP (p_eql rfl rfl) rfl (pL (pT (zc rfl (fun c73 => ?_) (fun c73 => ?_)))))))))))))
    ·
     have c73 := eq_of_beq c73
     refine pG (pP (p_assign rfl) rfl (pL (pT (pS (pG (pP (p_move rfl) rfl (pP (p_eql rfl rfl) rfl (pL (pT (zc rfl (fun c75 => ?_) (fun c75 => ?_)))))))))))
     ·
      have c75 := eq_of_beq c75
      refine pG (pP (p_assign rfl) rfl (pL (pI 2 (pT ?_))));intro a S
      exact ⟨2, 160, 159, S.only ⟨rfl, rfl, rfl, rfl, rfl, trivial⟩, H, (by unfold up.Lead; omega)⟩
     have c75 := ne_of_beq_false c75
     refine pK (pI 2 (pT ?_));intro a S
     exact ⟨2, 160, 191, S.only ⟨rfl, rfl, rfl, rfl, rfl, trivial⟩, H, (by unfold up.Lead; omega)⟩
    have c73 := ne_of_beq_false c73
    refine pK (pT (pS (pG (pP (p_move rfl) rfl (pP (p_eql rfl rfl) rfl (pL (pT (zc rfl (fun c77 => ?_) (fun c77 => ?_)))))))))
    ·
     have c77 := eq_of_beq c77
     refine pG (pP (p_assign rfl) rfl (pL (pI 2 (pT ?_))));intro a S
     exact ⟨2, 128, 159, S.only ⟨rfl, rfl, rfl, rfl, rfl, trivial⟩, H, (by unfold up.Lead; omega)⟩
    have c77 := ne_of_beq_false c77
    refine pK (pI 2 (pT ?_));intro a S
    exact ⟨2, 128, 191, S.only ⟨rfl, rfl, rfl, rfl, rfl, trivial⟩, H, (by unfold up.Lead; omega)⟩
   have c71 := of_decide_eq_false c71
   refine pS (pG (pP (p_move rfl) rfl (pP (p_geq rfl rfl) rfl (pP (p_move rfl) rfl ?_))));intro a S
   refine l_split (S.of 40 rfl) (fun bc79 => ?_) (fun bc79 => ?_)
   ·
    have c79 := of_decide_eq_true bc79
    revert a;refine pN bc79 (pP (p_move rfl) rfl (pN bc79 (pP (p_leq rfl rfl) rfl (pP (p_pick_t rfl bc79 rfl) rfl (pP (p_assign rfl) rfl (pL (pT (zc rfl (fun c81 => ?_) (fun c81 => ?_)))))))))
    ·
     have c81 := of_decide_eq_true c81
     refine pS (pG (pP (p_assign rfl) rfl (pL (pT (pS (pS (pG (pP (p_move rfl) rfl (pP (p_eql rfl rfl) rfl (pL (pT (zc rfl (fun c83 => ?_) (fun c83 => ?_)))))))))))))
     ·
      have c83 := eq_of_beq c83
      refine pG (pP (p_assign rfl) rfl (pL (pT (pS (pG (pP (p_move rfl) rfl (pP (p_eql rfl rfl) rfl (pL (pT (zc rfl (fun c85 => ?_) (fun c85 => ?_)))))))))))
      ·
       have c85 := eq_of_beq c85
       refine pG (pP (p_assign rfl) rfl (pL (pI 2 (pT ?_))));intro a S
       exact ⟨3, 144, 143, S.only ⟨rfl, rfl, rfl, rfl, rfl, trivial⟩, H, (by unfold up.Lead; omega)⟩
      have c85 := ne_of_beq_false c85
      refine pK (pI 2 (pT ?_));intro a S
      exact ⟨3, 144, 191, S.only ⟨rfl, rfl, rfl, rfl, rfl, trivial⟩, H, (by unfold up.Lead; omega)⟩
     have c83 := ne_of_beq_false c83
     refine pK (pT (pS (pG (pP (p_move rfl) rfl (pP (p_eql rfl rfl) rfl (pL (pT (zc rfl (fun c87 => ?_) (fun c87 => ?_)))))))))
     ·
      have c87 := eq_of_beq c87
      refine pG (pP (p_assign rfl) rfl (pL (pI 2 (pT ?_))));intro a S
      exact ⟨3, 128, 143, S.only ⟨rfl, rfl, rfl, rfl, rfl, trivial⟩, H, (by unfold up.Lead; omega)⟩
     have c87 := ne_of_beq_false c87
     refine pK (pI 2 (pT ?_));intro a S
     exact ⟨3, 128, 191, S.only ⟨rfl, rfl, rfl, rfl, rfl, trivial⟩, H, (by unfold up.Lead; omega)⟩
    have c81 := of_decide_eq_false c81
    refine pS (pG (pP (p_assign rfl) rfl (pL (pT (pZ (pJ (pU (pJ (pU (pJ (pU ?_)))))))))));intro a S
    exact r_ret1 S rfl rfl ⟨by rw [hV, up.bad (by omega) (by omega)], H⟩
   have c79 := of_decide_eq_false bc79
   revert a;refine pO bc79 rfl (pO bc79 rfl (pP (p_pick_f rfl bc79 rfl) rfl (pP (p_assign rfl) rfl (pL (pT (zf (pS (pG (pP (p_assign rfl) rfl (pL (pT (pZ (pJ (pU (pJ (pU (pJ (pU ?_))))))))))))))))));intro a S
   exact r_ret1 S rfl rfl ⟨by rw [hV, up.bad (by omega) (by omega)], H⟩
  have c69 := of_decide_eq_false bc69
  revert a;refine pO bc69 rfl (pO bc69 rfl (pP (p_pick_f rfl bc69 rfl) rfl (pP (p_assign rfl) rfl (pL (pT (zf (pS (pG (pP (p_move rfl) rfl (pP (p_geq rfl rfl) rfl (pP (p_move rfl) rfl ?_)))))))))));intro a S
  refine l_split (S.of 40 rfl) (fun bc95 => ?_) (fun bc95 => ?_)
  ·
   have c95 := of_decide_eq_true bc95
   revert a;refine pN bc95 (pP (p_move rfl) rfl (pN bc95 (pP (p_leq rfl rfl) rfl (pP (p_pick_t rfl bc95 rfl) rfl (pP (p_assign rfl) rfl (pL (pT (zc rfl (fun c97 => ?_) (fun c97 => ?_)))))))))
   ·
    have c97 := of_decide_eq_true c97
    refine pS (pG (pP (p_assign rfl) rfl (pL (pT (pS (pS (pG (pP (p_move rfl) rfl (pP (p_eql rfl rfl) rfl (pL (pT (zc rfl (fun c99 => ?_) (fun c99 => ?_)))))))))))))
    ·
     have c99 := eq_of_beq c99
     refine pG (pP (p_assign rfl) rfl (pL (pT (pS (pG (pP (p_move rfl) rfl (pP (p_eql rfl rfl) rfl (pL (pT (zc rfl (fun c101 => ?_) (fun c101 => ?_)))))))))))
     ·
      have c101 := eq_of_beq c101
      refine pG (pP (p_assign rfl) rfl (pL (pI 2 (pT ?_))));intro a S
      exact ⟨3, 144, 143, S.only ⟨rfl, rfl, rfl, rfl, rfl, trivial⟩, H, (by unfold up.Lead; omega)⟩
     have c101 := ne_of_beq_false c101
     refine pK (pI 2 (pT ?_));intro a S
     exact ⟨3, 144, 191, S.only ⟨rfl, rfl, rfl, rfl, rfl, trivial⟩, H, (by unfold up.Lead; omega)⟩
    have c99 := ne_of_beq_false c99
    refine pK (pT (pS (pG (pP (p_move rfl) rfl (pP (p_eql rfl rfl) rfl (pL (pT (zc rfl (fun c103 => ?_) (fun c103 => ?_)))))))))
    ·
     have c103 := eq_of_beq c103
     refine pG (pP (p_assign rfl) rfl (pL (pI 2 (pT ?_))));intro a S
     exact ⟨3, 128, 143, S.only ⟨rfl, rfl, rfl, rfl, rfl, trivial⟩, H, (by unfold up.Lead; omega)⟩
    have c103 := ne_of_beq_false c103
    refine pK (pI 2 (pT ?_));intro a S
    exact ⟨3, 128, 191, S.only ⟨rfl, rfl, rfl, rfl, rfl, trivial⟩, H, (by unfold up.Lead; omega)⟩
   have c97 := of_decide_eq_false c97
   refine pS (pG (pP (p_assign rfl) rfl (pL (pT (pZ (pJ (pU (pJ (pU (pJ (pU ?_)))))))))));intro a S
   exact r_ret1 S rfl rfl ⟨by rw [hV, up.bad (by omega) (by omega)], H⟩
  have c95 := of_decide_eq_false bc95
  revert a;refine pO bc95 rfl (pO bc95 rfl (pP (p_pick_f rfl bc95 rfl) rfl (pP (p_assign rfl) rfl (pL (pT (zf (pS (pG (pP (p_assign rfl) rfl (pL (pT (pZ (pJ (pU (pJ (pU (pJ (pU ?_))))))))))))))))));intro a S
  exact r_ret1 S rfl rfl ⟨by rw [hV, up.bad (by omega) (by omega)], H⟩
 have c3 := of_decide_eq_false c3
 refine pX (pV (pV (pW (pT (pS (pG (pP (p_assign rfl) rfl (pL (pT (pZ ?_))))))))));intro a S
 exact r_ret1 S rfl rfl ⟨by rw [hV, up.V_end s i (by omega)], H⟩
end Go.Proofs.YtneoieigaakoaaaGreatDoor.u8
end
section
namespace Go.Proofs.YtneoieigaakoaaaGreatDoor.pf
open Go.Proofs.YtneoieigaakoaaaGreatDoor.fx
open Go.RowKit Go.Proofs.HHW Go.Proofs.YtneoieigaakoaaaGreatDoorW.PrintWords
namespace vs
theorem sz2 : szB Tryz.prog 2 = some 1 := by kernel_rfl
theorem sz9 : szB Tryz.prog 9 = some 1 := by kernel_rfl
theorem fin3_0 {p : Int × Option Int} (h : p.2 = none) : fin3 p = (p.1, true, false) := by unfold fin3; rw [h]
theorem fin3_1 {p : Int × Option Int} (h : p.2 = some 1) : fin3 p = (0, false, true) := by unfold fin3; rw [h]; rfl
theorem fin3_2 {p : Int × Option Int} (h : p.2 = some 2) : fin3 p = (0, false, false) := by unfold fin3; rw [h]; rfl
theorem r_retctt {P : Program} {fn : Func} {R : Ending → World → Prop} {a : Act} {n : Nat} {F : List (Nat × Value)} {w : World} {t t1 t2 : Tmp} {ty : TypeId} {ad : Addr} {v v1 v2 : Value} (S : SL a n [] F) (hr : fn.results = #[.cell t ty, .tmp t1, .tmp t2]) (h0 : slot F t = some (.pointer (some ad))) (h1 : slot F t1 = some v1) (h2 : slot F t2 = some v2) (h4 : (loadVar ty ad).run P w = .ok v w) (h : R (.returned (.tuple #[v, v1, v2])) w) : bodyPost P fn R .ret a w := by
 refine ⟨S.defers, .tuple #[v, v1, v2], ?_, h⟩
 simp [results, hr, S.at_ t _ h0, S.at_ t1 _ h1, S.at_ t2 _ h2, asAddr, h4, Result.andThen]
theorem sv1_ (wb w0 : World) (B : Nat) (L0 : List (Nat × Obj))   (s : ByteArray) (hs : s.size ≤ 1000000) (H : HH B wb w0 L0) : Calls Tryz.prog 5 #[.int .i64 1, .string s] w0 fun e w' => e = .returned (vi.ansP (up.V s 0) false { k := 1, s := s }) ∧ HH B wb w' L0 := by
 refine c_enter (args := [.int .i64 1, .string s]) (k := 82) Tryz.func5 rfl rfl rfl (fun a S => ?_)
 refine wp_seq ?_
 refine c_region ?_
 refine l_alloc (cs := #[.int .i64 0, .string ⟨#[]⟩, .int .i64 0, .int .u64 0, .float .f64 0, .bool false]) S H rfl (fun w => al zv25) rfl rfl rfl ?_; clear S a H; intro g1 w a H S
 refine l_mv 2 S rfl ?_; clear S a; intro a S
 refine l_nil ?_
 refine e_then ?_
 refine wp_seq ?_
 refine c_region ?_
 refine l_mv 1 S rfl ?_; clear S a; intro a S
 refine l_pure S (p_fieldAddr rfl (fun w => fa25_0 w _ _)) rfl rfl rfl ?_; clear S a; intro a S
 refine l_store S H rfl rfl rfl .here (by first | decide | simp [Value.cells]) (fun w u hc hz => st1 sz3 rfl hc hz) rfl rfl ?_; clear S a H; intro w a H S
 refine l_nil ?_
 refine e_then ?_
 refine wp_seq ?_
 refine c_region ?_
 refine l_mv 1 S rfl ?_; clear S a; intro a S
 refine l_nil ?_
 refine e_then ?_
 refine wp_seq ?_
 refine wp_seq ?_
 refine c_region ?_
 refine l_mv 1 S rfl ?_; clear S a; intro a S
 refine l_nil ?_
 refine e_then ?_
 refine wp_block ?_
 refine wp_seq ?_
 refine c_region ?_
 refine l_pure S (p_eql rfl rfl) rfl rfl rfl ?_; clear S a; intro a S
 refine l_mv 1 S rfl ?_; clear S a; intro a S
 refine l_nil ?_
 refine e_then ?_
 refine c_cond (b := true) S rfl (fun _ => ?_) (fun h => by cases h)
 refine wp_seq ?_
 refine c_region ?_
 refine l_mv 1 S rfl ?_; clear S a; intro a S
 refine l_pure S (p_fieldAddr rfl (fun w => fa25_1 w _ _)) rfl rfl rfl ?_; clear S a; intro a S
 refine l_store S H rfl rfl rfl .here (by first | decide | simp [Value.cells]) (fun w u hc hz => st1 sz9 rfl hc hz) rfl rfl ?_; clear S a H; intro w a H S
 refine l_nil ?_
 refine e_then ?_
 refine c_region ?_
 refine l_mv 1 S rfl ?_; clear S a; intro a S
 have hcon := u8.utf8_ wb _ B _ s H (by omega)
 refine l_call S rfl rfl Tryz.func11 rfl rfl (hcon) rfl rfl rfl ?_
 rintro e w ⟨rfl, hH⟩
 refine ⟨_, rfl, ?_⟩; clear S a; intro a S
 clear H hcon; have H := hH; clear hH
 refine l_mv 1 S rfl ?_; clear S a; intro a S
 refine l_nil ?_
 refine e_in 0 ?_
 refine e_then ?_
 refine wp_seq ?_
 refine wp_seq ?_
 refine c_region ?_
 refine l_mv 1 S rfl ?_; clear S a; intro a S
 refine l_pure S (p_not rfl) rfl rfl rfl ?_; clear S a; intro a S
 refine l_nil ?_
 refine e_then ?_
 refine c_cond S rfl (fun bc8 => ?_) (fun bc8 => ?_)
 ·
  have c8 := bc8
  replace c8 := not_eq_true_ c8
  refine c_region ?_
  refine l_pure S (p_bld (ps := []) rfl (bld25_)) rfl rfl rfl ?_; clear S a; intro a S
  refine l_storeAll (vs := [.int .i64 0, .string ⟨#[]⟩, .int .i64 0, .int .u64 0, .float .f64 0, .bool false]) S H rfl rfl rfl sz25 .here rfl (fun v hv => by simp only [List.mem_cons, List.not_mem_nil, or_false] at hv; rcases hv with rfl | rfl | rfl | rfl | rfl | rfl <;> rfl) rfl rfl ?_; clear S a H; intro w a H S
  refine l_nil ?_
  refine e_then ?_
  refine wp_seq ?_
  refine c_region ?_
  refine l_read S H (r_loadn (m := 6) (vs := [.int .i64 0, .string ⟨#[]⟩, .int .i64 0, .int .u64 0, .float .f64 0, .bool false]) rfl List.mem_cons_self ag25 sz25 rfl rfl) rfl rfl rfl ?_; clear S a; intro a S
  refine l_mv 2 S rfl ?_; clear S a; intro a S
  refine l_storeAll (vs := [.int .i64 0, .string ⟨#[]⟩, .int .i64 0, .int .u64 0, .float .f64 0, .bool false]) S H rfl rfl rfl sz25 .here rfl (fun v hv => by simp only [List.mem_cons, List.not_mem_nil, or_false] at hv; rcases hv with rfl | rfl | rfl | rfl | rfl | rfl <;> rfl) rfl rfl ?_; clear S a H; intro w a H S
  refine l_mv 2 S rfl ?_; clear S a; intro a S
  refine l_nil ?_
  refine e_then ?_
  refine wp_ret ?_
  exact r_retctt S rfl rfl rfl rfl (lva (cs := [.int .i64 0, .string ⟨#[]⟩, .int .i64 0, .int .u64 0, .float .f64 0, .bool false]) ag25 sz25 rfl H List.mem_cons_self) ⟨by rw [show up.V s 0 = false from by simpa using bc8]; rfl, H.tail⟩
 ·
  have c8 := bc8
  replace c8 := not_eq_false_ c8
  refine wp_skip ?_
  refine e_then ?_
  refine wp_seq ?_
  refine c_region ?_
  refine l_read S H (r_loadn (m := 6) (vs := [.int .i64 1, .string s, .int .i64 0, .int .u64 0, .float .f64 0, .bool false]) rfl List.mem_cons_self ag25 sz25 rfl rfl) rfl rfl rfl ?_; clear S a; intro a S
  refine l_mv 2 S rfl ?_; clear S a; intro a S
  refine l_storeAll (vs := [.int .i64 1, .string s, .int .i64 0, .int .u64 0, .float .f64 0, .bool false]) S H rfl rfl rfl sz25 .here rfl (fun v hv => by simp only [List.mem_cons, List.not_mem_nil, or_false] at hv; rcases hv with rfl | rfl | rfl | rfl | rfl | rfl <;> rfl) rfl rfl ?_; clear S a H; intro w a H S
  refine l_mv 2 S rfl ?_; clear S a; intro a S
  refine l_nil ?_
  refine e_then ?_
  refine wp_ret ?_
  exact r_retctt S rfl rfl rfl rfl (lva (cs := [.int .i64 1, .string s, .int .i64 0, .int .u64 0, .float .f64 0, .bool false]) ag25 sz25 rfl H List.mem_cons_self) ⟨by rw [show up.V s 0 = true from by simpa using bc8]; rfl, H.tail⟩
theorem sv2_ (wb w0 : World) (B : Nat) (L0 : List (Nat × Obj))   (s : ByteArray) (hs : s.size ≤ 1000000) (H : HH B wb w0 L0) : Calls Tryz.prog 5 #[.int .i64 2, .string s] w0 fun e w' => e = .returned (vi.ansP (okE (wn.pi64 s).2) (farE (wn.pi64 s).2) { k := 2, n := (wn.pi64 s).1 }) ∧ HH B wb w' L0 := by
 refine c_enter (args := [.int .i64 2, .string s]) (k := 82) Tryz.func5 rfl rfl rfl (fun a S => ?_)
 refine wp_seq ?_
 refine c_region ?_
 refine l_alloc (cs := #[.int .i64 0, .string ⟨#[]⟩, .int .i64 0, .int .u64 0, .float .f64 0, .bool false]) S H rfl (fun w => al zv25) rfl rfl rfl ?_; clear S a H; intro g1 w a H S
 refine l_mv 2 S rfl ?_; clear S a; intro a S
 refine l_nil ?_
 refine e_then ?_
 refine wp_seq ?_
 refine c_region ?_
 refine l_mv 1 S rfl ?_; clear S a; intro a S
 refine l_pure S (p_fieldAddr rfl (fun w => fa25_0 w _ _)) rfl rfl rfl ?_; clear S a; intro a S
 refine l_store S H rfl rfl rfl .here (by first | decide | simp [Value.cells]) (fun w u hc hz => st1 sz3 rfl hc hz) rfl rfl ?_; clear S a H; intro w a H S
 refine l_nil ?_
 refine e_then ?_
 refine wp_seq ?_
 refine c_region ?_
 refine l_mv 1 S rfl ?_; clear S a; intro a S
 refine l_nil ?_
 refine e_then ?_
 refine wp_seq ?_
 refine wp_seq ?_
 refine c_region ?_
 refine l_mv 1 S rfl ?_; clear S a; intro a S
 refine l_nil ?_
 refine e_then ?_
 refine wp_block ?_
 refine wp_seq ?_
 refine c_region ?_
 refine l_pure S (p_eql rfl rfl) rfl rfl rfl ?_; clear S a; intro a S
 refine l_mv 1 S rfl ?_; clear S a; intro a S
 refine l_nil ?_
 refine e_then ?_
 refine c_cond (b := false) S rfl (fun h => by cases h) (fun _ => ?_)
 refine wp_seq ?_
 refine c_region ?_
 refine l_pure S (p_eql rfl rfl) rfl rfl rfl ?_; clear S a; intro a S
 refine l_mv 1 S rfl ?_; clear S a; intro a S
 refine l_nil ?_
 refine e_then ?_
 refine c_cond (b := true) S rfl (fun _ => ?_) (fun h => by cases h)
 refine c_region ?_
 refine l_mv 1 S rfl ?_; clear S a; intro a S
 have hcon := ws.whl_ wb _ B _ s true hs H
 refine l_call S rfl rfl Tryz.func12 rfl rfl (hcon) rfl rfl rfl ?_
 rintro e w ⟨rfl, hH, hwr⟩
 refine ⟨_, rfl, ?_⟩; clear S a; intro a S
 clear H hcon; have H := hH; clear hH
 rcases vn.pi_c s with he | he | he
 ·
  rw [whl_pi hwr, fin3_0 (by exact he)] at S; dsimp only at S
  refine l_mv 4 S rfl ?_; clear S a; intro a S
  refine l_pure S (p_fieldAddr rfl (fun w => fa25_2 w _ _)) rfl rfl rfl ?_; clear S a; intro a S
  refine l_store S H rfl rfl rfl .here (by first | decide | simp [Value.cells]) (fun w u hc hz => st1 sz2 rfl hc hz) rfl rfl ?_; clear S a H; intro w a H S
  refine l_mv 2 S rfl ?_; clear S a; intro a S
  refine l_nil ?_
  refine e_in 0 ?_
  refine e_then ?_
  refine wp_seq ?_
  refine wp_seq ?_
  refine c_region ?_
  refine l_mv 1 S rfl ?_; clear S a; intro a S
  refine l_pure S (p_not rfl) rfl rfl rfl ?_; clear S a; intro a S
  refine l_nil ?_
  refine e_then ?_
  refine c_cond (b := false) S rfl (fun h => by cases h) (fun _ => ?_)
  refine wp_skip ?_
  refine e_then ?_
  refine wp_seq ?_
  refine c_region ?_
  refine l_read S H (r_loadn (m := 6) (vs := [.int .i64 2, .string ⟨#[]⟩, .int .i64 (wn.pi64 s).1, .int .u64 0, .float .f64 0, .bool false]) rfl List.mem_cons_self ag25 sz25 rfl rfl) rfl rfl rfl ?_; clear S a; intro a S
  refine l_mv 2 S rfl ?_; clear S a; intro a S
  refine l_storeAll (vs := [.int .i64 2, .string ⟨#[]⟩, .int .i64 (wn.pi64 s).1, .int .u64 0, .float .f64 0, .bool false]) S H rfl rfl rfl sz25 .here rfl (fun v hv => by simp only [List.mem_cons, List.not_mem_nil, or_false] at hv; rcases hv with rfl | rfl | rfl | rfl | rfl | rfl <;> rfl) rfl rfl ?_; clear S a H; intro w a H S
  refine l_mv 2 S rfl ?_; clear S a; intro a S
  refine l_nil ?_
  refine e_then ?_
  refine wp_ret ?_
  exact r_retctt S rfl rfl rfl rfl (lva (cs := [.int .i64 2, .string ⟨#[]⟩, .int .i64 (wn.pi64 s).1, .int .u64 0, .float .f64 0, .bool false]) ag25 sz25 rfl H List.mem_cons_self) ⟨by rw [he]; rfl, H.tail⟩
 ·
  rw [whl_pi hwr, fin3_1 (by exact he)] at S; dsimp only at S
  refine l_mv 4 S rfl ?_; clear S a; intro a S
  refine l_pure S (p_fieldAddr rfl (fun w => fa25_2 w _ _)) rfl rfl rfl ?_; clear S a; intro a S
  refine l_store S H rfl rfl rfl .here (by first | decide | simp [Value.cells]) (fun w u hc hz => st1 sz2 rfl hc hz) rfl rfl ?_; clear S a H; intro w a H S
  refine l_mv 2 S rfl ?_; clear S a; intro a S
  refine l_nil ?_
  refine e_in 0 ?_
  refine e_then ?_
  refine wp_seq ?_
  refine wp_seq ?_
  refine c_region ?_
  refine l_mv 1 S rfl ?_; clear S a; intro a S
  refine l_pure S (p_not rfl) rfl rfl rfl ?_; clear S a; intro a S
  refine l_nil ?_
  refine e_then ?_
  refine c_cond (b := true) S rfl (fun _ => ?_) (fun h => by cases h)
  refine c_region ?_
  refine l_pure S (p_bld (ps := []) rfl (bld25_)) rfl rfl rfl ?_; clear S a; intro a S
  refine l_storeAll (vs := [.int .i64 0, .string ⟨#[]⟩, .int .i64 0, .int .u64 0, .float .f64 0, .bool false]) S H rfl rfl rfl sz25 .here rfl (fun v hv => by simp only [List.mem_cons, List.not_mem_nil, or_false] at hv; rcases hv with rfl | rfl | rfl | rfl | rfl | rfl <;> rfl) rfl rfl ?_; clear S a H; intro w a H S
  refine l_nil ?_
  refine e_then ?_
  refine wp_seq ?_
  refine c_region ?_
  refine l_read S H (r_loadn (m := 6) (vs := [.int .i64 0, .string ⟨#[]⟩, .int .i64 0, .int .u64 0, .float .f64 0, .bool false]) rfl List.mem_cons_self ag25 sz25 rfl rfl) rfl rfl rfl ?_; clear S a; intro a S
  refine l_mv 2 S rfl ?_; clear S a; intro a S
  refine l_storeAll (vs := [.int .i64 0, .string ⟨#[]⟩, .int .i64 0, .int .u64 0, .float .f64 0, .bool false]) S H rfl rfl rfl sz25 .here rfl (fun v hv => by simp only [List.mem_cons, List.not_mem_nil, or_false] at hv; rcases hv with rfl | rfl | rfl | rfl | rfl | rfl <;> rfl) rfl rfl ?_; clear S a H; intro w a H S
  refine l_mv 2 S rfl ?_; clear S a; intro a S
  refine l_nil ?_
  refine e_then ?_
  refine wp_ret ?_
  exact r_retctt S rfl rfl rfl rfl (lva (cs := [.int .i64 0, .string ⟨#[]⟩, .int .i64 0, .int .u64 0, .float .f64 0, .bool false]) ag25 sz25 rfl H List.mem_cons_self) ⟨by rw [he]; rfl, H.tail⟩
 ·
  rw [whl_pi hwr, fin3_2 (by exact he)] at S; dsimp only at S
  refine l_mv 4 S rfl ?_; clear S a; intro a S
  refine l_pure S (p_fieldAddr rfl (fun w => fa25_2 w _ _)) rfl rfl rfl ?_; clear S a; intro a S
  refine l_store S H rfl rfl rfl .here (by first | decide | simp [Value.cells]) (fun w u hc hz => st1 sz2 rfl hc hz) rfl rfl ?_; clear S a H; intro w a H S
  refine l_mv 2 S rfl ?_; clear S a; intro a S
  refine l_nil ?_
  refine e_in 0 ?_
  refine e_then ?_
  refine wp_seq ?_
  refine wp_seq ?_
  refine c_region ?_
  refine l_mv 1 S rfl ?_; clear S a; intro a S
  refine l_pure S (p_not rfl) rfl rfl rfl ?_; clear S a; intro a S
  refine l_nil ?_
  refine e_then ?_
  refine c_cond (b := true) S rfl (fun _ => ?_) (fun h => by cases h)
  refine c_region ?_
  refine l_pure S (p_bld (ps := []) rfl (bld25_)) rfl rfl rfl ?_; clear S a; intro a S
  refine l_storeAll (vs := [.int .i64 0, .string ⟨#[]⟩, .int .i64 0, .int .u64 0, .float .f64 0, .bool false]) S H rfl rfl rfl sz25 .here rfl (fun v hv => by simp only [List.mem_cons, List.not_mem_nil, or_false] at hv; rcases hv with rfl | rfl | rfl | rfl | rfl | rfl <;> rfl) rfl rfl ?_; clear S a H; intro w a H S
  refine l_nil ?_
  refine e_then ?_
  refine wp_seq ?_
  refine c_region ?_
  refine l_read S H (r_loadn (m := 6) (vs := [.int .i64 0, .string ⟨#[]⟩, .int .i64 0, .int .u64 0, .float .f64 0, .bool false]) rfl List.mem_cons_self ag25 sz25 rfl rfl) rfl rfl rfl ?_; clear S a; intro a S
  refine l_mv 2 S rfl ?_; clear S a; intro a S
  refine l_storeAll (vs := [.int .i64 0, .string ⟨#[]⟩, .int .i64 0, .int .u64 0, .float .f64 0, .bool false]) S H rfl rfl rfl sz25 .here rfl (fun v hv => by simp only [List.mem_cons, List.not_mem_nil, or_false] at hv; rcases hv with rfl | rfl | rfl | rfl | rfl | rfl <;> rfl) rfl rfl ?_; clear S a H; intro w a H S
  refine l_mv 2 S rfl ?_; clear S a; intro a S
  refine l_nil ?_
  refine e_then ?_
  refine wp_ret ?_
  exact r_retctt S rfl rfl rfl rfl (lva (cs := [.int .i64 0, .string ⟨#[]⟩, .int .i64 0, .int .u64 0, .float .f64 0, .bool false]) ag25 sz25 rfl H List.mem_cons_self) ⟨by rw [he]; rfl, H.tail⟩
theorem sv3_ (wb w0 : World) (B : Nat) (L0 : List (Nat × Obj))   (s : ByteArray) (hs : s.size ≤ 1000000) (H : HH B wb w0 L0) : Calls Tryz.prog 5 #[.int .i64 3, .string s] w0 fun e w' => e = .returned (vi.ansP (okE (wn.pu64 s).2) (farE (wn.pu64 s).2) { k := 3, u := (wn.pu64 s).1 }) ∧ HH B wb w' L0 := by
 refine c_enter (args := [.int .i64 3, .string s]) (k := 82) Tryz.func5 rfl rfl rfl (fun a S => ?_)
 refine wp_seq ?_
 refine c_region ?_
 refine l_alloc (cs := #[.int .i64 0, .string ⟨#[]⟩, .int .i64 0, .int .u64 0, .float .f64 0, .bool false]) S H rfl (fun w => al zv25) rfl rfl rfl ?_; clear S a H; intro g1 w a H S
 refine l_mv 2 S rfl ?_; clear S a; intro a S
 refine l_nil ?_
 refine e_then ?_
 refine wp_seq ?_
 refine c_region ?_
 refine l_mv 1 S rfl ?_; clear S a; intro a S
 refine l_pure S (p_fieldAddr rfl (fun w => fa25_0 w _ _)) rfl rfl rfl ?_; clear S a; intro a S
 refine l_store S H rfl rfl rfl .here (by first | decide | simp [Value.cells]) (fun w u hc hz => st1 sz3 rfl hc hz) rfl rfl ?_; clear S a H; intro w a H S
 refine l_nil ?_
 refine e_then ?_
 refine wp_seq ?_
 refine c_region ?_
 refine l_mv 1 S rfl ?_; clear S a; intro a S
 refine l_nil ?_
 refine e_then ?_
 refine wp_seq ?_
 refine wp_seq ?_
 refine c_region ?_
 refine l_mv 1 S rfl ?_; clear S a; intro a S
 refine l_nil ?_
 refine e_then ?_
 refine wp_block ?_
 refine wp_seq ?_
 refine c_region ?_
 refine l_pure S (p_eql rfl rfl) rfl rfl rfl ?_; clear S a; intro a S
 refine l_mv 1 S rfl ?_; clear S a; intro a S
 refine l_nil ?_
 refine e_then ?_
 refine c_cond (b := false) S rfl (fun h => by cases h) (fun _ => ?_)
 refine wp_seq ?_
 refine c_region ?_
 refine l_pure S (p_eql rfl rfl) rfl rfl rfl ?_; clear S a; intro a S
 refine l_mv 1 S rfl ?_; clear S a; intro a S
 refine l_nil ?_
 refine e_then ?_
 refine c_cond (b := false) S rfl (fun h => by cases h) (fun _ => ?_)
 refine wp_seq ?_
 refine c_region ?_
 refine l_pure S (p_eql rfl rfl) rfl rfl rfl ?_; clear S a; intro a S
 refine l_mv 1 S rfl ?_; clear S a; intro a S
 refine l_nil ?_
 refine e_then ?_
 refine c_cond (b := true) S rfl (fun _ => ?_) (fun h => by cases h)
 refine wp_seq ?_
 refine c_region ?_
 refine l_mv 1 S rfl ?_; clear S a; intro a S
 refine l_nil ?_
 refine e_then ?_
 refine wp_seq ?_
 refine c_region ?_
 refine l_mv 1 S rfl ?_; clear S a; intro a S
 have hcon := ws.whl_ wb _ B _ s false hs H
 refine l_call S rfl rfl Tryz.func12 rfl rfl (hcon) rfl rfl rfl ?_
 rintro e w ⟨rfl, hH, hwr⟩
 refine ⟨_, rfl, ?_⟩; clear S a; intro a S
 clear H hcon; have H := hH; clear hH
 rcases vn.pu_c s with he | he | he
 ·
  rw [whl_pu hwr, fin3_0 (by exact he)] at S; dsimp only at S
  refine l_mv 7 S rfl ?_; clear S a; intro a S
  refine l_nil ?_
  refine e_then ?_
  refine c_region ?_
  refine l_mv 1 S rfl ?_; clear S a; intro a S
  refine l_pure S (p_conv rfl (fun w => cv_int (Tryz.underlying2) (Tryz.underlying22) (r := (wn.pu64 s).1) (vi.back64u (vi.pu_rng s)))) rfl rfl rfl ?_; clear S a; intro a S
  refine l_pure S (p_fieldAddr rfl (fun w => fa25_3 w _ _)) rfl rfl rfl ?_; clear S a; intro a S
  refine l_store S H rfl rfl rfl .here (by first | decide | simp [Value.cells]) (fun w u hc hz => st1 sz22 rfl hc hz) rfl rfl ?_; clear S a H; intro w a H S
  refine l_nil ?_
  refine e_in 0 ?_
  refine e_then ?_
  refine wp_seq ?_
  refine wp_seq ?_
  refine c_region ?_
  refine l_mv 1 S rfl ?_; clear S a; intro a S
  refine l_pure S (p_not rfl) rfl rfl rfl ?_; clear S a; intro a S
  refine l_nil ?_
  refine e_then ?_
  refine c_cond (b := false) S rfl (fun h => by cases h) (fun _ => ?_)
  refine wp_skip ?_
  refine e_then ?_
  refine wp_seq ?_
  refine c_region ?_
  refine l_read S H (r_loadn (m := 6) (vs := [.int .i64 3, .string ⟨#[]⟩, .int .i64 0, .int .u64 (wn.pu64 s).1, .float .f64 0, .bool false]) rfl List.mem_cons_self ag25 sz25 rfl rfl) rfl rfl rfl ?_; clear S a; intro a S
  refine l_mv 2 S rfl ?_; clear S a; intro a S
  refine l_storeAll (vs := [.int .i64 3, .string ⟨#[]⟩, .int .i64 0, .int .u64 (wn.pu64 s).1, .float .f64 0, .bool false]) S H rfl rfl rfl sz25 .here rfl (fun v hv => by simp only [List.mem_cons, List.not_mem_nil, or_false] at hv; rcases hv with rfl | rfl | rfl | rfl | rfl | rfl <;> rfl) rfl rfl ?_; clear S a H; intro w a H S
  refine l_mv 2 S rfl ?_; clear S a; intro a S
  refine l_nil ?_
  refine e_then ?_
  refine wp_ret ?_
  exact r_retctt S rfl rfl rfl rfl (lva (cs := [.int .i64 3, .string ⟨#[]⟩, .int .i64 0, .int .u64 (wn.pu64 s).1, .float .f64 0, .bool false]) ag25 sz25 rfl H List.mem_cons_self) ⟨by rw [he]; rfl, H.tail⟩
 ·
  rw [whl_pu hwr, fin3_1 (by exact he)] at S; dsimp only at S
  refine l_mv 7 S rfl ?_; clear S a; intro a S
  refine l_nil ?_
  refine e_then ?_
  refine c_region ?_
  refine l_mv 1 S rfl ?_; clear S a; intro a S
  refine l_pure S (p_conv rfl (fun w => cv_int (Tryz.underlying2) (Tryz.underlying22) (r := 0) (by decide))) rfl rfl rfl ?_; clear S a; intro a S
  refine l_pure S (p_fieldAddr rfl (fun w => fa25_3 w _ _)) rfl rfl rfl ?_; clear S a; intro a S
  refine l_store S H rfl rfl rfl .here (by first | decide | simp [Value.cells]) (fun w u hc hz => st1 sz22 rfl hc hz) rfl rfl ?_; clear S a H; intro w a H S
  refine l_nil ?_
  refine e_in 0 ?_
  refine e_then ?_
  refine wp_seq ?_
  refine wp_seq ?_
  refine c_region ?_
  refine l_mv 1 S rfl ?_; clear S a; intro a S
  refine l_pure S (p_not rfl) rfl rfl rfl ?_; clear S a; intro a S
  refine l_nil ?_
  refine e_then ?_
  refine c_cond (b := true) S rfl (fun _ => ?_) (fun h => by cases h)
  refine c_region ?_
  refine l_pure S (p_bld (ps := []) rfl (bld25_)) rfl rfl rfl ?_; clear S a; intro a S
  refine l_storeAll (vs := [.int .i64 0, .string ⟨#[]⟩, .int .i64 0, .int .u64 0, .float .f64 0, .bool false]) S H rfl rfl rfl sz25 .here rfl (fun v hv => by simp only [List.mem_cons, List.not_mem_nil, or_false] at hv; rcases hv with rfl | rfl | rfl | rfl | rfl | rfl <;> rfl) rfl rfl ?_; clear S a H; intro w a H S
  refine l_nil ?_
  refine e_then ?_
  refine wp_seq ?_
  refine c_region ?_
  refine l_read S H (r_loadn (m := 6) (vs := [.int .i64 0, .string ⟨#[]⟩, .int .i64 0, .int .u64 0, .float .f64 0, .bool false]) rfl List.mem_cons_self ag25 sz25 rfl rfl) rfl rfl rfl ?_; clear S a; intro a S
  refine l_mv 2 S rfl ?_; clear S a; intro a S
  refine l_storeAll (vs := [.int .i64 0, .string ⟨#[]⟩, .int .i64 0, .int .u64 0, .float .f64 0, .bool false]) S H rfl rfl rfl sz25 .here rfl (fun v hv => by simp only [List.mem_cons, List.not_mem_nil, or_false] at hv; rcases hv with rfl | rfl | rfl | rfl | rfl | rfl <;> rfl) rfl rfl ?_; clear S a H; intro w a H S
  refine l_mv 2 S rfl ?_; clear S a; intro a S
  refine l_nil ?_
  refine e_then ?_
  refine wp_ret ?_
  exact r_retctt S rfl rfl rfl rfl (lva (cs := [.int .i64 0, .string ⟨#[]⟩, .int .i64 0, .int .u64 0, .float .f64 0, .bool false]) ag25 sz25 rfl H List.mem_cons_self) ⟨by rw [he]; rfl, H.tail⟩
 ·
  rw [whl_pu hwr, fin3_2 (by exact he)] at S; dsimp only at S
  refine l_mv 7 S rfl ?_; clear S a; intro a S
  refine l_nil ?_
  refine e_then ?_
  refine c_region ?_
  refine l_mv 1 S rfl ?_; clear S a; intro a S
  refine l_pure S (p_conv rfl (fun w => cv_int (Tryz.underlying2) (Tryz.underlying22) (r := 0) (by decide))) rfl rfl rfl ?_; clear S a; intro a S
  refine l_pure S (p_fieldAddr rfl (fun w => fa25_3 w _ _)) rfl rfl rfl ?_; clear S a; intro a S
  refine l_store S H rfl rfl rfl .here (by first | decide | simp [Value.cells]) (fun w u hc hz => st1 sz22 rfl hc hz) rfl rfl ?_; clear S a H; intro w a H S
  refine l_nil ?_
  refine e_in 0 ?_
  refine e_then ?_
  refine wp_seq ?_
  refine wp_seq ?_
  refine c_region ?_
  refine l_mv 1 S rfl ?_; clear S a; intro a S
  refine l_pure S (p_not rfl) rfl rfl rfl ?_; clear S a; intro a S
  refine l_nil ?_
  refine e_then ?_
  refine c_cond (b := true) S rfl (fun _ => ?_) (fun h => by cases h)
  refine c_region ?_
  refine l_pure S (p_bld (ps := []) rfl (bld25_)) rfl rfl rfl ?_; clear S a; intro a S
  refine l_storeAll (vs := [.int .i64 0, .string ⟨#[]⟩, .int .i64 0, .int .u64 0, .float .f64 0, .bool false]) S H rfl rfl rfl sz25 .here rfl (fun v hv => by simp only [List.mem_cons, List.not_mem_nil, or_false] at hv; rcases hv with rfl | rfl | rfl | rfl | rfl | rfl <;> rfl) rfl rfl ?_; clear S a H; intro w a H S
  refine l_nil ?_
  refine e_then ?_
  refine wp_seq ?_
  refine c_region ?_
  refine l_read S H (r_loadn (m := 6) (vs := [.int .i64 0, .string ⟨#[]⟩, .int .i64 0, .int .u64 0, .float .f64 0, .bool false]) rfl List.mem_cons_self ag25 sz25 rfl rfl) rfl rfl rfl ?_; clear S a; intro a S
  refine l_mv 2 S rfl ?_; clear S a; intro a S
  refine l_storeAll (vs := [.int .i64 0, .string ⟨#[]⟩, .int .i64 0, .int .u64 0, .float .f64 0, .bool false]) S H rfl rfl rfl sz25 .here rfl (fun v hv => by simp only [List.mem_cons, List.not_mem_nil, or_false] at hv; rcases hv with rfl | rfl | rfl | rfl | rfl | rfl <;> rfl) rfl rfl ?_; clear S a H; intro w a H S
  refine l_mv 2 S rfl ?_; clear S a; intro a S
  refine l_nil ?_
  refine e_then ?_
  refine wp_ret ?_
  exact r_retctt S rfl rfl rfl rfl (lva (cs := [.int .i64 0, .string ⟨#[]⟩, .int .i64 0, .int .u64 0, .float .f64 0, .bool false]) ag25 sz25 rfl H List.mem_cons_self) ⟨by rw [he]; rfl, H.tail⟩
theorem sv4_ (wb w0 : World) (B : Nat) (L0 : List (Nat × Obj))  (hT : fz.PTab 13 B wb) (hW : PW 8 9 7 12 11 14 B wb) (hL : PL 14 B wb) (as_ ar ao ai : Addr) (hE : vr.EW B wb as_ ar ao ai) (s : ByteArray) (hs : s.size ≤ 1000000) (H : HH B wb w0 L0) : Calls Tryz.prog 5 #[.int .i64 4, .string s] w0 fun e w' => e = .returned (vi.ansP (okE (pr.pff s).2 && fl.fin (pr.pff s).1) (farE (pr.pff s).2) { k := 4, f := (pr.pff s).1 }) ∧ HH B wb w' L0 := by
 refine c_enter (args := [.int .i64 4, .string s]) (k := 82) Tryz.func5 rfl rfl rfl (fun a S => ?_)
 refine wp_seq ?_
 refine c_region ?_
 refine l_alloc (cs := #[.int .i64 0, .string ⟨#[]⟩, .int .i64 0, .int .u64 0, .float .f64 0, .bool false]) S H rfl (fun w => al zv25) rfl rfl rfl ?_; clear S a H; intro g1 w a H S
 refine l_mv 2 S rfl ?_; clear S a; intro a S
 refine l_nil ?_
 refine e_then ?_
 refine wp_seq ?_
 refine c_region ?_
 refine l_mv 1 S rfl ?_; clear S a; intro a S
 refine l_pure S (p_fieldAddr rfl (fun w => fa25_0 w _ _)) rfl rfl rfl ?_; clear S a; intro a S
 refine l_store S H rfl rfl rfl .here (by first | decide | simp [Value.cells]) (fun w u hc hz => st1 sz3 rfl hc hz) rfl rfl ?_; clear S a H; intro w a H S
 refine l_nil ?_
 refine e_then ?_
 refine wp_seq ?_
 refine c_region ?_
 refine l_mv 1 S rfl ?_; clear S a; intro a S
 refine l_nil ?_
 refine e_then ?_
 refine wp_seq ?_
 refine wp_seq ?_
 refine c_region ?_
 refine l_mv 1 S rfl ?_; clear S a; intro a S
 refine l_nil ?_
 refine e_then ?_
 refine wp_block ?_
 refine wp_seq ?_
 refine c_region ?_
 refine l_pure S (p_eql rfl rfl) rfl rfl rfl ?_; clear S a; intro a S
 refine l_mv 1 S rfl ?_; clear S a; intro a S
 refine l_nil ?_
 refine e_then ?_
 refine c_cond (b := false) S rfl (fun h => by cases h) (fun _ => ?_)
 refine wp_seq ?_
 refine c_region ?_
 refine l_pure S (p_eql rfl rfl) rfl rfl rfl ?_; clear S a; intro a S
 refine l_mv 1 S rfl ?_; clear S a; intro a S
 refine l_nil ?_
 refine e_then ?_
 refine c_cond (b := false) S rfl (fun h => by cases h) (fun _ => ?_)
 refine wp_seq ?_
 refine c_region ?_
 refine l_pure S (p_eql rfl rfl) rfl rfl rfl ?_; clear S a; intro a S
 refine l_mv 1 S rfl ?_; clear S a; intro a S
 refine l_nil ?_
 refine e_then ?_
 refine c_cond (b := false) S rfl (fun h => by cases h) (fun _ => ?_)
 refine wp_seq ?_
 refine c_region ?_
 refine l_pure S (p_eql rfl rfl) rfl rfl rfl ?_; clear S a; intro a S
 refine l_mv 1 S rfl ?_; clear S a; intro a S
 refine l_nil ?_
 refine e_then ?_
 refine c_cond (b := true) S rfl (fun _ => ?_) (fun h => by cases h)
 refine wp_seq ?_
 refine c_region ?_
 refine l_mv 1 S rfl ?_; clear S a; intro a S
 refine l_call S rfl rfl Tryz.func13 rfl rfl (er.pfl_ wb _ B _ hT hW hL _ _ (vn.evE hE) s hs H) rfl rfl rfl ?_
 rintro e w ⟨v1, L1, rfl, hH, hne, hpe⟩
 refine ⟨_, rfl, ?_⟩; clear S a; intro a S
 clear H; have H := hH; clear hH
 rcases hpe with he | he | he
 ·
  rw [he] at hne
  obtain ⟨rfl, rfl⟩ := hne
  rw [List.nil_append] at H
  refine l_mv 3 S rfl ?_; clear S a; intro a S
  refine l_pure S (p_fieldAddr rfl (fun w => fa25_4 w _ _)) rfl rfl rfl ?_; clear S a; intro a S
  refine l_store S H rfl rfl rfl .here (by first | decide | simp [Value.cells]) (fun w u hc hz => st1 sz23 rfl hc hz) rfl rfl ?_; clear S a H; intro w a H S
  refine l_mv 1 S rfl ?_; clear S a; intro a S
  refine l_nil ?_
  refine e_then ?_
  refine wp_seq ?_
  refine c_region ?_
  refine l_mv 1 S rfl ?_; clear S a; intro a S
  refine l_pure S (p_nilnilN mi35 rfl) rfl rfl rfl ?_; clear S a; intro a S
  refine l_mv 1 S rfl ?_; clear S a; intro a S
  refine l_off S rfl rfl rfl rfl rfl rfl rfl ?_; clear S a; intro a S
  refine l_off S rfl rfl rfl rfl rfl rfl rfl ?_; clear S a; intro a S
  refine l_pure S (p_pick_f rfl rfl rfl) rfl rfl rfl ?_; clear S a; intro a S
  refine l_mv 1 S rfl ?_; clear S a; intro a S
  refine l_nil ?_
  refine e_then ?_
  refine c_region ?_
  refine l_mv 1 S rfl ?_; clear S a; intro a S
  refine l_pure S (p_nilnil mi35 rfl) rfl rfl rfl ?_; clear S a; intro a S
  refine l_mv 1 S rfl ?_; clear S a; intro a S
  refine l_on S rfl rfl rfl rfl rfl ?_
  refine l_pure S (p_fieldAddr rfl (fun w => fa25_4 w _ _)) rfl rfl rfl ?_; clear S a; intro a S
  refine l_on S rfl rfl rfl rfl rfl ?_
  refine l_read S H (r_load rfl List.mem_cons_self rfl (fun w hc => ld1 ag23 hc)) rfl rfl rfl ?_; clear S a; intro a S
  refine l_on S rfl rfl rfl rfl rfl ?_
  refine l_pure S (p_fieldAddr rfl (fun w => fa25_4 w _ _)) rfl rfl rfl ?_; clear S a; intro a S
  refine l_on S rfl rfl rfl rfl rfl ?_
  refine l_read S H (r_load rfl List.mem_cons_self rfl (fun w hc => ld1 ag23 hc)) rfl rfl rfl ?_; clear S a; intro a S
  refine l_on S rfl rfl rfl rfl rfl ?_
  refine l_fsub S H rfl rfl rfl rfl rfl rfl ?_; clear S a H; intro r w a H hr S
  refine l_on S rfl rfl rfl rfl rfl ?_
  refine l_pure S (p_feql rfl rfl) rfl rfl rfl ?_; clear S a; intro a S
  refine l_pure S (p_pick_t rfl rfl rfl) rfl rfl rfl ?_; clear S a; intro a S
  refine l_mv 1 S rfl ?_; clear S a; intro a S
  refine l_nil ?_
  refine e_in 0 ?_
  refine e_then ?_
  refine wp_seq ?_
  refine wp_seq ?_
  refine c_region ?_
  refine l_mv 1 S rfl ?_; clear S a; intro a S
  refine l_pure S (p_not rfl) rfl rfl rfl ?_; clear S a; intro a S
  refine l_nil ?_
  refine e_then ?_
  refine c_cond S rfl (fun bc17 => ?_) (fun bc17 => ?_)
  ·
   have c17 := bc17
   replace c17 := not_eq_true_ c17
   refine c_region ?_
   refine l_pure S (p_bld (ps := []) rfl (bld25_)) rfl rfl rfl ?_; clear S a; intro a S
   refine l_storeAll (vs := [.int .i64 0, .string ⟨#[]⟩, .int .i64 0, .int .u64 0, .float .f64 0, .bool false]) S H rfl rfl rfl sz25 .here rfl (fun v hv => by simp only [List.mem_cons, List.not_mem_nil, or_false] at hv; rcases hv with rfl | rfl | rfl | rfl | rfl | rfl <;> rfl) rfl rfl ?_; clear S a H; intro w a H S
   refine l_nil ?_
   refine e_then ?_
   refine wp_seq ?_
   refine c_region ?_
   refine l_read S H (r_loadn (m := 6) (vs := [.int .i64 0, .string ⟨#[]⟩, .int .i64 0, .int .u64 0, .float .f64 0, .bool false]) rfl List.mem_cons_self ag25 sz25 rfl rfl) rfl rfl rfl ?_; clear S a; intro a S
   refine l_mv 2 S rfl ?_; clear S a; intro a S
   refine l_storeAll (vs := [.int .i64 0, .string ⟨#[]⟩, .int .i64 0, .int .u64 0, .float .f64 0, .bool false]) S H rfl rfl rfl sz25 .here rfl (fun v hv => by simp only [List.mem_cons, List.not_mem_nil, or_false] at hv; rcases hv with rfl | rfl | rfl | rfl | rfl | rfl <;> rfl) rfl rfl ?_; clear S a H; intro w a H S
   refine l_mv 2 S rfl ?_; clear S a; intro a S
   refine l_nil ?_
   refine e_then ?_
   refine wp_ret ?_
   have hfin : fl.fin (pr.pff s).1 = false := by rw [← hr]; simpa using bc17
   exact r_retctt S rfl rfl rfl rfl (lva (cs := [.int .i64 0, .string ⟨#[]⟩, .int .i64 0, .int .u64 0, .float .f64 0, .bool false]) ag25 sz25 rfl H List.mem_cons_self) ⟨by rw [he, hr, hfin]; rfl, H.tail⟩
  ·
   have c17 := bc17
   replace c17 := not_eq_false_ c17
   refine wp_skip ?_
   refine e_then ?_
   refine wp_seq ?_
   refine c_region ?_
   refine l_read S H (r_loadn (m := 6) (vs := [.int .i64 4, .string ⟨#[]⟩, .int .i64 0, .int .u64 0, .float .f64 (pr.pff s).1, .bool false]) rfl List.mem_cons_self ag25 sz25 rfl rfl) rfl rfl rfl ?_; clear S a; intro a S
   refine l_mv 2 S rfl ?_; clear S a; intro a S
   refine l_storeAll (vs := [.int .i64 4, .string ⟨#[]⟩, .int .i64 0, .int .u64 0, .float .f64 (pr.pff s).1, .bool false]) S H rfl rfl rfl sz25 .here rfl (fun v hv => by simp only [List.mem_cons, List.not_mem_nil, or_false] at hv; rcases hv with rfl | rfl | rfl | rfl | rfl | rfl <;> rfl) rfl rfl ?_; clear S a H; intro w a H S
   refine l_mv 2 S rfl ?_; clear S a; intro a S
   refine l_nil ?_
   refine e_then ?_
   refine wp_ret ?_
   have hfin : fl.fin (pr.pff s).1 = true := by rw [← hr]; simpa using bc17
   exact r_retctt S rfl rfl rfl rfl (lva (cs := [.int .i64 4, .string ⟨#[]⟩, .int .i64 0, .int .u64 0, .float .f64 (pr.pff s).1, .bool false]) ag25 sz25 rfl H List.mem_cons_self) ⟨by rw [he, hr, hfin]; rfl, H.tail⟩
 ·
  rw [he] at hne
  obtain ⟨n1, rfl, rfl⟩ := hne
  rw [List.singleton_append] at H
  refine l_mv 3 S rfl ?_; clear S a; intro a S
  refine l_pure S (p_fieldAddr rfl (fun w => fa25_4 w _ _)) rfl rfl rfl ?_; clear S a; intro a S
  refine l_store S H rfl rfl rfl (.there .here) (by first | decide | simp [Value.cells]) (fun w u hc hz => st1 sz23 rfl hc hz) rfl rfl ?_; clear S a H; intro w a H S
  refine l_mv 1 S rfl ?_; clear S a; intro a S
  refine l_nil ?_
  refine e_then ?_
  refine wp_seq ?_
  refine c_region ?_
  refine l_mv 1 S rfl ?_; clear S a; intro a S
  refine l_pure S (p_ifnilN mi35 rfl rfl) rfl rfl rfl ?_; clear S a; intro a S
  refine l_mv 1 S rfl ?_; clear S a; intro a S
  refine l_on S rfl rfl rfl rfl rfl ?_
  refine l_pure S (p_move rfl) rfl rfl rfl ?_; clear S a; intro a S
  refine l_on S rfl rfl rfl rfl rfl ?_
  have hcon := vr.bey_ wb _ B _ as_ ar ao ai hE (⟨#[80, 97, 114, 115, 101, 70, 108, 111, 97, 116]⟩ : ByteArray) s (some 1) (by simp) _ [_] ⟨n1, rfl, rfl⟩ H
  refine l_call S rfl rfl Tryz.func14 rfl rfl (hcon) rfl rfl rfl ?_
  rintro e w ⟨rfl, hH⟩
  refine ⟨_, rfl, ?_⟩; clear S a; intro a S
  clear H hcon; have H := hH; clear hH
  refine l_pure S (p_pick_t rfl rfl rfl) rfl rfl rfl ?_; clear S a; intro a S
  refine l_mv 1 S rfl ?_; clear S a; intro a S
  refine l_nil ?_
  refine e_then ?_
  refine c_region ?_
  refine l_mv 1 S rfl ?_; clear S a; intro a S
  refine l_pure S (p_ifnil mi35 rfl rfl) rfl rfl rfl ?_; clear S a; intro a S
  refine l_mv 1 S rfl ?_; clear S a; intro a S
  refine l_off S rfl rfl rfl rfl rfl rfl rfl ?_; clear S a; intro a S
  refine l_off S rfl rfl rfl rfl rfl rfl rfl ?_; clear S a; intro a S
  refine l_off S rfl rfl rfl rfl rfl rfl rfl ?_; clear S a; intro a S
  refine l_off S rfl rfl rfl rfl rfl rfl rfl ?_; clear S a; intro a S
  refine l_off S rfl rfl rfl rfl rfl rfl rfl ?_; clear S a; intro a S
  refine l_off S rfl rfl rfl rfl rfl rfl rfl ?_; clear S a; intro a S
  refine l_pure S (p_pick_f rfl rfl rfl) rfl rfl rfl ?_; clear S a; intro a S
  refine l_mv 1 S rfl ?_; clear S a; intro a S
  refine l_nil ?_
  refine e_in 0 ?_
  refine e_then ?_
  refine wp_seq ?_
  refine wp_seq ?_
  refine c_region ?_
  refine l_mv 1 S rfl ?_; clear S a; intro a S
  refine l_pure S (p_not rfl) rfl rfl rfl ?_; clear S a; intro a S
  refine l_nil ?_
  refine e_then ?_
  refine c_cond (b := true) S rfl (fun _ => ?_) (fun h => by cases h)
  refine c_region ?_
  refine l_pure S (p_bld (ps := []) rfl (bld25_)) rfl rfl rfl ?_; clear S a; intro a S
  refine l_storeAll (vs := [.int .i64 0, .string ⟨#[]⟩, .int .i64 0, .int .u64 0, .float .f64 0, .bool false]) S H rfl rfl rfl sz25 .here rfl (fun v hv => by simp only [List.mem_cons, List.not_mem_nil, or_false] at hv; rcases hv with rfl | rfl | rfl | rfl | rfl | rfl <;> rfl) rfl rfl ?_; clear S a H; intro w a H S
  refine l_nil ?_
  refine e_then ?_
  refine wp_seq ?_
  refine c_region ?_
  refine l_read S H (r_loadn (m := 6) (vs := [.int .i64 0, .string ⟨#[]⟩, .int .i64 0, .int .u64 0, .float .f64 0, .bool false]) rfl List.mem_cons_self ag25 sz25 rfl rfl) rfl rfl rfl ?_; clear S a; intro a S
  refine l_mv 2 S rfl ?_; clear S a; intro a S
  refine l_storeAll (vs := [.int .i64 0, .string ⟨#[]⟩, .int .i64 0, .int .u64 0, .float .f64 0, .bool false]) S H rfl rfl rfl sz25 .here rfl (fun v hv => by simp only [List.mem_cons, List.not_mem_nil, or_false] at hv; rcases hv with rfl | rfl | rfl | rfl | rfl | rfl <;> rfl) rfl rfl ?_; clear S a H; intro w a H S
  refine l_mv 2 S rfl ?_; clear S a; intro a S
  refine l_nil ?_
  refine e_then ?_
  refine wp_ret ?_
  exact r_retctt S rfl rfl rfl rfl (lva (cs := [.int .i64 0, .string ⟨#[]⟩, .int .i64 0, .int .u64 0, .float .f64 0, .bool false]) ag25 sz25 rfl H List.mem_cons_self) ⟨by rw [he]; rfl, H.tail⟩
 ·
  rw [he] at hne
  obtain ⟨n1, rfl, rfl⟩ := hne
  rw [List.singleton_append] at H
  refine l_mv 3 S rfl ?_; clear S a; intro a S
  refine l_pure S (p_fieldAddr rfl (fun w => fa25_4 w _ _)) rfl rfl rfl ?_; clear S a; intro a S
  refine l_store S H rfl rfl rfl (.there .here) (by first | decide | simp [Value.cells]) (fun w u hc hz => st1 sz23 rfl hc hz) rfl rfl ?_; clear S a H; intro w a H S
  refine l_mv 1 S rfl ?_; clear S a; intro a S
  refine l_nil ?_
  refine e_then ?_
  refine wp_seq ?_
  refine c_region ?_
  refine l_mv 1 S rfl ?_; clear S a; intro a S
  refine l_pure S (p_ifnilN mi35 rfl rfl) rfl rfl rfl ?_; clear S a; intro a S
  refine l_mv 1 S rfl ?_; clear S a; intro a S
  refine l_on S rfl rfl rfl rfl rfl ?_
  refine l_pure S (p_move rfl) rfl rfl rfl ?_; clear S a; intro a S
  refine l_on S rfl rfl rfl rfl rfl ?_
  have hcon := vr.bey_ wb _ B _ as_ ar ao ai hE (⟨#[80, 97, 114, 115, 101, 70, 108, 111, 97, 116]⟩ : ByteArray) s (some 2) (by simp) _ [_] ⟨n1, rfl, rfl⟩ H
  refine l_call S rfl rfl Tryz.func14 rfl rfl (hcon) rfl rfl rfl ?_
  rintro e w ⟨rfl, hH⟩
  refine ⟨_, rfl, ?_⟩; clear S a; intro a S
  clear H hcon; have H := hH; clear hH
  refine l_pure S (p_pick_t rfl rfl rfl) rfl rfl rfl ?_; clear S a; intro a S
  refine l_mv 1 S rfl ?_; clear S a; intro a S
  refine l_nil ?_
  refine e_then ?_
  refine c_region ?_
  refine l_mv 1 S rfl ?_; clear S a; intro a S
  refine l_pure S (p_ifnil mi35 rfl rfl) rfl rfl rfl ?_; clear S a; intro a S
  refine l_mv 1 S rfl ?_; clear S a; intro a S
  refine l_off S rfl rfl rfl rfl rfl rfl rfl ?_; clear S a; intro a S
  refine l_off S rfl rfl rfl rfl rfl rfl rfl ?_; clear S a; intro a S
  refine l_off S rfl rfl rfl rfl rfl rfl rfl ?_; clear S a; intro a S
  refine l_off S rfl rfl rfl rfl rfl rfl rfl ?_; clear S a; intro a S
  refine l_off S rfl rfl rfl rfl rfl rfl rfl ?_; clear S a; intro a S
  refine l_off S rfl rfl rfl rfl rfl rfl rfl ?_; clear S a; intro a S
  refine l_pure S (p_pick_f rfl rfl rfl) rfl rfl rfl ?_; clear S a; intro a S
  refine l_mv 1 S rfl ?_; clear S a; intro a S
  refine l_nil ?_
  refine e_in 0 ?_
  refine e_then ?_
  refine wp_seq ?_
  refine wp_seq ?_
  refine c_region ?_
  refine l_mv 1 S rfl ?_; clear S a; intro a S
  refine l_pure S (p_not rfl) rfl rfl rfl ?_; clear S a; intro a S
  refine l_nil ?_
  refine e_then ?_
  refine c_cond (b := true) S rfl (fun _ => ?_) (fun h => by cases h)
  refine c_region ?_
  refine l_pure S (p_bld (ps := []) rfl (bld25_)) rfl rfl rfl ?_; clear S a; intro a S
  refine l_storeAll (vs := [.int .i64 0, .string ⟨#[]⟩, .int .i64 0, .int .u64 0, .float .f64 0, .bool false]) S H rfl rfl rfl sz25 .here rfl (fun v hv => by simp only [List.mem_cons, List.not_mem_nil, or_false] at hv; rcases hv with rfl | rfl | rfl | rfl | rfl | rfl <;> rfl) rfl rfl ?_; clear S a H; intro w a H S
  refine l_nil ?_
  refine e_then ?_
  refine wp_seq ?_
  refine c_region ?_
  refine l_read S H (r_loadn (m := 6) (vs := [.int .i64 0, .string ⟨#[]⟩, .int .i64 0, .int .u64 0, .float .f64 0, .bool false]) rfl List.mem_cons_self ag25 sz25 rfl rfl) rfl rfl rfl ?_; clear S a; intro a S
  refine l_mv 2 S rfl ?_; clear S a; intro a S
  refine l_storeAll (vs := [.int .i64 0, .string ⟨#[]⟩, .int .i64 0, .int .u64 0, .float .f64 0, .bool false]) S H rfl rfl rfl sz25 .here rfl (fun v hv => by simp only [List.mem_cons, List.not_mem_nil, or_false] at hv; rcases hv with rfl | rfl | rfl | rfl | rfl | rfl <;> rfl) rfl rfl ?_; clear S a H; intro w a H S
  refine l_mv 2 S rfl ?_; clear S a; intro a S
  refine l_nil ?_
  refine e_then ?_
  refine wp_ret ?_
  exact r_retctt S rfl rfl rfl rfl (lva (cs := [.int .i64 0, .string ⟨#[]⟩, .int .i64 0, .int .u64 0, .float .f64 0, .bool false]) ag25 sz25 rfl H List.mem_cons_self) ⟨by rw [he]; rfl, H.tail⟩
theorem sv5_ (wb w0 : World) (B : Nat) (L0 : List (Nat × Obj))   (s : ByteArray) (hs : s.size ≤ 1000000) (H : HH B wb w0 L0) : Calls Tryz.prog 5 #[.int .i64 5, .string s] w0 fun e w' => e = .returned (vi.ansP (inW s tTrue || inW s tFalse) false { k := 5, b := inW s tTrue }) ∧ HH B wb w' L0 := by
 refine c_enter (args := [.int .i64 5, .string s]) (k := 82) Tryz.func5 rfl rfl rfl (fun a S => ?_)
 refine wp_seq ?_
 refine c_region ?_
 refine l_alloc (cs := #[.int .i64 0, .string ⟨#[]⟩, .int .i64 0, .int .u64 0, .float .f64 0, .bool false]) S H rfl (fun w => al zv25) rfl rfl rfl ?_; clear S a H; intro g1 w a H S
 refine l_mv 2 S rfl ?_; clear S a; intro a S
 refine l_nil ?_
 refine e_then ?_
 refine wp_seq ?_
 refine c_region ?_
 refine l_mv 1 S rfl ?_; clear S a; intro a S
 refine l_pure S (p_fieldAddr rfl (fun w => fa25_0 w _ _)) rfl rfl rfl ?_; clear S a; intro a S
 refine l_store S H rfl rfl rfl .here (by first | decide | simp [Value.cells]) (fun w u hc hz => st1 sz3 rfl hc hz) rfl rfl ?_; clear S a H; intro w a H S
 refine l_nil ?_
 refine e_then ?_
 refine wp_seq ?_
 refine c_region ?_
 refine l_mv 1 S rfl ?_; clear S a; intro a S
 refine l_nil ?_
 refine e_then ?_
 refine wp_seq ?_
 refine wp_seq ?_
 refine c_region ?_
 refine l_mv 1 S rfl ?_; clear S a; intro a S
 refine l_nil ?_
 refine e_then ?_
 refine wp_block ?_
 refine wp_seq ?_
 refine c_region ?_
 refine l_pure S (p_eql rfl rfl) rfl rfl rfl ?_; clear S a; intro a S
 refine l_mv 1 S rfl ?_; clear S a; intro a S
 refine l_nil ?_
 refine e_then ?_
 refine c_cond (b := false) S rfl (fun h => by cases h) (fun _ => ?_)
 refine wp_seq ?_
 refine c_region ?_
 refine l_pure S (p_eql rfl rfl) rfl rfl rfl ?_; clear S a; intro a S
 refine l_mv 1 S rfl ?_; clear S a; intro a S
 refine l_nil ?_
 refine e_then ?_
 refine c_cond (b := false) S rfl (fun h => by cases h) (fun _ => ?_)
 refine wp_seq ?_
 refine c_region ?_
 refine l_pure S (p_eql rfl rfl) rfl rfl rfl ?_; clear S a; intro a S
 refine l_mv 1 S rfl ?_; clear S a; intro a S
 refine l_nil ?_
 refine e_then ?_
 refine c_cond (b := false) S rfl (fun h => by cases h) (fun _ => ?_)
 refine wp_seq ?_
 refine c_region ?_
 refine l_pure S (p_eql rfl rfl) rfl rfl rfl ?_; clear S a; intro a S
 refine l_mv 1 S rfl ?_; clear S a; intro a S
 refine l_nil ?_
 refine e_then ?_
 refine c_cond (b := false) S rfl (fun h => by cases h) (fun _ => ?_)
 refine wp_seq ?_
 refine c_region ?_
 refine l_pure S (p_eql rfl rfl) rfl rfl rfl ?_; clear S a; intro a S
 refine l_mv 1 S rfl ?_; clear S a; intro a S
 refine l_nil ?_
 refine e_then ?_
 refine c_cond (b := true) S rfl (fun _ => ?_) (fun h => by cases h)
 refine wp_seq ?_
 refine c_region ?_
 refine l_mv 1 S rfl ?_; clear S a; intro a S
 refine l_nil ?_
 refine e_then ?_
 refine wp_block ?_
 refine wp_seq ?_
 refine wp_seq ?_
 refine c_region ?_
 refine l_pure S (p_seql rfl rfl) rfl rfl rfl ?_; clear S a; intro a S
 refine l_mv 1 S rfl ?_; clear S a; intro a S
 refine l_nil ?_
 refine e_then ?_
 refine c_cond S rfl (fun bc15 => ?_) (fun bc15 => ?_)
 ·
  have c15 := bc15
  refine wp_skip ?_
  refine e_then ?_
  refine c_cond S rfl (fun _ => ?_) (fun h => by rw [bc15] at h; cases h)
  refine c_region ?_
  refine l_pure S (p_fieldAddr rfl (fun w => fa25_5 w _ _)) rfl rfl rfl ?_; clear S a; intro a S
  refine l_store S H rfl rfl rfl .here (by first | decide | simp [Value.cells]) (fun w u hc hz => st1 sz4 rfl hc hz) rfl rfl ?_; clear S a H; intro w a H S
  refine l_mv 1 S rfl ?_; clear S a; intro a S
  refine l_nil ?_
  refine e_in 1 ?_
  refine e_in 0 ?_
  refine e_then ?_
  refine wp_seq ?_
  refine wp_seq ?_
  refine c_region ?_
  refine l_mv 1 S rfl ?_; clear S a; intro a S
  refine l_pure S (p_not rfl) rfl rfl rfl ?_; clear S a; intro a S
  refine l_nil ?_
  refine e_then ?_
  refine c_cond (b := false) S rfl (fun h => by cases h) (fun _ => ?_)
  refine wp_skip ?_
  refine e_then ?_
  refine wp_seq ?_
  refine c_region ?_
  refine l_read S H (r_loadn (m := 6) (vs := [.int .i64 5, .string ⟨#[]⟩, .int .i64 0, .int .u64 0, .float .f64 0, .bool true]) rfl List.mem_cons_self ag25 sz25 rfl rfl) rfl rfl rfl ?_; clear S a; intro a S
  refine l_mv 2 S rfl ?_; clear S a; intro a S
  refine l_storeAll (vs := [.int .i64 5, .string ⟨#[]⟩, .int .i64 0, .int .u64 0, .float .f64 0, .bool true]) S H rfl rfl rfl sz25 .here rfl (fun v hv => by simp only [List.mem_cons, List.not_mem_nil, or_false] at hv; rcases hv with rfl | rfl | rfl | rfl | rfl | rfl <;> rfl) rfl rfl ?_; clear S a H; intro w a H S
  refine l_mv 2 S rfl ?_; clear S a; intro a S
  refine l_nil ?_
  refine e_then ?_
  refine wp_ret ?_
  exact r_retctt S rfl rfl rfl rfl (lva (cs := [.int .i64 5, .string ⟨#[]⟩, .int .i64 0, .int .u64 0, .float .f64 0, .bool true]) ag25 sz25 rfl H List.mem_cons_self) ⟨by simp only [inW, tTrue, tFalse, List.any_cons, List.any_nil, bc15, Bool.or_false, Bool.false_or, Bool.or_true, Bool.true_or, Bool.not_true, Bool.not_false]; rfl, H.tail⟩
 ·
  have c15 := bc15
  refine wp_seq ?_
  refine c_region ?_
  refine l_pure S (p_seql rfl rfl) rfl rfl rfl ?_; clear S a; intro a S
  refine l_mv 1 S rfl ?_; clear S a; intro a S
  refine l_nil ?_
  refine e_then ?_
  refine c_cond S rfl (fun bc21 => ?_) (fun bc21 => ?_)
  ·
   have c21 := bc21
   refine wp_skip ?_
   refine e_then ?_
   refine c_cond S rfl (fun _ => ?_) (fun h => by rw [bc21] at h; cases h)
   refine c_region ?_
   refine l_pure S (p_fieldAddr rfl (fun w => fa25_5 w _ _)) rfl rfl rfl ?_; clear S a; intro a S
   refine l_store S H rfl rfl rfl .here (by first | decide | simp [Value.cells]) (fun w u hc hz => st1 sz4 rfl hc hz) rfl rfl ?_; clear S a H; intro w a H S
   refine l_mv 1 S rfl ?_; clear S a; intro a S
   refine l_nil ?_
   refine e_in 1 ?_
   refine e_in 0 ?_
   refine e_then ?_
   refine wp_seq ?_
   refine wp_seq ?_
   refine c_region ?_
   refine l_mv 1 S rfl ?_; clear S a; intro a S
   refine l_pure S (p_not rfl) rfl rfl rfl ?_; clear S a; intro a S
   refine l_nil ?_
   refine e_then ?_
   refine c_cond (b := false) S rfl (fun h => by cases h) (fun _ => ?_)
   refine wp_skip ?_
   refine e_then ?_
   refine wp_seq ?_
   refine c_region ?_
   refine l_read S H (r_loadn (m := 6) (vs := [.int .i64 5, .string ⟨#[]⟩, .int .i64 0, .int .u64 0, .float .f64 0, .bool true]) rfl List.mem_cons_self ag25 sz25 rfl rfl) rfl rfl rfl ?_; clear S a; intro a S
   refine l_mv 2 S rfl ?_; clear S a; intro a S
   refine l_storeAll (vs := [.int .i64 5, .string ⟨#[]⟩, .int .i64 0, .int .u64 0, .float .f64 0, .bool true]) S H rfl rfl rfl sz25 .here rfl (fun v hv => by simp only [List.mem_cons, List.not_mem_nil, or_false] at hv; rcases hv with rfl | rfl | rfl | rfl | rfl | rfl <;> rfl) rfl rfl ?_; clear S a H; intro w a H S
   refine l_mv 2 S rfl ?_; clear S a; intro a S
   refine l_nil ?_
   refine e_then ?_
   refine wp_ret ?_
   exact r_retctt S rfl rfl rfl rfl (lva (cs := [.int .i64 5, .string ⟨#[]⟩, .int .i64 0, .int .u64 0, .float .f64 0, .bool true]) ag25 sz25 rfl H List.mem_cons_self) ⟨by simp only [inW, tTrue, tFalse, List.any_cons, List.any_nil, bc15, bc21, Bool.or_false, Bool.false_or, Bool.or_true, Bool.true_or, Bool.not_true, Bool.not_false]; rfl, H.tail⟩
  ·
   have c21 := bc21
   refine wp_seq ?_
   refine c_region ?_
   refine l_pure S (p_seql rfl rfl) rfl rfl rfl ?_; clear S a; intro a S
   refine l_mv 1 S rfl ?_; clear S a; intro a S
   refine l_nil ?_
   refine e_then ?_
   refine c_cond S rfl (fun bc27 => ?_) (fun bc27 => ?_)
   ·
    have c27 := bc27
    refine wp_skip ?_
    refine e_then ?_
    refine c_cond S rfl (fun _ => ?_) (fun h => by rw [bc27] at h; cases h)
    refine c_region ?_
    refine l_pure S (p_fieldAddr rfl (fun w => fa25_5 w _ _)) rfl rfl rfl ?_; clear S a; intro a S
    refine l_store S H rfl rfl rfl .here (by first | decide | simp [Value.cells]) (fun w u hc hz => st1 sz4 rfl hc hz) rfl rfl ?_; clear S a H; intro w a H S
    refine l_mv 1 S rfl ?_; clear S a; intro a S
    refine l_nil ?_
    refine e_in 1 ?_
    refine e_in 0 ?_
    refine e_then ?_
    refine wp_seq ?_
    refine wp_seq ?_
    refine c_region ?_
    refine l_mv 1 S rfl ?_; clear S a; intro a S
    refine l_pure S (p_not rfl) rfl rfl rfl ?_; clear S a; intro a S
    refine l_nil ?_
    refine e_then ?_
    refine c_cond (b := false) S rfl (fun h => by cases h) (fun _ => ?_)
    refine wp_skip ?_
    refine e_then ?_
    refine wp_seq ?_
    refine c_region ?_
    refine l_read S H (r_loadn (m := 6) (vs := [.int .i64 5, .string ⟨#[]⟩, .int .i64 0, .int .u64 0, .float .f64 0, .bool true]) rfl List.mem_cons_self ag25 sz25 rfl rfl) rfl rfl rfl ?_; clear S a; intro a S
    refine l_mv 2 S rfl ?_; clear S a; intro a S
    refine l_storeAll (vs := [.int .i64 5, .string ⟨#[]⟩, .int .i64 0, .int .u64 0, .float .f64 0, .bool true]) S H rfl rfl rfl sz25 .here rfl (fun v hv => by simp only [List.mem_cons, List.not_mem_nil, or_false] at hv; rcases hv with rfl | rfl | rfl | rfl | rfl | rfl <;> rfl) rfl rfl ?_; clear S a H; intro w a H S
    refine l_mv 2 S rfl ?_; clear S a; intro a S
    refine l_nil ?_
    refine e_then ?_
    refine wp_ret ?_
    exact r_retctt S rfl rfl rfl rfl (lva (cs := [.int .i64 5, .string ⟨#[]⟩, .int .i64 0, .int .u64 0, .float .f64 0, .bool true]) ag25 sz25 rfl H List.mem_cons_self) ⟨by simp only [inW, tTrue, tFalse, List.any_cons, List.any_nil, bc15, bc21, bc27, Bool.or_false, Bool.false_or, Bool.or_true, Bool.true_or, Bool.not_true, Bool.not_false]; rfl, H.tail⟩
   ·
    have c27 := bc27
    refine wp_seq ?_
    refine c_region ?_
    refine l_pure S (p_seql rfl rfl) rfl rfl rfl ?_; clear S a; intro a S
    refine l_mv 1 S rfl ?_; clear S a; intro a S
    refine l_nil ?_
    refine e_then ?_
    refine c_cond S rfl (fun bc33 => ?_) (fun bc33 => ?_)
    ·
     have c33 := bc33
     refine wp_skip ?_
     refine e_then ?_
     refine c_cond S rfl (fun _ => ?_) (fun h => by rw [bc33] at h; cases h)
     refine c_region ?_
     refine l_pure S (p_fieldAddr rfl (fun w => fa25_5 w _ _)) rfl rfl rfl ?_; clear S a; intro a S
     refine l_store S H rfl rfl rfl .here (by first | decide | simp [Value.cells]) (fun w u hc hz => st1 sz4 rfl hc hz) rfl rfl ?_; clear S a H; intro w a H S
     refine l_mv 1 S rfl ?_; clear S a; intro a S
     refine l_nil ?_
     refine e_in 1 ?_
     refine e_in 0 ?_
     refine e_then ?_
     refine wp_seq ?_
     refine wp_seq ?_
     refine c_region ?_
     refine l_mv 1 S rfl ?_; clear S a; intro a S
     refine l_pure S (p_not rfl) rfl rfl rfl ?_; clear S a; intro a S
     refine l_nil ?_
     refine e_then ?_
     refine c_cond (b := false) S rfl (fun h => by cases h) (fun _ => ?_)
     refine wp_skip ?_
     refine e_then ?_
     refine wp_seq ?_
     refine c_region ?_
     refine l_read S H (r_loadn (m := 6) (vs := [.int .i64 5, .string ⟨#[]⟩, .int .i64 0, .int .u64 0, .float .f64 0, .bool true]) rfl List.mem_cons_self ag25 sz25 rfl rfl) rfl rfl rfl ?_; clear S a; intro a S
     refine l_mv 2 S rfl ?_; clear S a; intro a S
     refine l_storeAll (vs := [.int .i64 5, .string ⟨#[]⟩, .int .i64 0, .int .u64 0, .float .f64 0, .bool true]) S H rfl rfl rfl sz25 .here rfl (fun v hv => by simp only [List.mem_cons, List.not_mem_nil, or_false] at hv; rcases hv with rfl | rfl | rfl | rfl | rfl | rfl <;> rfl) rfl rfl ?_; clear S a H; intro w a H S
     refine l_mv 2 S rfl ?_; clear S a; intro a S
     refine l_nil ?_
     refine e_then ?_
     refine wp_ret ?_
     exact r_retctt S rfl rfl rfl rfl (lva (cs := [.int .i64 5, .string ⟨#[]⟩, .int .i64 0, .int .u64 0, .float .f64 0, .bool true]) ag25 sz25 rfl H List.mem_cons_self) ⟨by simp only [inW, tTrue, tFalse, List.any_cons, List.any_nil, bc15, bc21, bc27, bc33, Bool.or_false, Bool.false_or, Bool.or_true, Bool.true_or, Bool.not_true, Bool.not_false]; rfl, H.tail⟩
    ·
     have c33 := bc33
     refine c_region ?_
     refine l_pure S (p_seql rfl rfl) rfl rfl rfl ?_; clear S a; intro a S
     refine l_mv 1 S rfl ?_; clear S a; intro a S
     refine l_nil ?_
     refine e_then ?_
     refine c_cond S rfl (fun bc39 => ?_) (fun bc39 => ?_)
     ·
      have c39 := bc39
      refine c_region ?_
      refine l_pure S (p_fieldAddr rfl (fun w => fa25_5 w _ _)) rfl rfl rfl ?_; clear S a; intro a S
      refine l_store S H rfl rfl rfl .here (by first | decide | simp [Value.cells]) (fun w u hc hz => st1 sz4 rfl hc hz) rfl rfl ?_; clear S a H; intro w a H S
      refine l_mv 1 S rfl ?_; clear S a; intro a S
      refine l_nil ?_
      refine e_in 1 ?_
      refine e_in 0 ?_
      refine e_then ?_
      refine wp_seq ?_
      refine wp_seq ?_
      refine c_region ?_
      refine l_mv 1 S rfl ?_; clear S a; intro a S
      refine l_pure S (p_not rfl) rfl rfl rfl ?_; clear S a; intro a S
      refine l_nil ?_
      refine e_then ?_
      refine c_cond (b := false) S rfl (fun h => by cases h) (fun _ => ?_)
      refine wp_skip ?_
      refine e_then ?_
      refine wp_seq ?_
      refine c_region ?_
      refine l_read S H (r_loadn (m := 6) (vs := [.int .i64 5, .string ⟨#[]⟩, .int .i64 0, .int .u64 0, .float .f64 0, .bool true]) rfl List.mem_cons_self ag25 sz25 rfl rfl) rfl rfl rfl ?_; clear S a; intro a S
      refine l_mv 2 S rfl ?_; clear S a; intro a S
      refine l_storeAll (vs := [.int .i64 5, .string ⟨#[]⟩, .int .i64 0, .int .u64 0, .float .f64 0, .bool true]) S H rfl rfl rfl sz25 .here rfl (fun v hv => by simp only [List.mem_cons, List.not_mem_nil, or_false] at hv; rcases hv with rfl | rfl | rfl | rfl | rfl | rfl <;> rfl) rfl rfl ?_; clear S a H; intro w a H S
      refine l_mv 2 S rfl ?_; clear S a; intro a S
      refine l_nil ?_
      refine e_then ?_
      refine wp_ret ?_
      exact r_retctt S rfl rfl rfl rfl (lva (cs := [.int .i64 5, .string ⟨#[]⟩, .int .i64 0, .int .u64 0, .float .f64 0, .bool true]) ag25 sz25 rfl H List.mem_cons_self) ⟨by simp only [inW, tTrue, tFalse, List.any_cons, List.any_nil, bc15, bc21, bc27, bc33, bc39, Bool.or_false, Bool.false_or, Bool.or_true, Bool.true_or, Bool.not_true, Bool.not_false]; rfl, H.tail⟩
     ·
      have c39 := bc39
      refine wp_seq ?_
      refine wp_seq ?_
      refine c_region ?_
      refine l_pure S (p_seql rfl rfl) rfl rfl rfl ?_; clear S a; intro a S
      refine l_mv 1 S rfl ?_; clear S a; intro a S
      refine l_nil ?_
      refine e_then ?_
      refine c_cond S rfl (fun bc44 => ?_) (fun bc44 => ?_)
      ·
       have c44 := bc44
       refine wp_skip ?_
       refine e_then ?_
       refine c_cond S rfl (fun _ => ?_) (fun h => by rw [bc44] at h; cases h)
       refine c_region ?_
       refine l_mv 1 S rfl ?_; clear S a; intro a S
       refine l_nil ?_
       refine e_in 1 ?_
       refine e_in 0 ?_
       refine e_then ?_
       refine wp_seq ?_
       refine wp_seq ?_
       refine c_region ?_
       refine l_mv 1 S rfl ?_; clear S a; intro a S
       refine l_pure S (p_not rfl) rfl rfl rfl ?_; clear S a; intro a S
       refine l_nil ?_
       refine e_then ?_
       refine c_cond (b := false) S rfl (fun h => by cases h) (fun _ => ?_)
       refine wp_skip ?_
       refine e_then ?_
       refine wp_seq ?_
       refine c_region ?_
       refine l_read S H (r_loadn (m := 6) (vs := [.int .i64 5, .string ⟨#[]⟩, .int .i64 0, .int .u64 0, .float .f64 0, .bool false]) rfl List.mem_cons_self ag25 sz25 rfl rfl) rfl rfl rfl ?_; clear S a; intro a S
       refine l_mv 2 S rfl ?_; clear S a; intro a S
       refine l_storeAll (vs := [.int .i64 5, .string ⟨#[]⟩, .int .i64 0, .int .u64 0, .float .f64 0, .bool false]) S H rfl rfl rfl sz25 .here rfl (fun v hv => by simp only [List.mem_cons, List.not_mem_nil, or_false] at hv; rcases hv with rfl | rfl | rfl | rfl | rfl | rfl <;> rfl) rfl rfl ?_; clear S a H; intro w a H S
       refine l_mv 2 S rfl ?_; clear S a; intro a S
       refine l_nil ?_
       refine e_then ?_
       refine wp_ret ?_
       exact r_retctt S rfl rfl rfl rfl (lva (cs := [.int .i64 5, .string ⟨#[]⟩, .int .i64 0, .int .u64 0, .float .f64 0, .bool false]) ag25 sz25 rfl H List.mem_cons_self) ⟨by simp only [inW, tTrue, tFalse, List.any_cons, List.any_nil, bc15, bc21, bc27, bc33, bc39, bc44, Bool.or_false, Bool.false_or, Bool.or_true, Bool.true_or, Bool.not_true, Bool.not_false]; rfl, H.tail⟩
      ·
       have c44 := bc44
       refine wp_seq ?_
       refine c_region ?_
       refine l_pure S (p_seql rfl rfl) rfl rfl rfl ?_; clear S a; intro a S
       refine l_mv 1 S rfl ?_; clear S a; intro a S
       refine l_nil ?_
       refine e_then ?_
       refine c_cond S rfl (fun bc50 => ?_) (fun bc50 => ?_)
       ·
        have c50 := bc50
        refine wp_skip ?_
        refine e_then ?_
        refine c_cond S rfl (fun _ => ?_) (fun h => by rw [bc50] at h; cases h)
        refine c_region ?_
        refine l_mv 1 S rfl ?_; clear S a; intro a S
        refine l_nil ?_
        refine e_in 1 ?_
        refine e_in 0 ?_
        refine e_then ?_
        refine wp_seq ?_
        refine wp_seq ?_
        refine c_region ?_
        refine l_mv 1 S rfl ?_; clear S a; intro a S
        refine l_pure S (p_not rfl) rfl rfl rfl ?_; clear S a; intro a S
        refine l_nil ?_
        refine e_then ?_
        refine c_cond (b := false) S rfl (fun h => by cases h) (fun _ => ?_)
        refine wp_skip ?_
        refine e_then ?_
        refine wp_seq ?_
        refine c_region ?_
        refine l_read S H (r_loadn (m := 6) (vs := [.int .i64 5, .string ⟨#[]⟩, .int .i64 0, .int .u64 0, .float .f64 0, .bool false]) rfl List.mem_cons_self ag25 sz25 rfl rfl) rfl rfl rfl ?_; clear S a; intro a S
        refine l_mv 2 S rfl ?_; clear S a; intro a S
        refine l_storeAll (vs := [.int .i64 5, .string ⟨#[]⟩, .int .i64 0, .int .u64 0, .float .f64 0, .bool false]) S H rfl rfl rfl sz25 .here rfl (fun v hv => by simp only [List.mem_cons, List.not_mem_nil, or_false] at hv; rcases hv with rfl | rfl | rfl | rfl | rfl | rfl <;> rfl) rfl rfl ?_; clear S a H; intro w a H S
        refine l_mv 2 S rfl ?_; clear S a; intro a S
        refine l_nil ?_
        refine e_then ?_
        refine wp_ret ?_
        exact r_retctt S rfl rfl rfl rfl (lva (cs := [.int .i64 5, .string ⟨#[]⟩, .int .i64 0, .int .u64 0, .float .f64 0, .bool false]) ag25 sz25 rfl H List.mem_cons_self) ⟨by simp only [inW, tTrue, tFalse, List.any_cons, List.any_nil, bc15, bc21, bc27, bc33, bc39, bc44, bc50, Bool.or_false, Bool.false_or, Bool.or_true, Bool.true_or, Bool.not_true, Bool.not_false]; rfl, H.tail⟩
       ·
        have c50 := bc50
        refine wp_seq ?_
        refine c_region ?_
        refine l_pure S (p_seql rfl rfl) rfl rfl rfl ?_; clear S a; intro a S
        refine l_mv 1 S rfl ?_; clear S a; intro a S
        refine l_nil ?_
        refine e_then ?_
        refine c_cond S rfl (fun bc56 => ?_) (fun bc56 => ?_)
        ·
         have c56 := bc56
         refine wp_skip ?_
         refine e_then ?_
         refine c_cond S rfl (fun _ => ?_) (fun h => by rw [bc56] at h; cases h)
         refine c_region ?_
         refine l_mv 1 S rfl ?_; clear S a; intro a S
         refine l_nil ?_
         refine e_in 1 ?_
         refine e_in 0 ?_
         refine e_then ?_
         refine wp_seq ?_
         refine wp_seq ?_
         refine c_region ?_
         refine l_mv 1 S rfl ?_; clear S a; intro a S
         refine l_pure S (p_not rfl) rfl rfl rfl ?_; clear S a; intro a S
         refine l_nil ?_
         refine e_then ?_
         refine c_cond (b := false) S rfl (fun h => by cases h) (fun _ => ?_)
         refine wp_skip ?_
         refine e_then ?_
         refine wp_seq ?_
         refine c_region ?_
         refine l_read S H (r_loadn (m := 6) (vs := [.int .i64 5, .string ⟨#[]⟩, .int .i64 0, .int .u64 0, .float .f64 0, .bool false]) rfl List.mem_cons_self ag25 sz25 rfl rfl) rfl rfl rfl ?_; clear S a; intro a S
         refine l_mv 2 S rfl ?_; clear S a; intro a S
         refine l_storeAll (vs := [.int .i64 5, .string ⟨#[]⟩, .int .i64 0, .int .u64 0, .float .f64 0, .bool false]) S H rfl rfl rfl sz25 .here rfl (fun v hv => by simp only [List.mem_cons, List.not_mem_nil, or_false] at hv; rcases hv with rfl | rfl | rfl | rfl | rfl | rfl <;> rfl) rfl rfl ?_; clear S a H; intro w a H S
         refine l_mv 2 S rfl ?_; clear S a; intro a S
         refine l_nil ?_
         refine e_then ?_
         refine wp_ret ?_
         exact r_retctt S rfl rfl rfl rfl (lva (cs := [.int .i64 5, .string ⟨#[]⟩, .int .i64 0, .int .u64 0, .float .f64 0, .bool false]) ag25 sz25 rfl H List.mem_cons_self) ⟨by simp only [inW, tTrue, tFalse, List.any_cons, List.any_nil, bc15, bc21, bc27, bc33, bc39, bc44, bc50, bc56, Bool.or_false, Bool.false_or, Bool.or_true, Bool.true_or, Bool.not_true, Bool.not_false]; rfl, H.tail⟩
        ·
         have c56 := bc56
         refine wp_seq ?_
         refine c_region ?_
         refine l_pure S (p_seql rfl rfl) rfl rfl rfl ?_; clear S a; intro a S
         refine l_mv 1 S rfl ?_; clear S a; intro a S
         refine l_nil ?_
         refine e_then ?_
         refine c_cond S rfl (fun bc62 => ?_) (fun bc62 => ?_)
         ·
          have c62 := bc62
          refine wp_skip ?_
          refine e_then ?_
          refine c_cond S rfl (fun _ => ?_) (fun h => by rw [bc62] at h; cases h)
          refine c_region ?_
          refine l_mv 1 S rfl ?_; clear S a; intro a S
          refine l_nil ?_
          refine e_in 1 ?_
          refine e_in 0 ?_
          refine e_then ?_
          refine wp_seq ?_
          refine wp_seq ?_
          refine c_region ?_
          refine l_mv 1 S rfl ?_; clear S a; intro a S
          refine l_pure S (p_not rfl) rfl rfl rfl ?_; clear S a; intro a S
          refine l_nil ?_
          refine e_then ?_
          refine c_cond (b := false) S rfl (fun h => by cases h) (fun _ => ?_)
          refine wp_skip ?_
          refine e_then ?_
          refine wp_seq ?_
          refine c_region ?_
          refine l_read S H (r_loadn (m := 6) (vs := [.int .i64 5, .string ⟨#[]⟩, .int .i64 0, .int .u64 0, .float .f64 0, .bool false]) rfl List.mem_cons_self ag25 sz25 rfl rfl) rfl rfl rfl ?_; clear S a; intro a S
          refine l_mv 2 S rfl ?_; clear S a; intro a S
          refine l_storeAll (vs := [.int .i64 5, .string ⟨#[]⟩, .int .i64 0, .int .u64 0, .float .f64 0, .bool false]) S H rfl rfl rfl sz25 .here rfl (fun v hv => by simp only [List.mem_cons, List.not_mem_nil, or_false] at hv; rcases hv with rfl | rfl | rfl | rfl | rfl | rfl <;> rfl) rfl rfl ?_; clear S a H; intro w a H S
          refine l_mv 2 S rfl ?_; clear S a; intro a S
          refine l_nil ?_
          refine e_then ?_
          refine wp_ret ?_
          exact r_retctt S rfl rfl rfl rfl (lva (cs := [.int .i64 5, .string ⟨#[]⟩, .int .i64 0, .int .u64 0, .float .f64 0, .bool false]) ag25 sz25 rfl H List.mem_cons_self) ⟨by simp only [inW, tTrue, tFalse, List.any_cons, List.any_nil, bc15, bc21, bc27, bc33, bc39, bc44, bc50, bc56, bc62, Bool.or_false, Bool.false_or, Bool.or_true, Bool.true_or, Bool.not_true, Bool.not_false]; rfl, H.tail⟩
         ·
          have c62 := bc62
          refine c_region ?_
          refine l_pure S (p_seql rfl rfl) rfl rfl rfl ?_; clear S a; intro a S
          refine l_mv 1 S rfl ?_; clear S a; intro a S
          refine l_nil ?_
          refine e_then ?_
          refine c_cond S rfl (fun bc68 => ?_) (fun bc68 => ?_)
          ·
           have c68 := bc68
           refine c_region ?_
           refine l_mv 1 S rfl ?_; clear S a; intro a S
           refine l_nil ?_
           refine e_in 1 ?_
           refine e_in 0 ?_
           refine e_then ?_
           refine wp_seq ?_
           refine wp_seq ?_
           refine c_region ?_
           refine l_mv 1 S rfl ?_; clear S a; intro a S
           refine l_pure S (p_not rfl) rfl rfl rfl ?_; clear S a; intro a S
           refine l_nil ?_
           refine e_then ?_
           refine c_cond (b := false) S rfl (fun h => by cases h) (fun _ => ?_)
           refine wp_skip ?_
           refine e_then ?_
           refine wp_seq ?_
           refine c_region ?_
           refine l_read S H (r_loadn (m := 6) (vs := [.int .i64 5, .string ⟨#[]⟩, .int .i64 0, .int .u64 0, .float .f64 0, .bool false]) rfl List.mem_cons_self ag25 sz25 rfl rfl) rfl rfl rfl ?_; clear S a; intro a S
           refine l_mv 2 S rfl ?_; clear S a; intro a S
           refine l_storeAll (vs := [.int .i64 5, .string ⟨#[]⟩, .int .i64 0, .int .u64 0, .float .f64 0, .bool false]) S H rfl rfl rfl sz25 .here rfl (fun v hv => by simp only [List.mem_cons, List.not_mem_nil, or_false] at hv; rcases hv with rfl | rfl | rfl | rfl | rfl | rfl <;> rfl) rfl rfl ?_; clear S a H; intro w a H S
           refine l_mv 2 S rfl ?_; clear S a; intro a S
           refine l_nil ?_
           refine e_then ?_
           refine wp_ret ?_
           exact r_retctt S rfl rfl rfl rfl (lva (cs := [.int .i64 5, .string ⟨#[]⟩, .int .i64 0, .int .u64 0, .float .f64 0, .bool false]) ag25 sz25 rfl H List.mem_cons_self) ⟨by simp only [inW, tTrue, tFalse, List.any_cons, List.any_nil, bc15, bc21, bc27, bc33, bc39, bc44, bc50, bc56, bc62, bc68, Bool.or_false, Bool.false_or, Bool.or_true, Bool.true_or, Bool.not_true, Bool.not_false]; rfl, H.tail⟩
          ·
           have c68 := bc68
           refine wp_skip ?_
           refine e_in 1 ?_
           refine e_in 0 ?_
           refine e_then ?_
           refine wp_seq ?_
           refine wp_seq ?_
           refine c_region ?_
           refine l_mv 1 S rfl ?_; clear S a; intro a S
           refine l_pure S (p_not rfl) rfl rfl rfl ?_; clear S a; intro a S
           refine l_nil ?_
           refine e_then ?_
           refine c_cond (b := true) S rfl (fun _ => ?_) (fun h => by cases h)
           refine c_region ?_
           refine l_pure S (p_bld (ps := []) rfl (bld25_)) rfl rfl rfl ?_; clear S a; intro a S
           refine l_storeAll (vs := [.int .i64 0, .string ⟨#[]⟩, .int .i64 0, .int .u64 0, .float .f64 0, .bool false]) S H rfl rfl rfl sz25 .here rfl (fun v hv => by simp only [List.mem_cons, List.not_mem_nil, or_false] at hv; rcases hv with rfl | rfl | rfl | rfl | rfl | rfl <;> rfl) rfl rfl ?_; clear S a H; intro w a H S
           refine l_nil ?_
           refine e_then ?_
           refine wp_seq ?_
           refine c_region ?_
           refine l_read S H (r_loadn (m := 6) (vs := [.int .i64 0, .string ⟨#[]⟩, .int .i64 0, .int .u64 0, .float .f64 0, .bool false]) rfl List.mem_cons_self ag25 sz25 rfl rfl) rfl rfl rfl ?_; clear S a; intro a S
           refine l_mv 2 S rfl ?_; clear S a; intro a S
           refine l_storeAll (vs := [.int .i64 0, .string ⟨#[]⟩, .int .i64 0, .int .u64 0, .float .f64 0, .bool false]) S H rfl rfl rfl sz25 .here rfl (fun v hv => by simp only [List.mem_cons, List.not_mem_nil, or_false] at hv; rcases hv with rfl | rfl | rfl | rfl | rfl | rfl <;> rfl) rfl rfl ?_; clear S a H; intro w a H S
           refine l_mv 2 S rfl ?_; clear S a; intro a S
           refine l_nil ?_
           refine e_then ?_
           refine wp_ret ?_
           exact r_retctt S rfl rfl rfl rfl (lva (cs := [.int .i64 0, .string ⟨#[]⟩, .int .i64 0, .int .u64 0, .float .f64 0, .bool false]) ag25 sz25 rfl H List.mem_cons_self) ⟨by simp only [inW, tTrue, tFalse, List.any_cons, List.any_nil, bc15, bc21, bc27, bc33, bc39, bc44, bc50, bc56, bc62, bc68, Bool.or_false, Bool.false_or, Bool.or_true, Bool.true_or, Bool.not_true, Bool.not_false]; rfl, H.tail⟩
theorem sv0_ (wb w0 : World) (B : Nat) (L0 : List (Nat × Obj))   (s : ByteArray) (hs : s.size ≤ 1000000) (H : HH B wb w0 L0) : Calls Tryz.prog 5 #[.int .i64 0, .string s] w0 fun e w' => e = .returned (vi.ansP false false {}) ∧ HH B wb w' L0 := by
 refine c_enter (args := [.int .i64 0, .string s]) (k := 82) Tryz.func5 rfl rfl rfl (fun a S => ?_)
 refine wp_seq ?_
 refine c_region ?_
 refine l_alloc (cs := #[.int .i64 0, .string ⟨#[]⟩, .int .i64 0, .int .u64 0, .float .f64 0, .bool false]) S H rfl (fun w => al zv25) rfl rfl rfl ?_; clear S a H; intro g1 w a H S
 refine l_mv 2 S rfl ?_; clear S a; intro a S
 refine l_nil ?_
 refine e_then ?_
 refine wp_seq ?_
 refine c_region ?_
 refine l_mv 1 S rfl ?_; clear S a; intro a S
 refine l_pure S (p_fieldAddr rfl (fun w => fa25_0 w _ _)) rfl rfl rfl ?_; clear S a; intro a S
 refine l_store S H rfl rfl rfl .here (by first | decide | simp [Value.cells]) (fun w u hc hz => st1 sz3 rfl hc hz) rfl rfl ?_; clear S a H; intro w a H S
 refine l_nil ?_
 refine e_then ?_
 refine wp_seq ?_
 refine c_region ?_
 refine l_mv 1 S rfl ?_; clear S a; intro a S
 refine l_nil ?_
 refine e_then ?_
 refine wp_seq ?_
 refine wp_seq ?_
 refine c_region ?_
 refine l_mv 1 S rfl ?_; clear S a; intro a S
 refine l_nil ?_
 refine e_then ?_
 refine wp_block ?_
 refine wp_seq ?_
 refine c_region ?_
 refine l_pure S (p_eql rfl rfl) rfl rfl rfl ?_; clear S a; intro a S
 refine l_mv 1 S rfl ?_; clear S a; intro a S
 refine l_nil ?_
 refine e_then ?_
 refine c_cond (b := false) S rfl (fun h => by cases h) (fun _ => ?_)
 refine wp_seq ?_
 refine c_region ?_
 refine l_pure S (p_eql rfl rfl) rfl rfl rfl ?_; clear S a; intro a S
 refine l_mv 1 S rfl ?_; clear S a; intro a S
 refine l_nil ?_
 refine e_then ?_
 refine c_cond (b := false) S rfl (fun h => by cases h) (fun _ => ?_)
 refine wp_seq ?_
 refine c_region ?_
 refine l_pure S (p_eql rfl rfl) rfl rfl rfl ?_; clear S a; intro a S
 refine l_mv 1 S rfl ?_; clear S a; intro a S
 refine l_nil ?_
 refine e_then ?_
 refine c_cond (b := false) S rfl (fun h => by cases h) (fun _ => ?_)
 refine wp_seq ?_
 refine c_region ?_
 refine l_pure S (p_eql rfl rfl) rfl rfl rfl ?_; clear S a; intro a S
 refine l_mv 1 S rfl ?_; clear S a; intro a S
 refine l_nil ?_
 refine e_then ?_
 refine c_cond (b := false) S rfl (fun h => by cases h) (fun _ => ?_)
 refine wp_seq ?_
 refine c_region ?_
 refine l_pure S (p_eql rfl rfl) rfl rfl rfl ?_; clear S a; intro a S
 refine l_mv 1 S rfl ?_; clear S a; intro a S
 refine l_nil ?_
 refine e_then ?_
 refine c_cond (b := false) S rfl (fun h => by cases h) (fun _ => ?_)
 refine wp_skip ?_
 refine e_in 0 ?_
 refine e_then ?_
 refine wp_seq ?_
 refine wp_seq ?_
 refine c_region ?_
 refine l_mv 1 S rfl ?_; clear S a; intro a S
 refine l_pure S (p_not rfl) rfl rfl rfl ?_; clear S a; intro a S
 refine l_nil ?_
 refine e_then ?_
 refine c_cond (b := true) S rfl (fun _ => ?_) (fun h => by cases h)
 refine c_region ?_
 refine l_pure S (p_bld (ps := []) rfl (bld25_)) rfl rfl rfl ?_; clear S a; intro a S
 refine l_storeAll (vs := [.int .i64 0, .string ⟨#[]⟩, .int .i64 0, .int .u64 0, .float .f64 0, .bool false]) S H rfl rfl rfl sz25 .here rfl (fun v hv => by simp only [List.mem_cons, List.not_mem_nil, or_false] at hv; rcases hv with rfl | rfl | rfl | rfl | rfl | rfl <;> rfl) rfl rfl ?_; clear S a H; intro w a H S
 refine l_nil ?_
 refine e_then ?_
 refine wp_seq ?_
 refine c_region ?_
 refine l_read S H (r_loadn (m := 6) (vs := [.int .i64 0, .string ⟨#[]⟩, .int .i64 0, .int .u64 0, .float .f64 0, .bool false]) rfl List.mem_cons_self ag25 sz25 rfl rfl) rfl rfl rfl ?_; clear S a; intro a S
 refine l_mv 2 S rfl ?_; clear S a; intro a S
 refine l_storeAll (vs := [.int .i64 0, .string ⟨#[]⟩, .int .i64 0, .int .u64 0, .float .f64 0, .bool false]) S H rfl rfl rfl sz25 .here rfl (fun v hv => by simp only [List.mem_cons, List.not_mem_nil, or_false] at hv; rcases hv with rfl | rfl | rfl | rfl | rfl | rfl <;> rfl) rfl rfl ?_; clear S a H; intro w a H S
 refine l_mv 2 S rfl ?_; clear S a; intro a S
 refine l_nil ?_
 refine e_then ?_
 refine wp_ret ?_
 exact r_retctt S rfl rfl rfl rfl (lva (cs := [.int .i64 0, .string ⟨#[]⟩, .int .i64 0, .int .u64 0, .float .f64 0, .bool false]) ag25 sz25 rfl H List.mem_cons_self) ⟨rfl, H.tail⟩
theorem sv6_ (wb w0 : World) (B : Nat) (L0 : List (Nat × Obj)) (k : Int) (hk : 6 ≤ k ∧ k ≤ 255)  (s : ByteArray) (hs : s.size ≤ 1000000) (H : HH B wb w0 L0) : Calls Tryz.prog 5 #[.int .i64 k, .string s] w0 fun e w' => e = .returned (vi.ansP false false {}) ∧ HH B wb w' L0 := by
 refine c_enter (args := [.int .i64 k, .string s]) (k := 82) Tryz.func5 rfl rfl rfl (fun a S => ?_)
 refine wp_seq ?_
 refine c_region ?_
 refine l_alloc (cs := #[.int .i64 0, .string ⟨#[]⟩, .int .i64 0, .int .u64 0, .float .f64 0, .bool false]) S H rfl (fun w => al zv25) rfl rfl rfl ?_; clear S a H; intro g1 w a H S
 refine l_mv 2 S rfl ?_; clear S a; intro a S
 refine l_nil ?_
 refine e_then ?_
 refine wp_seq ?_
 refine c_region ?_
 refine l_mv 1 S rfl ?_; clear S a; intro a S
 refine l_pure S (p_fieldAddr rfl (fun w => fa25_0 w _ _)) rfl rfl rfl ?_; clear S a; intro a S
 refine l_store S H rfl rfl rfl .here (by first | decide | simp [Value.cells]) (fun w u hc hz => st1 sz3 rfl hc hz) rfl rfl ?_; clear S a H; intro w a H S
 refine l_nil ?_
 refine e_then ?_
 refine wp_seq ?_
 refine c_region ?_
 refine l_mv 1 S rfl ?_; clear S a; intro a S
 refine l_nil ?_
 refine e_then ?_
 refine wp_seq ?_
 refine wp_seq ?_
 refine c_region ?_
 refine l_mv 1 S rfl ?_; clear S a; intro a S
 refine l_nil ?_
 refine e_then ?_
 refine wp_block ?_
 refine wp_seq ?_
 refine c_region ?_
 refine l_pure S (p_eql rfl rfl) rfl rfl rfl ?_; clear S a; intro a S
 refine l_mv 1 S rfl ?_; clear S a; intro a S
 refine l_nil ?_
 refine e_then ?_
 refine c_cond S rfl (fun h => by rw [(show (k == 1) = false from beq_eq_false_iff_ne.2 (by omega))] at h; cases h) (fun _ => ?_)
 refine wp_seq ?_
 refine c_region ?_
 refine l_pure S (p_eql rfl rfl) rfl rfl rfl ?_; clear S a; intro a S
 refine l_mv 1 S rfl ?_; clear S a; intro a S
 refine l_nil ?_
 refine e_then ?_
 refine c_cond S rfl (fun h => by rw [(show (k == 2) = false from beq_eq_false_iff_ne.2 (by omega))] at h; cases h) (fun _ => ?_)
 refine wp_seq ?_
 refine c_region ?_
 refine l_pure S (p_eql rfl rfl) rfl rfl rfl ?_; clear S a; intro a S
 refine l_mv 1 S rfl ?_; clear S a; intro a S
 refine l_nil ?_
 refine e_then ?_
 refine c_cond S rfl (fun h => by rw [(show (k == 3) = false from beq_eq_false_iff_ne.2 (by omega))] at h; cases h) (fun _ => ?_)
 refine wp_seq ?_
 refine c_region ?_
 refine l_pure S (p_eql rfl rfl) rfl rfl rfl ?_; clear S a; intro a S
 refine l_mv 1 S rfl ?_; clear S a; intro a S
 refine l_nil ?_
 refine e_then ?_
 refine c_cond S rfl (fun h => by rw [(show (k == 4) = false from beq_eq_false_iff_ne.2 (by omega))] at h; cases h) (fun _ => ?_)
 refine wp_seq ?_
 refine c_region ?_
 refine l_pure S (p_eql rfl rfl) rfl rfl rfl ?_; clear S a; intro a S
 refine l_mv 1 S rfl ?_; clear S a; intro a S
 refine l_nil ?_
 refine e_then ?_
 refine c_cond S rfl (fun h => by rw [(show (k == 5) = false from beq_eq_false_iff_ne.2 (by omega))] at h; cases h) (fun _ => ?_)
 refine wp_skip ?_
 refine e_in 0 ?_
 refine e_then ?_
 refine wp_seq ?_
 refine wp_seq ?_
 refine c_region ?_
 refine l_mv 1 S rfl ?_; clear S a; intro a S
 refine l_pure S (p_not rfl) rfl rfl rfl ?_; clear S a; intro a S
 refine l_nil ?_
 refine e_then ?_
 refine c_cond (b := true) S rfl (fun _ => ?_) (fun h => by cases h)
 refine c_region ?_
 refine l_pure S (p_bld (ps := []) rfl (bld25_)) rfl rfl rfl ?_; clear S a; intro a S
 refine l_storeAll (vs := [.int .i64 0, .string ⟨#[]⟩, .int .i64 0, .int .u64 0, .float .f64 0, .bool false]) S H rfl rfl rfl sz25 .here rfl (fun v hv => by simp only [List.mem_cons, List.not_mem_nil, or_false] at hv; rcases hv with rfl | rfl | rfl | rfl | rfl | rfl <;> rfl) rfl rfl ?_; clear S a H; intro w a H S
 refine l_nil ?_
 refine e_then ?_
 refine wp_seq ?_
 refine c_region ?_
 refine l_read S H (r_loadn (m := 6) (vs := [.int .i64 0, .string ⟨#[]⟩, .int .i64 0, .int .u64 0, .float .f64 0, .bool false]) rfl List.mem_cons_self ag25 sz25 rfl rfl) rfl rfl rfl ?_; clear S a; intro a S
 refine l_mv 2 S rfl ?_; clear S a; intro a S
 refine l_storeAll (vs := [.int .i64 0, .string ⟨#[]⟩, .int .i64 0, .int .u64 0, .float .f64 0, .bool false]) S H rfl rfl rfl sz25 .here rfl (fun v hv => by simp only [List.mem_cons, List.not_mem_nil, or_false] at hv; rcases hv with rfl | rfl | rfl | rfl | rfl | rfl <;> rfl) rfl rfl ?_; clear S a H; intro w a H S
 refine l_mv 2 S rfl ?_; clear S a; intro a S
 refine l_nil ?_
 refine e_then ?_
 refine wp_ret ?_
 exact r_retctt S rfl rfl rfl rfl (lva (cs := [.int .i64 0, .string ⟨#[]⟩, .int .i64 0, .int .u64 0, .float .f64 0, .bool false]) ag25 sz25 rfl H List.mem_cons_self) ⟨rfl, H.tail⟩
end vs
end Go.Proofs.YtneoieigaakoaaaGreatDoor.pf
end
section
namespace Go.Proofs.YtneoieigaakoaaaGreatDoor.pf
open Go.Proofs.YtneoieigaakoaaaGreatDoor.fx
open Go.RowKit Go.Proofs.HHW Go.Proofs.YtneoieigaakoaaaGreatDoorW.PrintWords
namespace va
theorem ag2 : aggB Tryz.prog 2 = some false := by kernel_rfl
theorem read1 : Ieee.double.read 4607182418800017408 = .number false 4503599627370496 (Ieee.double.leastPlace + (1022 : Nat)) := by decide
theorem div1 {y : Nat} (h : fl.fin y = true) : Ieee.double.div 4607182418800017408 y = some (fdiv 4607182418800017408 y) ∧ nn (fdiv 4607182418800017408 y) := by
 unfold fl.fin at h
 split at h
 ·
  rename_i t n j ey
  by_cases hn : n = 0
  ·
   have e : Ieee.double.div 4607182418800017408 y = some (Ieee.double.write (.infinity (false ^^ t))) := by
    unfold Ieee.Format.div; rw [read1, ey]; simp only [Ieee.Datum.quotient, if_pos hn]; rfl
   unfold fdiv
   rw [e]
   exact ⟨rfl, nn_inf _⟩
  ·
   have e : ∃ m i, Ieee.double.div 4607182418800017408 y = some (Ieee.double.write (.number (false ^^ t) m i)) := by
    unfold Ieee.Format.div; rw [read1, ey]; simp only [Ieee.Datum.quotient, if_neg hn]; exact ⟨_, _, rfl⟩
   obtain ⟨m, i, e⟩ := e
   unfold fdiv
   rw [e]
   exact ⟨rfl, nn_num _ _ _⟩
 ·
  cases h
theorem eq_self {q : Nat} (h : nn q) : fl.eq q q = true := by rw [fl.self]; exact decide_eq_true h
theorem nn_fin {q : Nat} (h : fl.fin q = true) : nn q := by
 rw [fl.fin_iff] at h
 have := of_decide_eq_true h
 unfold nn; omega
theorem okV6 {k : Int} (hk : 6 ≤ k ∧ k ≤ 255) (s : ByteArray) : okV k s = false := by
 unfold okV
 rw [if_neg (by omega), if_neg (by omega), if_neg (by omega), if_neg (by omega), if_neg (by omega)]
theorem farV6 {k : Int} (hk : 6 ≤ k ∧ k ≤ 255) (s : ByteArray) : farV k s = false := by
 unfold farV
 rw [if_neg (by omega), if_neg (by omega), if_neg (by omega)]
def xV (k : Int) (s : ByteArray) : Vl := bif okV k s then anV k s else {}
theorem xfin (k : Int) (s : ByteArray) : fl.fin (xV k s).f = true := by
 unfold xV
 cases h : okV k s
 ·
  show fl.fin 0 = true
  decide
 ·
  rw [cond_true]
  by_cases h4 : k = 4
  ·
   subst h4
   have h2 : (okE (pr.pff s).2 && fl.fin (pr.pff s).1) = true := h
   exact (Bool.and_eq_true_iff.1 h2).2
  ·
   have e : (anV k s).f = 0 := by
    unfold anV
    split
    ·
     rfl
    ·
     split
     ·
      rfl
     ·
      split
      ·
       rfl
      ·
       rfl
   rw [e]
   decide
theorem im_ (wb w0 : World) (B : Nat) (L0 : List (Nat × Obj)) (hT : fz.PTab 13 B wb) (hW : PW 8 9 7 12 11 14 B wb) (hL : PL 14 B wb) (hU : ∀ w (L : List (Nat × Obj)), HH B wb w L → Lib.Utf8Tabs 4 5 w) (as_ ar ao ai : Addr) (hE : vr.EW B wb as_ ar ao ai) (k : Int) (hk : 0 ≤ k ∧ k ≤ 255) (s : ByteArray) (hs : s.size ≤ 1000000) (H : HH B wb w0 L0) : Calls Tryz.prog 4 #[.int .i64 k, .string s] w0 fun e w' => e = .returned (.tuple #[.agg #[.int .i64 (xV k s).k, .string (xV k s).s, .int .i64 (xV k s).n, .int .u64 (xV k s).u, .float .f64 (xV k s).f, .bool (xV k s).b], .bool (okV k s), .bool (farV k s)]) ∧ HH B wb w' L0 := by
 rcases (show k = 0 ∨ k = 1 ∨ k = 2 ∨ k = 3 ∨ k = 4 ∨ k = 5 ∨ (6 ≤ k ∧ k ≤ 255) by omega) with rfl | rfl | rfl | rfl | rfl | rfl | hk
 ·
  exact Calls.mono (vi.im0_ wb w0 B L0 as_ ar ao ai hE s hs H) (by rintro e w' ⟨rfl, h⟩; exact ⟨rfl, h⟩)
 ·
  exact Calls.mono (vi.im1_ wb w0 B L0 hU as_ ar ao ai hE s hs H) (by rintro e w' ⟨rfl, h⟩; exact ⟨rfl, h⟩)
 ·
  exact Calls.mono (vi.im2_ wb w0 B L0 as_ ar ao ai hE s hs H) (by rintro e w' ⟨rfl, h⟩; exact ⟨rfl, h⟩)
 ·
  exact Calls.mono (vi.im3_ wb w0 B L0 as_ ar ao ai hE s hs H) (by rintro e w' ⟨rfl, h⟩; exact ⟨rfl, h⟩)
 ·
  exact Calls.mono (vi.im4_ wb w0 B L0 hT hW hL as_ ar ao ai hE s hs H) (by rintro e w' ⟨rfl, h⟩; exact ⟨rfl, h⟩)
 ·
  exact Calls.mono (vi.im5_ wb w0 B L0 as_ ar ao ai hE s hs H) (by rintro e w' ⟨rfl, h⟩; exact ⟨rfl, h⟩)
 ·
  exact Calls.mono (vi.im6_ wb w0 B L0 k hk as_ ar ao ai hE s hs H) (by rintro e w' ⟨rfl, h⟩; exact ⟨by unfold xV; rw [okV6 hk, farV6 hk]; rfl, h⟩)
theorem sv_ (wb w0 : World) (B : Nat) (L0 : List (Nat × Obj)) (hT : fz.PTab 13 B wb) (hW : PW 8 9 7 12 11 14 B wb) (hL : PL 14 B wb) (hU : ∀ w (L : List (Nat × Obj)), HH B wb w L → Lib.Utf8Tabs 4 5 w) (as_ ar ao ai : Addr) (hE : vr.EW B wb as_ ar ao ai) (k : Int) (hk : 0 ≤ k ∧ k ≤ 255) (s : ByteArray) (hs : s.size ≤ 1000000) (H : HH B wb w0 L0) : Calls Tryz.prog 5 #[.int .i64 k, .string s] w0 fun e w' => e = .returned (.tuple #[.agg #[.int .i64 (xV k s).k, .string (xV k s).s, .int .i64 (xV k s).n, .int .u64 (xV k s).u, .float .f64 (xV k s).f, .bool (xV k s).b], .bool (okV k s), .bool (farV k s)]) ∧ HH B wb w' L0 := by
 rcases (show k = 0 ∨ k = 1 ∨ k = 2 ∨ k = 3 ∨ k = 4 ∨ k = 5 ∨ (6 ≤ k ∧ k ≤ 255) by omega) with rfl | rfl | rfl | rfl | rfl | rfl | hk
 ·
  exact Calls.mono (vs.sv0_ wb w0 B L0 s hs H) (by rintro e w' ⟨rfl, h⟩; exact ⟨rfl, h⟩)
 ·
  exact Calls.mono (vs.sv1_ wb w0 B L0 s hs H) (by rintro e w' ⟨rfl, h⟩; exact ⟨rfl, h⟩)
 ·
  exact Calls.mono (vs.sv2_ wb w0 B L0 s hs H) (by rintro e w' ⟨rfl, h⟩; exact ⟨rfl, h⟩)
 ·
  exact Calls.mono (vs.sv3_ wb w0 B L0 s hs H) (by rintro e w' ⟨rfl, h⟩; exact ⟨rfl, h⟩)
 ·
  exact Calls.mono (vs.sv4_ wb w0 B L0 hT hW hL as_ ar ao ai hE s hs H) (by rintro e w' ⟨rfl, h⟩; exact ⟨rfl, h⟩)
 ·
  exact Calls.mono (vs.sv5_ wb w0 B L0 s hs H) (by rintro e w' ⟨rfl, h⟩; exact ⟨rfl, h⟩)
 ·
  exact Calls.mono (vs.sv6_ wb w0 B L0 k hk s hs H) (by rintro e w' ⟨rfl, h⟩; exact ⟨by unfold xV; rw [okV6 hk, farV6 hk]; rfl, h⟩)
set_option maxHeartbeats 1000000 in
theorem same_ (wb w0 : World) (B : Nat) (L0 : List (Nat × Obj)) (x : Vl) (hx : fl.fin x.f = true) (H : HH B wb w0 L0) : Calls Tryz.prog 6 #[.agg #[.int .i64 x.k, .string x.s, .int .i64 x.n, .int .u64 x.u, .float .f64 x.f, .bool x.b], .agg #[.int .i64 x.k, .string x.s, .int .i64 x.n, .int .u64 x.u, .float .f64 x.f, .bool x.b]] w0 fun e w' => e = .returned (.bool true) ∧ HH B wb w' L0 := by
 refine c_enter (args := [.agg #[.int .i64 x.k, .string x.s, .int .i64 x.n, .int .u64 x.u, .float .f64 x.f, .bool x.b], .agg #[.int .i64 x.k, .string x.s, .int .i64 x.n, .int .u64 x.u, .float .f64 x.f, .bool x.b]]) (k := 52) Tryz.func6 rfl rfl rfl (fun a S => ?_)
 refine wp_seq ?_
 refine c_region ?_
 refine l_box (cs := #[.int .i64 x.k, .string x.s, .int .i64 x.n, .int .u64 x.u, .float .f64 x.f, .bool x.b]) S H rfl rfl (fun w => bx) rfl rfl rfl ?_; clear S a H; intro g1 w a H S
 refine l_box (cs := #[.int .i64 x.k, .string x.s, .int .i64 x.n, .int .u64 x.u, .float .f64 x.f, .bool x.b]) S H rfl rfl (fun w => bx) rfl rfl rfl ?_; clear S a H; intro g2 w a H S
 refine l_mv 1 S rfl ?_; clear S a; intro a S
 refine l_nil ?_
 refine e_then ?_
 refine wp_seq ?_
 refine c_region ?_
 refine l_pure S (p_fieldAddr rfl (fun w => fa25_0 w _ _)) rfl rfl rfl ?_; clear S a; intro a S
 refine l_read S H (r_load rfl (List.mem_cons_of_mem _ List.mem_cons_self) rfl (fun w hc => ld1 ag3 hc)) rfl rfl rfl ?_; clear S a; intro a S
 refine l_pure S (p_fieldAddr rfl (fun w => fa25_0 w _ _)) rfl rfl rfl ?_; clear S a; intro a S
 refine l_read S H (r_load rfl List.mem_cons_self rfl (fun w hc => ld1 ag3 hc)) rfl rfl rfl ?_; clear S a; intro a S
 refine l_pure S (p_eql rfl rfl) rfl rfl rfl ?_; clear S a; intro a S
 refine l_mv 1 S rfl ?_; clear S a; intro a S
 refine l_on S rfl rfl rfl rfl (beq_self_eq_true _) ?_
 refine l_pure S (p_fieldAddr rfl (fun w => fa25_1 w _ _)) rfl rfl rfl ?_; clear S a; intro a S
 refine l_on S rfl rfl rfl rfl (beq_self_eq_true _) ?_
 refine l_read S H (r_load rfl (List.mem_cons_of_mem _ List.mem_cons_self) rfl (fun w hc => ld1 ag9 hc)) rfl rfl rfl ?_; clear S a; intro a S
 refine l_on S rfl rfl rfl rfl (beq_self_eq_true _) ?_
 refine l_pure S (p_fieldAddr rfl (fun w => fa25_1 w _ _)) rfl rfl rfl ?_; clear S a; intro a S
 refine l_on S rfl rfl rfl rfl (beq_self_eq_true _) ?_
 refine l_read S H (r_load rfl List.mem_cons_self rfl (fun w hc => ld1 ag9 hc)) rfl rfl rfl ?_; clear S a; intro a S
 refine l_on S rfl rfl rfl rfl (beq_self_eq_true _) ?_
 refine l_pure S (p_seql rfl rfl) rfl rfl rfl ?_; clear S a; intro a S
 refine l_pure S (p_pick_t rfl (beq_self_eq_true _) rfl) rfl rfl rfl ?_; clear S a; intro a S
 refine l_mv 1 S rfl ?_; clear S a; intro a S
 refine l_on S rfl rfl rfl rfl (beq_self_eq_true _) ?_
 refine l_pure S (p_fieldAddr rfl (fun w => fa25_2 w _ _)) rfl rfl rfl ?_; clear S a; intro a S
 refine l_on S rfl rfl rfl rfl (beq_self_eq_true _) ?_
 refine l_read S H (r_load rfl (List.mem_cons_of_mem _ List.mem_cons_self) rfl (fun w hc => ld1 ag2 hc)) rfl rfl rfl ?_; clear S a; intro a S
 refine l_on S rfl rfl rfl rfl (beq_self_eq_true _) ?_
 refine l_pure S (p_fieldAddr rfl (fun w => fa25_2 w _ _)) rfl rfl rfl ?_; clear S a; intro a S
 refine l_on S rfl rfl rfl rfl (beq_self_eq_true _) ?_
 refine l_read S H (r_load rfl List.mem_cons_self rfl (fun w hc => ld1 ag2 hc)) rfl rfl rfl ?_; clear S a; intro a S
 refine l_on S rfl rfl rfl rfl (beq_self_eq_true _) ?_
 refine l_pure S (p_eql rfl rfl) rfl rfl rfl ?_; clear S a; intro a S
 refine l_pure S (p_pick_t rfl (beq_self_eq_true _) rfl) rfl rfl rfl ?_; clear S a; intro a S
 refine l_mv 1 S rfl ?_; clear S a; intro a S
 refine l_on S rfl rfl rfl rfl (beq_self_eq_true _) ?_
 refine l_pure S (p_fieldAddr rfl (fun w => fa25_3 w _ _)) rfl rfl rfl ?_; clear S a; intro a S
 refine l_on S rfl rfl rfl rfl (beq_self_eq_true _) ?_
 refine l_read S H (r_load rfl (List.mem_cons_of_mem _ List.mem_cons_self) rfl (fun w hc => ld1 ag22 hc)) rfl rfl rfl ?_; clear S a; intro a S
 refine l_on S rfl rfl rfl rfl (beq_self_eq_true _) ?_
 refine l_pure S (p_fieldAddr rfl (fun w => fa25_3 w _ _)) rfl rfl rfl ?_; clear S a; intro a S
 refine l_on S rfl rfl rfl rfl (beq_self_eq_true _) ?_
 refine l_read S H (r_load rfl List.mem_cons_self rfl (fun w hc => ld1 ag22 hc)) rfl rfl rfl ?_; clear S a; intro a S
 refine l_on S rfl rfl rfl rfl (beq_self_eq_true _) ?_
 refine l_pure S (p_eql rfl rfl) rfl rfl rfl ?_; clear S a; intro a S
 refine l_pure S (p_pick_t rfl (beq_self_eq_true _) rfl) rfl rfl rfl ?_; clear S a; intro a S
 refine l_mv 1 S rfl ?_; clear S a; intro a S
 refine l_on S rfl rfl rfl rfl (beq_self_eq_true _) ?_
 refine l_pure S (p_fieldAddr rfl (fun w => fa25_4 w _ _)) rfl rfl rfl ?_; clear S a; intro a S
 refine l_on S rfl rfl rfl rfl (beq_self_eq_true _) ?_
 refine l_read S H (r_load rfl (List.mem_cons_of_mem _ List.mem_cons_self) rfl (fun w hc => ld1 ag23 hc)) rfl rfl rfl ?_; clear S a; intro a S
 refine l_on S rfl rfl rfl rfl (beq_self_eq_true _) ?_
 refine l_pure S (p_fieldAddr rfl (fun w => fa25_4 w _ _)) rfl rfl rfl ?_; clear S a; intro a S
 refine l_on S rfl rfl rfl rfl (beq_self_eq_true _) ?_
 refine l_read S H (r_load rfl List.mem_cons_self rfl (fun w hc => ld1 ag23 hc)) rfl rfl rfl ?_; clear S a; intro a S
 refine l_on S rfl rfl rfl rfl (beq_self_eq_true _) ?_
 refine l_pure S (p_feql rfl rfl) rfl rfl rfl ?_; clear S a; intro a S
 refine l_pure S (p_pick_t rfl (beq_self_eq_true _) rfl) rfl rfl rfl ?_; clear S a; intro a S
 refine l_mv 1 S rfl ?_; clear S a; intro a S
 refine l_on S rfl rfl rfl rfl (eq_self (nn_fin hx)) ?_
 refine l_pure S (p_fieldAddr rfl (fun w => fa25_4 w _ _)) rfl rfl rfl ?_; clear S a; intro a S
 refine l_on S rfl rfl rfl rfl (eq_self (nn_fin hx)) ?_
 refine l_read S H (r_load rfl (List.mem_cons_of_mem _ List.mem_cons_self) rfl (fun w hc => ld1 ag23 hc)) rfl rfl rfl ?_; clear S a; intro a S
 refine l_on S rfl rfl rfl rfl (eq_self (nn_fin hx)) ?_
 refine l_pure S (p_fquo rfl rfl (div1 hx).1) rfl rfl rfl ?_; clear S a; intro a S
 refine l_on S rfl rfl rfl rfl (eq_self (nn_fin hx)) ?_
 refine l_pure S (p_fieldAddr rfl (fun w => fa25_4 w _ _)) rfl rfl rfl ?_; clear S a; intro a S
 refine l_on S rfl rfl rfl rfl (eq_self (nn_fin hx)) ?_
 refine l_read S H (r_load rfl List.mem_cons_self rfl (fun w hc => ld1 ag23 hc)) rfl rfl rfl ?_; clear S a; intro a S
 refine l_on S rfl rfl rfl rfl (eq_self (nn_fin hx)) ?_
 refine l_pure S (p_fquo rfl rfl (div1 hx).1) rfl rfl rfl ?_; clear S a; intro a S
 refine l_on S rfl rfl rfl rfl (eq_self (nn_fin hx)) ?_
 refine l_pure S (p_feql rfl rfl) rfl rfl rfl ?_; clear S a; intro a S
 refine l_pure S (p_pick_t rfl (eq_self (nn_fin hx)) rfl) rfl rfl rfl ?_; clear S a; intro a S
 refine l_mv 1 S rfl ?_; clear S a; intro a S
 refine l_on S rfl rfl rfl rfl (eq_self (div1 hx).2) ?_
 refine l_pure S (p_fieldAddr rfl (fun w => fa25_5 w _ _)) rfl rfl rfl ?_; clear S a; intro a S
 refine l_on S rfl rfl rfl rfl (eq_self (div1 hx).2) ?_
 refine l_read S H (r_load rfl (List.mem_cons_of_mem _ List.mem_cons_self) rfl (fun w hc => ld1 ag4 hc)) rfl rfl rfl ?_; clear S a; intro a S
 refine l_on S rfl rfl rfl rfl (eq_self (div1 hx).2) ?_
 refine l_pure S (p_fieldAddr rfl (fun w => fa25_5 w _ _)) rfl rfl rfl ?_; clear S a; intro a S
 refine l_on S rfl rfl rfl rfl (eq_self (div1 hx).2) ?_
 refine l_read S H (r_load rfl List.mem_cons_self rfl (fun w hc => ld1 ag4 hc)) rfl rfl rfl ?_; clear S a; intro a S
 refine l_on S rfl rfl rfl rfl (eq_self (div1 hx).2) ?_
 refine l_pure S (p_beql Tryz.underlying4 rfl rfl) rfl rfl rfl ?_; clear S a; intro a S
 refine l_pure S (p_pick_t rfl (eq_self (div1 hx).2) rfl) rfl rfl rfl ?_; clear S a; intro a S
 refine l_mv 1 S rfl ?_; clear S a; intro a S
 refine l_nil ?_
 refine e_then ?_
 refine wp_ret ?_
 exact r_ret1 S rfl rfl ⟨by rw [beq_self_eq_true], H.tail.tail⟩
set_option maxHeartbeats 1000000 in
theorem law_ (wb w0 : World) (B : Nat) (L0 : List (Nat × Obj)) (hT : fz.PTab 13 B wb) (hW : PW 8 9 7 12 11 14 B wb) (hL : PL 14 B wb) (hU : ∀ w (L : List (Nat × Obj)), HH B wb w L → Lib.Utf8Tabs 4 5 w) (as_ ar ao ai : Addr) (hE : vr.EW B wb as_ ar ao ai) (k : Int) (s : ByteArray) (H : HH B wb w0 L0) : Calls Tryz.prog 3 #[.int .i64 k, .string s] w0 fun e w' => e = .returned (.bool true) ∧ Below B wb w' := by
 refine c_enter (args := [.int .i64 k, .string s]) (k := 54) Tryz.func3 rfl rfl rfl (fun a S => ?_)
 refine wp_seq ?_
 refine c_region ?_
 refine l_mv 1 S rfl ?_; clear S a; intro a S
 refine l_nil ?_
 refine e_then ?_
 refine wp_seq ?_
 refine wp_seq ?_
 refine c_region ?_
 refine l_mv 1 S rfl ?_; clear S a; intro a S
 refine l_pure S (p_lens Tryz.underlying9 rfl) rfl rfl rfl ?_; clear S a; intro a S
 refine l_pure S (p_gtr rfl rfl) rfl rfl rfl ?_; clear S a; intro a S
 refine l_nil ?_
 refine e_then ?_
 refine c_cond S rfl (fun bc3 => ?_) (fun bc3 => ?_)
 ·
  have c3 := bc3
  have c3 := of_decide_eq_true c3
  refine wp_seq ?_
  refine c_region ?_
  refine l_mv 1 S rfl ?_; clear S a; intro a S
  refine l_nil ?_
  refine e_then ?_
  refine wp_ret ?_
  refine e_then_ret ?_
  exact r_ret1 S rfl rfl ⟨rfl, H.below⟩
 ·
  have c3 := bc3
  have c3 := of_decide_eq_false c3
  refine wp_skip ?_
  refine e_then ?_
  refine wp_seq ?_
  refine wp_seq ?_
  refine c_region ?_
  refine l_mv 1 S rfl ?_; clear S a; intro a S
  refine l_pure S (p_lss rfl rfl) rfl rfl rfl ?_; clear S a; intro a S
  refine l_mv 1 S rfl ?_; clear S a; intro a S
  refine l_split (S.of 16 rfl) (fun bc6 => ?_) (fun bc6 => ?_)
  ·
   have c6 := bc6
   have c6 := of_decide_eq_true c6
   refine l_off S rfl rfl rfl rfl bc6 rfl rfl ?_; clear S a; intro a S
   refine l_off S rfl rfl rfl rfl bc6 rfl rfl ?_; clear S a; intro a S
   refine l_pure S (p_pick_t rfl bc6 rfl) rfl rfl rfl ?_; clear S a; intro a S
   refine l_mv 1 S rfl ?_; clear S a; intro a S
   refine l_off S rfl rfl rfl rfl rfl rfl rfl ?_; clear S a; intro a S
   refine l_off S rfl rfl rfl rfl rfl rfl rfl ?_; clear S a; intro a S
   refine l_off S rfl rfl rfl rfl rfl rfl rfl ?_; clear S a; intro a S
   refine l_pure S (p_pick_t rfl rfl rfl) rfl rfl rfl ?_; clear S a; intro a S
   refine l_nil ?_
   refine e_then ?_
   refine c_cond (b := true) S rfl (fun _ => ?_) (fun h => by cases h)
   refine wp_seq ?_
   refine c_region ?_
   refine l_mv 1 S rfl ?_; clear S a; intro a S
   refine l_nil ?_
   refine e_then ?_
   refine wp_ret ?_
   refine e_then_ret ?_
   exact r_ret1 S rfl rfl ⟨rfl, H.below⟩
  ·
   have c6 := bc6
   have c6 := of_decide_eq_false c6
   refine l_on S rfl rfl rfl rfl bc6 ?_
   refine l_pure S (p_move rfl) rfl rfl rfl ?_; clear S a; intro a S
   refine l_on S rfl rfl rfl rfl bc6 ?_
   refine l_pure S (p_gtr rfl rfl) rfl rfl rfl ?_; clear S a; intro a S
   refine l_pure S (p_pick_f rfl bc6 rfl) rfl rfl rfl ?_; clear S a; intro a S
   refine l_mv 1 S rfl ?_; clear S a; intro a S
   refine l_split (S.of 20 rfl) (fun bc12 => ?_) (fun bc12 => ?_)
   ·
    have c12 := bc12
    have c12 := of_decide_eq_true c12
    refine l_off S rfl rfl rfl rfl bc12 rfl rfl ?_; clear S a; intro a S
    refine l_off S rfl rfl rfl rfl bc12 rfl rfl ?_; clear S a; intro a S
    refine l_off S rfl rfl rfl rfl bc12 rfl rfl ?_; clear S a; intro a S
    refine l_pure S (p_pick_t rfl bc12 rfl) rfl rfl rfl ?_; clear S a; intro a S
    refine l_nil ?_
    refine e_then ?_
    refine c_cond (b := true) S rfl (fun _ => ?_) (fun h => by cases h)
    refine wp_seq ?_
    refine c_region ?_
    refine l_mv 1 S rfl ?_; clear S a; intro a S
    refine l_nil ?_
    refine e_then ?_
    refine wp_ret ?_
    refine e_then_ret ?_
    exact r_ret1 S rfl rfl ⟨rfl, H.below⟩
   ·
    have c12 := bc12
    have c12 := of_decide_eq_false c12
    refine l_on S rfl rfl rfl rfl bc12 ?_
    refine l_pure S (p_move rfl) rfl rfl rfl ?_; clear S a; intro a S
    refine l_on S rfl rfl rfl rfl bc12 ?_
    refine l_pure S (p_lens Tryz.underlying9 rfl) rfl rfl rfl ?_; clear S a; intro a S
    refine l_on S rfl rfl rfl rfl bc12 ?_
    refine l_pure S (p_gtr rfl rfl) rfl rfl rfl ?_; clear S a; intro a S
    refine l_pure S (p_pick_f rfl bc12 rfl) rfl rfl rfl ?_; clear S a; intro a S
    refine l_nil ?_
    refine e_then ?_
    refine c_cond S rfl (fun bc17 => ?_) (fun bc17 => ?_)
    ·
     have c17 := bc17
     have c17 := of_decide_eq_true c17
     refine wp_seq ?_
     refine c_region ?_
     refine l_mv 1 S rfl ?_; clear S a; intro a S
     refine l_nil ?_
     refine e_then ?_
     refine wp_ret ?_
     refine e_then_ret ?_
     exact r_ret1 S rfl rfl ⟨rfl, H.below⟩
    ·
     have c17 := bc17
     have c17 := of_decide_eq_false c17
     refine wp_skip ?_
     refine e_then ?_
     refine wp_seq ?_
     refine c_region ?_
     refine l_mv 2 S rfl ?_; clear S a; intro a S
     have hcon := im_ wb _ B _ hT hW hL hU as_ ar ao ai hE k (by omega) s (by omega) H
     refine l_call S rfl rfl Tryz.func4 rfl rfl (hcon) rfl rfl rfl ?_
     rintro e w ⟨rfl, hH⟩
     refine ⟨_, rfl, ?_⟩; clear S a; intro a S
     clear H hcon; have H := hH; clear hH
     refine l_mv 4 S rfl ?_; clear S a; intro a S
     refine l_alloc (cs := #[.int .i64 0, .string ⟨#[]⟩, .int .i64 0, .int .u64 0, .float .f64 0, .bool false]) S H rfl (fun w => al zv25) rfl rfl rfl ?_; clear S a H; intro g21 w a H S
     refine l_storeAll (vs := [.int .i64 (xV k s).k, .string (xV k s).s, .int .i64 (xV k s).n, .int .u64 (xV k s).u, .float .f64 (xV k s).f, .bool (xV k s).b]) S H rfl rfl rfl sz25 .here rfl (fun v hv => by simp only [List.mem_cons, List.not_mem_nil, or_false] at hv; rcases hv with rfl | rfl | rfl | rfl | rfl | rfl <;> rfl) rfl rfl ?_; clear S a H; intro w a H S
     refine l_mv 2 S rfl ?_; clear S a; intro a S
     refine l_nil ?_
     refine e_then ?_
     refine wp_seq ?_
     refine c_region ?_
     refine l_mv 2 S rfl ?_; clear S a; intro a S
     have hcon := sv_ wb _ B _ hT hW hL hU as_ ar ao ai hE k (by omega) s (by omega) H
     refine l_call S rfl rfl Tryz.func5 rfl rfl (hcon) rfl rfl rfl ?_
     rintro e w ⟨rfl, hH⟩
     refine ⟨_, rfl, ?_⟩; clear S a; intro a S
     clear H hcon; have H := hH; clear hH
     refine l_mv 4 S rfl ?_; clear S a; intro a S
     refine l_alloc (cs := #[.int .i64 0, .string ⟨#[]⟩, .int .i64 0, .int .u64 0, .float .f64 0, .bool false]) S H rfl (fun w => al zv25) rfl rfl rfl ?_; clear S a H; intro g24 w a H S
     refine l_storeAll (vs := [.int .i64 (xV k s).k, .string (xV k s).s, .int .i64 (xV k s).n, .int .u64 (xV k s).u, .float .f64 (xV k s).f, .bool (xV k s).b]) S H rfl rfl rfl sz25 .here rfl (fun v hv => by simp only [List.mem_cons, List.not_mem_nil, or_false] at hv; rcases hv with rfl | rfl | rfl | rfl | rfl | rfl <;> rfl) rfl rfl ?_; clear S a H; intro w a H S
     refine l_mv 2 S rfl ?_; clear S a; intro a S
     refine l_nil ?_
     refine e_then ?_
     refine wp_seq ?_
     refine c_region ?_
     refine l_mv 2 S rfl ?_; clear S a; intro a S
     refine l_pure S (p_beql Tryz.underlying4 rfl rfl) rfl rfl rfl ?_; clear S a; intro a S
     refine l_mv 1 S rfl ?_; clear S a; intro a S
     refine l_on S rfl rfl rfl rfl (beq_self_eq_true _) ?_
     refine l_pure S (p_move rfl) rfl rfl rfl ?_; clear S a; intro a S
     refine l_on S rfl rfl rfl rfl (beq_self_eq_true _) ?_
     refine l_pure S (p_move rfl) rfl rfl rfl ?_; clear S a; intro a S
     refine l_on S rfl rfl rfl rfl (beq_self_eq_true _) ?_
     refine l_pure S (p_beql Tryz.underlying4 rfl rfl) rfl rfl rfl ?_; clear S a; intro a S
     refine l_pure S (p_pick_t rfl (beq_self_eq_true _) rfl) rfl rfl rfl ?_; clear S a; intro a S
     refine l_mv 1 S rfl ?_; clear S a; intro a S
     refine l_on S rfl rfl rfl rfl (beq_self_eq_true _) ?_
     refine l_pure S (p_move rfl) rfl rfl rfl ?_; clear S a; intro a S
     refine l_on S rfl rfl rfl rfl (beq_self_eq_true _) ?_
     refine l_pure S (p_not rfl) rfl rfl rfl ?_; clear S a; intro a S
     refine l_on S rfl rfl rfl rfl (beq_self_eq_true _) ?_
     refine l_pure S (p_move rfl) rfl rfl rfl ?_; clear S a; intro a S
     refine l_split (S.of 50 rfl) (fun bc28 => ?_) (fun bc28 => ?_)
     ·
      have c28 := bc28
      replace c28 := not_eq_true_ c28
      refine l_off S rfl rfl rfl rfl bc28 rfl rfl ?_; clear S a; intro a S
      refine l_off S rfl rfl rfl rfl bc28 rfl rfl ?_; clear S a; intro a S
      refine l_off S rfl rfl rfl rfl bc28 rfl rfl ?_; clear S a; intro a S
      refine l_on S rfl rfl rfl rfl (beq_self_eq_true _) ?_
      refine l_pure S (p_pick_t rfl bc28 rfl) rfl rfl rfl ?_; clear S a; intro a S
      refine l_pure S (p_pick_t rfl (beq_self_eq_true _) rfl) rfl rfl rfl ?_; clear S a; intro a S
      refine l_mv 1 S rfl ?_; clear S a; intro a S
      refine l_nil ?_
      refine e_then ?_
      refine wp_ret ?_
      exact r_ret1 S rfl rfl ⟨rfl, H.below⟩
     ·
      have c28 := bc28
      replace c28 := not_eq_false_ c28
      refine l_on S rfl rfl rfl rfl bc28 ?_
      refine l_read S H (r_loadn (m := 6) (vs := [.int .i64 (xV k s).k, .string (xV k s).s, .int .i64 (xV k s).n, .int .u64 (xV k s).u, .float .f64 (xV k s).f, .bool (xV k s).b]) rfl (List.mem_cons_of_mem _ List.mem_cons_self) ag25 sz25 rfl rfl) rfl rfl rfl ?_; clear S a; intro a S
      refine l_on S rfl rfl rfl rfl bc28 ?_
      refine l_read S H (r_loadn (m := 6) (vs := [.int .i64 (xV k s).k, .string (xV k s).s, .int .i64 (xV k s).n, .int .u64 (xV k s).u, .float .f64 (xV k s).f, .bool (xV k s).b]) rfl List.mem_cons_self ag25 sz25 rfl rfl) rfl rfl rfl ?_; clear S a; intro a S
      refine l_on S rfl rfl rfl rfl bc28 ?_
      have hcon := same_ wb _ B _ (xV k s) (xfin k s) H
      refine l_call S rfl rfl Tryz.func6 rfl rfl (hcon) rfl rfl rfl ?_
      rintro e w ⟨rfl, hH⟩
      refine ⟨_, rfl, ?_⟩; clear S a; intro a S
      clear H hcon; have H := hH; clear hH
      refine l_on S rfl rfl rfl rfl (beq_self_eq_true _) ?_
      refine l_pure S (p_pick_f rfl bc28 rfl) rfl rfl rfl ?_; clear S a; intro a S
      refine l_pure S (p_pick_t rfl (beq_self_eq_true _) rfl) rfl rfl rfl ?_; clear S a; intro a S
      refine l_mv 1 S rfl ?_; clear S a; intro a S
      refine l_nil ?_
      refine e_then ?_
      refine wp_ret ?_
      exact r_ret1 S rfl rfl ⟨rfl, H.below⟩
end va
end Go.Proofs.YtneoieigaakoaaaGreatDoor.pf
end
section
namespace Go.Proofs.YtneoieigaakoaaaGreatDoor.lv
open Go.Proofs.YtneoieigaakoaaaGreatDoor.fx
open Go.RowKit Go.ChangeShapes Go.Lib
theorem laid_at {P : Program} {W : World} : ∀ {l : List (String × DataW Unit)} {ps : List MemPlace}, DataW.LaidVars P W l ps → ∀ n d, (n, d) ∈ l → ∃ g t cs fuel p, P.globalNamed n = some g ∧ (P.globals[g]?).map (·.type) = some t ∧ W.var? P n = some cs ∧ DataW.trod (fun _ => ()) P W 0 (fun _ => true) false fuel t cs.toList = some (d, p) ∧ ∀ x ∈ MemPlace.row ⟨g, 0, none⟩ cs.size ++ p, x ∈ ps
 | [], _, _, _, _, hm => by cases hm
 | (n', d') :: r, ps, h, n, d, hm => by
  obtain ⟨g, t, cs, fuel, p, q, h1, h2, h3, h4, h5, rfl⟩ := h
  rcases List.mem_cons.1 hm with e | e
  ·
   cases e
   exact ⟨g, t, cs, fuel, p, h1, h2, h3, h4, fun x hx => List.mem_append_left _ hx⟩
  ·
   obtain ⟨g', t', cs', fuel', p', a1, a2, a3, a4, a5⟩ := laid_at h5 n d e
   exact ⟨g', t', cs', fuel', p', a1, a2, a3, a4, fun x hx => List.mem_append_right _ (a5 x hx)⟩
theorem lt_of_cell {W : World} {a : Addr} {v : Value} (h : W.cell? a = some v) : a.block < W.heap.size := by
 rcases Nat.lt_or_ge a.block W.heap.size with h' | h'
 ·
  exact h'
 ·
  obtain ⟨b, o, p⟩ := a
  simp only at h'
  simp [World.cell?, Array.getElem?_eq_none h'] at h
theorem sent_at {P : Program} {n nm : String} {text : List UInt8} {l : List (String × DataW Unit)} {W : World} {g : Nat} {ti tp te ts : TypeId} {ms : Array (String × TypeId)} {f : Field}
  (h : laidMet P l W) (hm : (n, DataW.iface nm (.ptr (.agg [.lit (.string text)]))) ∈ l)
  (hg : P.globalNamed n = some g) (ht : (P.globals[g]?).map (·.type) = some ti) (hi : P.underlying ti = some (.interface ms)) (hrow : ∀ u, P.typeName? 3 u = some nm → u = tp)
  (hpt : P.underlying tp = some (.pointer te)) (he : P.underlying te = some (.struct #[f])) (hft : f.type = ts) (hfo : f.offset = 0) (hs : P.underlying ts = some .string) (hc : P.cellsOf te = 1) (hcs : P.cellsOf ts = 1) :
  ∃ (a : Addr) (s : ByteArray), (W.cell? ⟨g, 0, none⟩ = some (.iface tp (.pointer (some a))) ∧ g < W.heap.size) ∧ W.cell? a = some (.string s) ∧ s.data.toList = text ∧ (∃ c t, W.heap[a.block]? = some (.cells c t (0, 0))) ∧ a.block < W.heap.size := by
 obtain ⟨ps, hv, _, hrows⟩ := h
 obtain ⟨g0, t0, cs0, f0, p0, hg0, ht0, hv0, hd0, hin⟩ := laid_at hv _ _ hm
 obtain rfl := Option.some.inj (hg.symm.trans hg0)
 obtain rfl := Option.some.inj (ht.symm.trans ht0)
 obtain ⟨l0⟩ := cs0
 have ok0 : ∀ u v, l0 = [.iface u v] → Value.okWide P W .any 0 u v := fun u v e => by
  subst e
  exact (hrows g 0 (hin _ (by simp [MemPlace.row]))).2 u v (by simpa using World.var?_cell hg0 hv0 0)
 obtain ⟨a0, s0, rfl, hc0, hs0, hz0, hpp⟩ := errorString_of_trod hi hrow hpt he hft hfo hs hc hcs hd0 ok0
 have h1 := hrows a0.block a0.off (hin _ (by rw [hpp]; simp [MemPlace.row]))
 have h2 : W.cell? ⟨g, 0, none⟩ = some (.iface tp (.pointer (some a0))) := by simpa using World.var?_cell hg0 hv0 0
 exact ⟨a0, s0, ⟨h2, lt_of_cell h2⟩, hc0, hs0, h1.1, lt_of_cell hc0⟩
theorem glob_unfrozen {P : Program} {n : String} {d : DataW Unit} {l : List (String × DataW Unit)} {W : World} {g : Nat} {v : Value} (h : laidMet P l W) (hm : (n, d) ∈ l) (hg : P.globalNamed n = some g) (hc : W.cell? ⟨g, 0, none⟩ = some v) : ∃ c t, W.heap[g]? = some (.cells c t (0, 0)) ∧ c.size ≠ 0 := by
 obtain ⟨ps, hv, _, hrows⟩ := h
 obtain ⟨g0, t0, cs0, f0, p0, hg0, ht0, hv0, hd0, hin⟩ := laid_at hv _ _ hm
 obtain rfl := Option.some.inj (hg.symm.trans hg0)
 have h0 := World.var?_cell hg0 hv0 0
 rw [hc] at h0
 have hs : 0 < cs0.size := (Array.getElem?_eq_some_iff.1 h0.symm).1
 obtain ⟨⟨c, t, e⟩, _⟩ := hrows g 0 (hin _ (by
  refine List.mem_append_left _ ?_
  unfold MemPlace.row
  exact List.mem_map.2 ⟨0, List.mem_range.2 hs, rfl⟩))
 refine ⟨c, t, e, fun h0' => ?_⟩
 unfold World.cell? at hc
 rw [e] at hc
 simp only at hc
 have h1 : c[0]? = some v := by simpa using hc
 rw [Array.getElem?_eq_none (by omega)] at h1
 cases h1
section
variable {H : Type} {enc : TypeId × Value → H} {P : Program} {w : World} {base : Nat} {sp : Nat → Bool} {held : Bool}
theorem field_at {fs : Array Field} {fuel : Nat} {t : TypeId} {cs : List Value} {ds : List (DataW H)} {p : List MemPlace} (ht : P.underlying t = some (.struct fs)) (h : DataW.trod enc P w base sp held fuel t cs = some (.agg ds, p)) {i : Nat} {f : Field} (hf : fs[i]? = some f) :
  ∃ fuel' d q, ds[i]? = some d ∧ DataW.trod enc P w base sp held fuel' f.type ((cs.drop f.offset).take (P.cellsOf f.type)) = some (d, q) := by
 obtain ⟨xs, n, rfl, hx, hl, hxl, hall⟩ := DataW.trod_struct ht h
 have h1 := hall i f hf
 have hi : i < fs.size := (Array.getElem?_eq_some_iff.1 hf).1
 obtain ⟨b, hb⟩ : ∃ b, xs[i]? = some b := ⟨xs[i]'(by omega), List.getElem?_eq_getElem (by omega)⟩
 rw [hb] at h1
 have hxs : xs.map (·.1) = ds := by
  have := congrArg Prod.fst hx
  simpa using this.symm
 exact ⟨n, b.1, b.2, by rw [← hxs]; simp [hb], h1⟩
theorem one_cell {cs : List Value} {o : Nat} {v : Value} (h : (cs.drop o).take 1 = [v]) : cs[o]? = some v := by
 have := congrArg (·[0]?) h
 simpa [List.getElem?_take, List.getElem?_drop] using this
theorem int_cell {fuel : Nat} {t : TypeId} {cs : List Value} {o : Nat} {k : IntKind} {z : Int} {q : List MemPlace} (hu : P.underlying t = some (.int k)) (h : DataW.trod enc P w base sp held fuel t ((cs.drop o).take 1) = some (.lit (.int k z), q)) : cs[o]? = some (.int k z) := by
 obtain ⟨n, h1, h2, _⟩ := DataW.trod_int hu h
 have h3 : (DataW.lit (.int k z) : DataW H) = .lit (.int k n) := congrArg Prod.fst h2
 simp only [DataW.lit.injEq, Lit.int.injEq, true_and] at h3
 rw [h3]
 exact one_cell h1
theorem str_cell {fuel : Nat} {t : TypeId} {cs : List Value} {o : Nat} {x : List UInt8} {q : List MemPlace} (hu : P.underlying t = some .string) (h : DataW.trod enc P w base sp held fuel t ((cs.drop o).take 1) = some (.lit (.string x), q)) : cs[o]? = some (.string ⟨x.toArray⟩) := by
 obtain ⟨s, h1, h2, _⟩ := DataW.trod_string hu h
 have h3 : (DataW.lit (.string x) : DataW H) = .lit (.string s.data.toList) := congrArg Prod.fst h2
 simp only [DataW.lit.injEq, Lit.string.injEq] at h3
 rw [h3]
 have h4 : (⟨s.data.toList.toArray⟩ : ByteArray) = s := by cases s; simp
 rw [h4]
 exact one_cell h1
theorem int_f {f : Field} {fuel : Nat} {cs : List Value} {k : IntKind} {z : Int} {q : List MemPlace} (hu : P.underlying f.type = some (.int k)) (hc : P.cellsOf f.type = 1) (h : DataW.trod enc P w base sp held fuel f.type ((cs.drop f.offset).take (P.cellsOf f.type)) = some (.lit (.int k z), q)) : cs[f.offset]? = some (.int k z) := by
 rw [hc] at h
 exact int_cell hu h
theorem trod_flt {fuel : Nat} {t : TypeId} {cs : List Value} {x : DataW H × List MemPlace} {k : FloatKind} (ht : P.underlying t = some (.float k)) (h : DataW.trod enc P w base sp held fuel t cs = some x) : ∃ n, cs = [.float k n] ∧ x = (.lit (.float k n), []) := by
 cases fuel with
 | zero => simp [DataW.trod] at h
 | succ n =>
  unfold DataW.trod at h
  rw [ht] at h
  split at h <;> simp_all
end
theorem slice_at {P : Program} {W : World} {n : String} {g : Nat} {t e : TypeId} {ds : List (DataW Unit)} (hn : P.globalNamed n = some g) (hy : (P.globals[g]?).map (·.type) = some t) (ht : P.underlying t = some (.slice e)) (hc : 0 < P.cellsOf e) (hl : 0 < ds.length) (h : VarReads P W n (.slice ds [])) :
  ∃ R c o, W.cell? ⟨g, 0, none⟩ = some (.slice (some ⟨R, o, none⟩) ds.length c) ∧ g < W.heap.size ∧ R < W.heap.size ∧ ∀ i, i < ds.length → ∃ ce fuel d q, ds[i]? = some d ∧ DataW.trod (fun _ => ()) P W 0 (fun _ => true) false fuel e ce = some (d, q) ∧ ∀ j, j < P.cellsOf e → W.cell? ⟨R, o + i * P.cellsOf e + j, none⟩ = ce[j]? := by
 obtain ⟨g', t', cs, fuel, p, hg, hty, hvar, hd⟩ := h
 obtain rfl := Option.some.inj (hn.symm.trans hg)
 obtain rfl := Option.some.inj (hy.symm.trans hty)
 rcases DataW.trod_slice ht hd with ⟨_, hx⟩ | ⟨a, len, cap, el, rs, m, rfl, hcs, hx, _, hlc, _, hel, helem, hsp, _⟩
 ·
  cases hx
 have e0 := congrArg Prod.fst hx
 simp only [DataW.slice.injEq] at e0
 obtain ⟨eE, eR⟩ := e0
 have hlen : len = ds.length := by
  have := congrArg List.length eE
  simp at this
  omega
 have hcell : ∀ i, i < ds.length → ∃ ce fuel d q, ds[i]? = some d ∧ DataW.trod (fun _ => ()) P W 0 (fun _ => true) false fuel e ce = some (d, q) ∧ ce.length = P.cellsOf e ∧ ∀ j, j < P.cellsOf e → W.cell? (a.add (i * P.cellsOf e + j)) = ce[j]? := by
  intro i hi
  have h1 := helem i (by omega)
  obtain ⟨b, hb⟩ : ∃ b, el[i]? = some b := ⟨el[i]'(by omega), List.getElem?_eq_getElem (by omega)⟩
  rw [hb] at h1
  obtain ⟨ce, hce, hte⟩ := Option.bind_eq_some_iff.1 h1
  obtain ⟨_, hl1, hcc⟩ := World.cells?_some hce
  exact ⟨ce, m, b.1, b.2, by rw [eE]; simp [hb], hte, hl1, fun j hj => by rw [← Addr.add_add]; exact hcc j hj⟩
 obtain ⟨R, o, sR⟩ := a
 obtain ⟨ce, _, _, _, _, _, hl1, hz⟩ := hcell 0 hl
 have h00 := hz 0 hc
 rw [List.getElem?_eq_getElem (by omega)] at h00
 have e1 : (Addr.add ⟨R, o, sR⟩ (0 * P.cellsOf e + 0)) = ⟨R, o, sR⟩ := by simp [Addr.add]
 rw [e1] at h00
 obtain rfl : sR = none := Go.Proofs.cell_spot h00
 have hv0 : W.cell? ⟨g, 0, none⟩ = some (.slice (some ⟨R, o, none⟩) ds.length cap) := by
  rw [World.var?_cell hg hvar 0, ← Array.getElem?_toList, hcs, hlen]
  rfl
 refine ⟨R, cap, o, hv0, lt_of_cell hv0, lt_of_cell h00, fun i hi => ?_⟩
 obtain ⟨ce, f, d, q, h1, h2, _, h3⟩ := hcell i hi
 refine ⟨ce, f, d, q, h1, h2, fun j hj => ?_⟩
 have := h3 j hj
 rw [Addr.add_lit] at this
 rw [show o + i * P.cellsOf e + j = o + (i * P.cellsOf e + j) by omega]
 exact this
theorem bool_at {P : Program} {W : World} {n : String} {g : Nat} {t : TypeId} {b : Bool} (hn : P.globalNamed n = some g) (hy : (P.globals[g]?).map (·.type) = some t) (ht : P.underlying t = some .bool) (h : VarReads P W n (.lit (.bool b))) : W.cell? ⟨g, 0, none⟩ = some (.bool b) ∧ g < W.heap.size := by
 obtain ⟨g', t', cs, fuel, p, hg, hty, hvar, hd⟩ := h
 obtain rfl := Option.some.inj (hn.symm.trans hg)
 obtain rfl := Option.some.inj (hy.symm.trans hty)
 obtain ⟨b', h1, h2⟩ := DataW.trod_bool ht hd
 have h3 : (DataW.lit (.bool b) : DataW Unit) = .lit (.bool b') := congrArg Prod.fst h2
 simp only [DataW.lit.injEq, Lit.bool.injEq] at h3
 subst h3
 have hv0 : W.cell? ⟨g, 0, none⟩ = some (.bool b) := by
  rw [World.var?_cell hg hvar 0, ← Array.getElem?_toList, h1]
  rfl
 exact ⟨hv0, lt_of_cell hv0⟩
theorem struct_at {P : Program} {W : World} {n : String} {g : Nat} {t : TypeId} {fs : Array Field} {ds : List (DataW Unit)} (hn : P.globalNamed n = some g) (hy : (P.globals[g]?).map (·.type) = some t) (ht : P.underlying t = some (.struct fs)) (h : VarReads P W n (.agg ds)) {i : Nat} {f : Field} {k : IntKind} {z : Int} (hf : fs[i]? = some f) (hd : ds[i]? = some (.lit (.int k z))) (hu : P.underlying f.type = some (.int k)) (hc : P.cellsOf f.type = 1) : W.cell? ⟨g, f.offset, none⟩ = some (.int k z) := by
 obtain ⟨g', t', cs, fuel, p, hg, hty, hvar, hdd⟩ := h
 obtain rfl := Option.some.inj (hn.symm.trans hg)
 obtain rfl := Option.some.inj (hy.symm.trans hty)
 obtain ⟨f', d, q, h1, h2⟩ := field_at ht hdd hf
 obtain rfl := Option.some.inj (hd.symm.trans h1)
 rw [World.var?_cell hg hvar, ← Array.getElem?_toList]
 exact int_f hu hc h2
end Go.Proofs.YtneoieigaakoaaaGreatDoor.lv
end
